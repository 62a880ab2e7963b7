import PyProof.Rows.All
import Wide.All
import OpenK.AllK
import Wide.FinOn
import PySem.Challenge.RW_oy0162_01
set_option Elab.async false
open PySem PySem.W PyProof.Rows
namespace Mine
section
set_option maxRecDepth 100000
set_option synthInstance.maxSize 1
set_option maxHeartbeats 0
open_top hd for PySem.Challenge.rw_oy0162_01
end

section
open PySem PySem.W PyProof.Rows PySem.Calls

/-- a call of a def of the text: from the ledger pre ++ news it gives back r, the ledger tl ++ news, and post of both -/
def Tell (w : World) (k : Nat) (f : Value) (args : List Value) (pre news : List (Addr × Obj)) (post : Value → List (Addr × Obj) → Prop) : Prop :=
  ∀ (p : Program) (loose : List Str) (mean : ExcName → Option Value) (mg mb : Str → Option Value) (dp un : Nat) (gd : Option (List Code)) (cn : Str) (cs : Scope) (a : Addr) (ccd : Value) (cl : List (Str × Addr)) (outer : List Env)
    (A₀ : Around) (base h₀ : Heap) (L : Addr) (m : Str → Option Value) (s : Shared) (Q E : Value → Shared → Prop),
    Below A₀ base outer h₀ → Fr h₀ L s.heap m → (Mine.hd.heap_39 w.params).In h₀ → News h₀ L s.heap (pre ++ news) → Top p loose mean mg mb h₀ → cs.kind = .function → dp + k < 500 → un + 10 * k < 500 →
    (∀ r tl h' tk', Fr h₀ L h' m → News h₀ L h' (tl ++ news) → post r tl → Q r { s with heap := h', toks := tk' }) →
    wpAny (model Challenge.rw_oy0162_01.row.prog w) (ktrTop dp un gd cn cs L a ccd cl outer) (call f args) Q E s

theorem Tell.use {w : World} {k : Nat} {f : Value} {args : List Value} {pre news : List (Addr × Obj)} {post : Value → List (Addr × Obj) → Prop} (H : Tell w k f args pre news post)
    {p : Program} {loose : List Str} {mean : ExcName → Option Value} {mg mb : Str → Option Value} {dp un : Nat} {gd : Option (List Code)} {cn : Str} {cs : Scope} {a : Addr} {ccd : Value} {cl : List (Str × Addr)} {outer : List Env}
    {A₀ : Around} {base h₀ : Heap} {L : Addr} {m : Str → Option Value} {s : Shared} {Q E : Value → Shared → Prop}
    (B : Below A₀ base outer h₀) (F : Fr h₀ L s.heap m) (X : (Mine.hd.heap_39 w.params).In h₀) (N : News h₀ L s.heap (pre ++ news)) (T : Top p loose mean mg mb h₀) (hk : cs.kind = .function) (hd : dp + k < 500) (hu : un + 10 * k < 500)
    (hret : ∀ r tl h' tk', Fr h₀ L h' m → News h₀ L h' (tl ++ news) → post r tl → Q r { s with heap := h', toks := tk' }) :
    wpAny (model Challenge.rw_oy0162_01.row.prog w) (ktrTop dp un gd cn cs L a ccd cl outer) (call f args) Q E s :=
  H p loose mean mg mb dp un gd cn cs a ccd cl outer A₀ base h₀ L m s Q E B F X N T hk hd hu hret
def retOf : Flow → Value
  | .ret v => v
  | _ => .none
/-- a body's end -/
def Ends (g : Heap) (L : Addr) (news : List (Addr × Obj)) (post : Value → List (Addr × Obj) → Prop) (s₀ : Shared) (fl : Flow) (s' : Shared) : Prop :=
  ∃ h' tk m' all tl, s' = { s₀ with heap := h', toks := tk } ∧ Fr g L h' m' ∧ News g L h' all ∧ (∀ p ∈ tl, p ∈ all) ∧ (∀ p ∈ news, p ∈ all) ∧ post (retOf fl) tl
theorem Ends.intro {g : Heap} {L : Addr} {news : List (Addr × Obj)} {post : Value → List (Addr × Obj) → Prop} {s₀ : Shared} {v : Value} {h' : Heap} {tk : Nat} {m' : Str → Option Value} {all : List (Addr × Obj)} (tl : List (Addr × Obj))
    (F : Fr g L h' m') (N : News g L h' all) (ht : ∀ p ∈ tl, p ∈ all) (hn : ∀ p ∈ news, p ∈ all) (hp : post v tl) : Ends g L news post s₀ (.ret v) { s₀ with heap := h', toks := tk } := ⟨h', tk, m', all, tl, rfl, F, N, ht, hn, hp⟩

theorem leaveE {h₀ g : Heap} {L L' : Addr} {m : Str → Option Value} {news : List (Addr × Obj)} {post : Value → List (Addr × Obj) → Prop} {s : Shared} {h₁ : Heap} {tk₁ : Nat} {Q E : Value → Shared → Prop} {fl : Flow} {s' : Shared}
    (hret : ∀ r tl h' tk', Fr h₀ L h' m → News h₀ L h' (tl ++ news) → post r tl → Q r { s with heap := h', toks := tk' })
    (h : Ends g L' news post { s with heap := h₁, toks := tk₁ } fl s') :
    LeaveK h₀ L m g (fun r s' => match r with | .ok (.ret v) => Q v s' | .ok _ => False | .error e => E e s') (retOf fl) s' := by
  obtain ⟨h', tk, m', all, tl, rfl, F, N, ht, hn, hp⟩ := h
  refine ⟨L', m', tl ++ news, F, fun p hp' => ?_, fun F' N' => hret _ _ _ _ F' N' hp⟩
  rcases List.mem_append.mp hp' with q | q
  · exact N p (ht p q)
  · exact N p (hn p q)

/-- a def of the text is entered -/
theorem enter {w : World} {k : Nat} {f : Addr} {args : List Value} {pre news : List (Addr × Obj)} {post : Value → List (Addr × Obj) → Prop} {name qual : Str} {params : Arguments} {body : List Stmt} {scope : Scope} {dV kV doc pm cdv ct oc : Value} {an od : Option Addr} {osl : Array (Option Value)} (binds : List (Str × Value))
    (ho : (Mine.hd.heap_39 w.params).lookup f = some ⟨oc, od, .func (fnOf name qual params body scope dV kV doc pm an cdv ct), osl⟩) (hcd : codeIn (Mine.hd.heap_39 w.params) cdv qual = true)
    (hbind : ∀ s : Shared, (Mine.hd.heap_39 w.params).In s.heap → BindsTo s (fnOf name qual params body scope dV kV doc pm an cdv ct) ⟨args, []⟩ binds) (hloc : ∀ y ∈ binds, scope.names.lookup y.1 = some .local)
    (h : ∀ (p : Program) (loose : List Str) (mean : ExcName → Option Value) (mg mb : Str → Option Value) (dp un : Nat) (gd : Option (List Code)) (cn : Str) (cs : Scope) (L a : Addr) (ccd : Value) (cl : List (Str × Addr)) (outer : List Env) (base g : Heap) (L' : Addr) (s : Shared),
      dp + k < 500 → un + 10 * k < 500 → cs.kind = .function → Fr g L' s.heap (fun y => binds.reverse.lookup y) → News g L' s.heap (pre ++ news) → Below (ktrTop dp un gd cn cs L a ccd cl outer) base (envX cn cs L a ccd cl :: outer) g → (Mine.hd.heap_39 w.params).In g → Top p loose mean mg mb g → (∀ p ∈ pre ++ news, p.1 < L') →
      wpAny (model Challenge.rw_oy0162_01.row.prog w) ((ktrTop dp un gd cn cs L a ccd cl outer).deeper (envOf qual scope L' f cdv)) (execs body (envOf qual scope L' f cdv)) (Ends g L' news post s) (fun _ _ => False) s)
    (hco : scope.isCoroutine = false) (hgen : scope.isGenerator = false) (hk : scope.kind = .function) (hcell : ∀ x ∈ scope.names, x.2 ≠ .cell) : Tell w k (.ref f) args pre news post := by
  intro p loose mean mg mb dp un gd cn cs a ccd cl outer A₀ base h₀ L m s Q E B F X N T hk' hd hu hret
  refine wpAny_call (callX_plain (cl := []) B F N T.nolimit rfl rfl hk' ((X.keeps F.keep) _ _ ho) rfl (codeRec_of (X.keeps F.keep) hcd) (Nat.lt_of_lt_of_le (Nat.lt_of_le_of_lt (Nat.le_add_right _ _) hd) (by decide)) (hbind s (X.keeps F.keep)) hloc (fun g L' h₁ FG F' N' B' st hlt => ?_) hcell hco hgen hk)
  exact wpAny_mono (h p loose mean mg mb dp un gd cn cs L a ccd cl outer base g L' { s with heap := h₁, toks := s.toks + binds.length } hd hu hk' F' N' B' (X.keeps st) (T.keeps st) hlt) (fun fl s' q => by cases fl <;> exact leaveE (E := E) hret q) fun _ _ q => q.elim

/-- a def of the text with cells is entered -/
theorem enterC {w : World} {k : Nat} {f : Addr} {args : List Value} {pre news : List (Addr × Obj)} {post : Value → List (Addr × Obj) → Prop} {name qual : Str} {params : Arguments} {body : List Stmt} {scope : Scope} {dV kV doc pm cdv ct oc : Value} {an od : Option Addr} {osl : Array (Option Value)} (binds : List (Str × Value))
    (ho : (Mine.hd.heap_39 w.params).lookup f = some ⟨oc, od, .func (fnOf name qual params body scope dV kV doc pm an cdv ct), osl⟩) (hcd : codeIn (Mine.hd.heap_39 w.params) cdv qual = true)
    (hbind : ∀ s : Shared, (Mine.hd.heap_39 w.params).In s.heap → BindsTo s (fnOf name qual params body scope dV kV doc pm an cdv ct) ⟨args, []⟩ binds)
    (hkind : (binds.all fun y => scope.names.lookup y.1 == some .local || scope.names.lookup y.1 == some .cell) = true) (hnd : ((cellsFrom 0 scope.names []).map (·.1)).Nodup)
    (h : ∀ (p : Program) (loose : List Str) (mean : ExcName → Option Value) (mg mb : Str → Option Value) (dp un : Nat) (gd : Option (List Code)) (cn : Str) (cs : Scope) (L a : Addr) (ccd : Value) (cl : List (Str × Addr)) (outer : List Env) (base g : Heap) (L' : Addr) (s : Shared) (cells : List (Addr × Obj)),
      dp + k < 500 → un + 10 * k < 500 → cs.kind = .function → Fr g L' s.heap (bindL (envOfC qual scope L' f cdv).kindOf binds fun _ => none) → News g L' s.heap (cells ++ (pre ++ news)) →
      CellsAre (bindC (envOfC qual scope L' f cdv).kindOf binds fun _ => none) (cellsFrom (L' + 1) scope.names []) cells → Below (ktrTop dp un gd cn cs L a ccd cl outer) base (envX cn cs L a ccd cl :: outer) g → (Mine.hd.heap_39 w.params).In g → Top p loose mean mg mb g → (∀ p ∈ pre ++ news, p.1 < L') →
      wpAny (model Challenge.rw_oy0162_01.row.prog w) ((ktrTop dp un gd cn cs L a ccd cl outer).deeper (envOfC qual scope L' f cdv)) (execs body (envOfC qual scope L' f cdv)) (Ends g L' news post s) (fun _ _ => False) s)
    (hco : scope.isCoroutine = false) (hgen : scope.isGenerator = false) (hk : scope.kind = .function) : Tell w k (.ref f) args pre news post := by
  intro p loose mean mg mb dp un gd cn cs a ccd cl outer A₀ base h₀ L m s Q E B F X N T hk' hd hu hret
  refine wpAny_call (callX_cells B F N T.nolimit rfl rfl hk' ((X.keeps F.keep) _ _ ho) rfl (codeRec_of (X.keeps F.keep) hcd) (Nat.lt_of_lt_of_le (Nat.lt_of_le_of_lt (Nat.le_add_right _ _) hd) (by decide)) (hbind s (X.keeps F.keep)) (kindsX hkind) hnd (fun g L' h₁ tk cells FG F' N' Y B' st hlt => ?_) hco hgen hk)
  exact wpAny_mono (h p loose mean mg mb dp un gd cn cs L a ccd cl outer base g L' { s with heap := h₁, toks := tk } cells hd hu hk' F' N' Y B' (X.keeps st) (T.keeps st) hlt) (fun fl s' q => by cases fl <;> exact leaveE (E := E) hret q) fun _ _ q => q.elim

/-- a def that the call has made is entered -/
theorem enterN {w : World} {k : Nat} {f : Addr} {args : List Value} {pre news : List (Addr × Obj)} {post : Value → List (Addr × Obj) → Prop} {name qual : Str} {params : Arguments} {body : List Stmt} {scope : Scope} {cl' : List (Str × Addr)} {doc pm ctv : Value} {c' : Addr} {oc : Obj} {vs : Array Value} {t : Tok} (binds : List (Str × Value))
    (ho : (f, fnMade name qual params body scope cl' doc pm c' ctv) ∈ pre ++ news) (hc : (c', oc) ∈ pre ++ news) (hd : oc.data = .fields vs) (hv : vs[1]? = some (.str qual t))
    (hbind : ∀ s : Shared, BindsTo s (fnX name qual params body scope cl' .none .none doc pm none (.ref c') ctv) ⟨args, []⟩ binds) (hloc : ∀ y ∈ binds, scope.names.lookup y.1 = some .local)
    (h : ∀ (p : Program) (loose : List Str) (mean : ExcName → Option Value) (mg mb : Str → Option Value) (dp un : Nat) (gd : Option (List Code)) (cn : Str) (cs : Scope) (L a : Addr) (ccd : Value) (cl : List (Str × Addr)) (outer : List Env) (base g : Heap) (L' : Addr) (s : Shared),
      dp + k < 500 → un + 10 * k < 500 → cs.kind = .function → Fr g L' s.heap (fun y => binds.reverse.lookup y) → News g L' s.heap (pre ++ news) → Below (ktrTop dp un gd cn cs L a ccd cl outer) base (envX cn cs L a ccd cl :: outer) g → (Mine.hd.heap_39 w.params).In g → Top p loose mean mg mb g → (∀ p ∈ pre ++ news, p.1 < L') →
      wpAny (model Challenge.rw_oy0162_01.row.prog w) ((ktrTop dp un gd cn cs L a ccd cl outer).deeper (envX qual scope L' f (.ref c') cl')) (execs body (envX qual scope L' f (.ref c') cl')) (Ends g L' news post s) (fun _ _ => False) s)
    (hco : scope.isCoroutine = false) (hgen : scope.isGenerator = false) (hk : scope.kind = .function) (hcell : ∀ x ∈ scope.names, x.2 ≠ .cell) : Tell w k (.ref f) args pre news post := by
  intro p loose mean mg mb dp un gd cn cs a ccd cl outer A₀ base h₀ L m s Q E B F X N T hk' hd' hu hret
  refine wpAny_call (callX_plain (cl := cl') B F N T.nolimit rfl rfl hk' (N _ ho).1 rfl (codeRec_news N hc hd hv) (Nat.lt_of_lt_of_le (Nat.lt_of_le_of_lt (Nat.le_add_right _ _) hd') (by decide)) (hbind s) hloc (fun g L' h₁ FG F' N' B' st hlt => ?_) hcell hco hgen hk)
  exact wpAny_mono (h p loose mean mg mb dp un gd cn cs L a ccd cl outer base g L' { s with heap := h₁, toks := s.toks + binds.length } hd' hu hk' F' N' B' (X.keeps st) (T.keeps st) hlt) (fun fl s' q => by cases fl <;> exact leaveE (E := E) hret q) fun _ _ q => q.elim
end

section
open PySem PySem.W PyProof.Rows PySem.Calls
theorem wpAny_ForA {prog : Program} {w : World} {A : Around} {E : Value → Shared → Prop} {s : Shared} {env : Env} {target iter : Expr} {body orelse : List Stmt} {pos : Pos} {Q : Flow → Shared → Prop}
    (h : wpAny (model prog w) A (eval iter env) (fun x s₁ => wpAny (model prog w) A (pyIter x) (fun it s₂ => codeAny (model prog w) A (.forLoop target it body orelse env) (fun r s' => match r with | .ok f => Q f s' | .error e => cameBackBy (model prog w) A env E e s') s₂) E s₁) E s)
    (hs : ∀ x, foldedSetIterable iter env x = pure x := by intro _; with_unfolding_all rfl) : wpAny (model prog w) A (exec (.For target iter body orelse pos) env) Q E s := wpAny_For h hs
end

section
open PySem PySem.W PyProof.Rows PySem.Calls

section
variable {prog : Program} {w : World} {A : Around} {E : Value → Shared → Prop} {s : Shared} {env : Env} {h₀ : Heap}

/-- no address of the ledger is d -/
def AllNe (d : Nat) : List (Addr × Obj) → Prop
  | [] => True
  | p :: r => @Ne Nat p.1 d ∧ AllNe d r
theorem allNe_of {d : Addr} : ∀ {l : List (Addr × Obj)}, (∀ p ∈ l, p.1 ≠ d) → AllNe d l
  | [], _ => trivial
  | p :: _, h => ⟨h p (.head _), allNe_of fun q hq => h q (.tail _ hq)⟩
/-- the frame's map in a loop: x the loop's name, ps what is known, stored what is forgotten -/
abbrev loopMap (x : Str) (v : Option Value) (ps : List (Str × Value)) (stored : List Str) (u m₀ : Str → Option Value) : Str → Option Value :=
  fun y => if y = x then v else kstB (fun z => if stored.contains z then u z else m₀ z) ps y

/-- a turn's end -/
def TurnAt {σ : Type} (h₀ : Heap) (L : Addr) (x : Str) (I : Addr) (oI : Obj) (Led : σ → List (Addr × Obj)) (news : List (Addr × Obj)) (ps : σ → List (Str × Value)) (stored : List Str) (m₀ : Str → Option Value) (P : σ → Prop) (s₁ s₂ : Shared) : Prop :=
  ∃ c h' tk m' all, s₂ = { s₁ with heap := h', toks := tk } ∧ Fr h₀ L h' m' ∧ News h₀ L h' all ∧ (I, oI) ∈ all ∧ (∀ p ∈ Led c, p ∈ all) ∧ (∀ p ∈ news, p ∈ all) ∧
    (∀ p ∈ ps c, m' p.1 = some p.2) ∧ (∀ z, z ≠ x → (∀ p ∈ ps c, z ≠ p.1) → stored.contains z = false → m' z = m₀ z) ∧ P c
def TurnTo {σ : Type} (h₀ : Heap) (L : Addr) (x : Str) (I : Addr) (oI : Obj) (Led : σ → List (Addr × Obj)) (news : List (Addr × Obj)) (ps : σ → List (Str × Value)) (stored : List Str) (m₀ : Str → Option Value) (P : σ → Prop) (s₁ : Shared) (Q : Flow → Shared → Prop) (f : Flow) (s₂ : Shared) : Prop :=
  match f with
  | .ret v => Q (.ret v) s₂
  | .brk => Q .next s₂
  | _ => TurnAt h₀ L x I oI Led news ps stored m₀ P s₁ s₂

theorem TurnAt.intro {σ : Type} {L : Addr} {x : Str} {I : Addr} {oI : Obj} {Led : σ → List (Addr × Obj)} {news : List (Addr × Obj)} {ps : σ → List (Str × Value)} {stored : List Str} {m₀ : Str → Option Value} {P : σ → Prop} {s₁ : Shared} (c : σ) {h' : Heap} {tk : Nat} {m' : Str → Option Value} {all : List (Addr × Obj)}
    (F : Fr h₀ L h' m') (N : News h₀ L h' all) (hI : (I, oI) ∈ all) (hl : ∀ p ∈ Led c, p ∈ all) (hn : ∀ p ∈ news, p ∈ all) (hk : ∀ p ∈ ps c, m' p.1 = some p.2)
    (hr : ∀ z, z ≠ x → (∀ p ∈ ps c, z ≠ p.1) → stored.contains z = false → m' z = m₀ z) (hp : P c) : TurnAt h₀ L x I oI Led news ps stored m₀ P s₁ { s₁ with heap := h', toks := tk } :=
  ⟨c, h', tk, m', all, rfl, F, N, hI, hl, hn, hk, hr, hp⟩

/-- what a loop over an iterator wants -/
theorem loop_walk {σ : Type} {R : Result → Shared → Prop} {Q : Flow → Shared → Prop} {x : Str} {px : Pos} {body orelse : List Stmt} {I : Addr} {fp : List Addr} {n : Nat} {PV : Nat → Value → Prop} {St : Nat → Heap → Prop} {cls : String} {m₀ : Str → Option Value} {news : List (Addr × Obj)}
    (Led : σ → List (Addr × Obj)) (ps : σ → List (Str × Value)) (stored : List Str) (P : Nat → σ → Prop) (c₀ : σ)
    (W : Walks prog w A I fp [I] n PV St) (hSt : ∀ i h, St i h → ∃ o, h.get? I = some o ∧ o.cls = .type cls) (hcls : ∀ i c, P i c → ∀ p ∈ Led c, p.2.cls ≠ .type cls)
    (hx : env.kindOf x = some .local) (hp : (env.scope.kind == .class || (env.scope.kind == .module && env.locals != env.globals)) = false)
    (hLI : env.locals ≠ I) (hI₀ : h₀.get? I = none) (hIn : ∀ p ∈ news, p.1 ≠ I)
    (hfp : ∀ b ∈ fp, b = I ∨ (∃ o, h₀.get? b = some o) ∨ ∃ o, (b, o) ∈ news)
    (hst : St 0 s.heap) (F : Fr h₀ env.locals s.heap m₀) (N : News h₀ env.locals s.heap (Led c₀ ++ news)) (hk : ∀ p ∈ ps c₀, m₀ p.1 = some p.2) (hP : P 0 c₀)
    (hR : ∀ f s', Q f s' → R (.ok f) s')
    (turn : ∀ (c : σ) i v (u : Str → Option Value) oI h tk, i < n → PV i v → P i c → oI.cls = .type cls →
      Fr h₀ env.locals h (loopMap x (some v) (ps c) stored u m₀) → News h₀ env.locals h ((I, oI) :: (Led c ++ news)) → AllNe I (Led c) →
      wpAny (model prog w) A (execs body env) (TurnTo h₀ env.locals x I oI Led news ps stored m₀ (P (i + 1)) { s with heap := h, toks := tk } Q) (fun _ _ => False) { s with heap := h, toks := tk })
    (done : ∀ (c : σ) (u : Str → Option Value) h tk, P n c → Fr h₀ env.locals h (loopMap x (u x) (ps c) stored u m₀) → News h₀ env.locals h (Led c ++ news) → wpAny (model prog w) A (execs orelse env) Q (fun _ _ => False) { s with heap := h, toks := tk }) :
    codeAny (model prog w) A (.forLoop (.Name x px) (.ref I) body orelse env) R s := by
  refine codeAny_forLoop (fun k s' => ∃ i c h' tk m', s' = { s with heap := h', toks := tk } ∧ St i h' ∧ Fr h₀ env.locals h' m' ∧ News h₀ env.locals h' (Led c ++ news) ∧
      (∀ p ∈ ps c, m' p.1 = some p.2) ∧ (∀ z, z ≠ x → (∀ p ∈ ps c, z ≠ p.1) → stored.contains z = false → m' z = m₀ z) ∧ P i c ∧ i ≤ n ∧ k = n + 1 - i) ?_ (n + 1)
    ⟨0, c₀, s.heap, s.toks, m₀, rfl, hst, F, N, hk, fun _ _ _ _ => rfl, hP, Nat.zero_le _, rfl⟩
  rintro k s' ⟨i, c, h', tk, m', rfl, hst', F', N', h1, h2, hP', hi, rfl⟩
  have off : ∀ (i : Nat) (c : σ) (h : Heap), P i c → (∃ o, h.get? I = some o ∧ o.cls = .type cls) → (∀ p ∈ Led c, h.get? p.1 = some p.2) → ∀ p ∈ Led c, p.1 ≠ I := by
    rintro i c h hPc ⟨o, ho, hc⟩ hl p hp' e
    have := hl p hp'
    rw [e, ho] at this
    exact hcls i c hPc p hp' (by rw [← Option.some.inj this]; exact hc)
  have offI := off i c h' hP' (hSt _ _ hst') fun p hp' => (N' p (List.mem_append_left _ hp')).1
  have keep : ∀ h₁ : Heap, (∀ b o, b ∉ [I] → h'.get? b = some o → h₁.get? b = some o) → Fr h₀ env.locals h₁ m' ∧ News h₀ env.locals h₁ (Led c ++ news) := fun h₁ hk₁ => by
    refine ⟨⟨F'.ns.at' fun o e => hk₁ _ o (by simpa using hLI) e, fun b o e => hk₁ b o (fun hb => ?_) (F'.keep b o e), F'.above⟩, fun p hp' => ⟨hk₁ _ _ (fun hb => ?_) (N' p hp').1, (N' p hp').2⟩⟩
    · rw [List.mem_singleton.mp hb, hI₀] at e; cases e
    · rcases List.mem_append.mp hp' with q | q
      · exact offI p q (List.mem_singleton.mp hb)
      · exact hIn p q (List.mem_singleton.mp hb)
  by_cases hlt : i < n
  · refine W.item i _ _ _ hlt hst' fun v h₁ tk₁ hPv hst₁ hk₁ => ?_
    obtain ⟨F₁, N₁⟩ := keep h₁ hk₁
    refine wpAny_assign_Name (wpAny_storeName_local hx F₁.ns (fun h₂ hn₂ hs₂ => ?_) hp)
    have F₂ := F₁.set hn₂ hs₂
    have N₂ := N₁.set hs₂
    obtain ⟨oI, hoI, hcI⟩ := hSt _ _ hst₁
    have hoI₂ : h₂.get? I = some oI := (hs₂.2 I (Ne.symm hLI)).trans hoI
    have NI : News h₀ env.locals h₂ ((I, oI) :: (Led c ++ news)) := fun p hp' => by
      rcases List.mem_cons.mp hp' with rfl | q
      · exact ⟨hoI₂, Ne.symm hLI, hI₀⟩
      · exact N₂ p q
    refine wpAny_mono (turn c i v m' oI h₂ _ hlt hPv hP' hcI (kst_fr h1 h2 F₂) NI (allNe_of offI)) (fun f s₃ h₃ => ?_) fun _ _ e => e.elim
    have fin : TurnAt h₀ env.locals x I oI Led news ps stored m₀ (P (i + 1)) { s with heap := h₂, toks := tk₁ + 1 } s₃ → ∃ m, m < n + 1 - i ∧ ∃ i c h' tk m', s₃ = { s with heap := h', toks := tk } ∧ St i h' ∧ Fr h₀ env.locals h' m' ∧ News h₀ env.locals h' (Led c ++ news) ∧
      (∀ p ∈ ps c, m' p.1 = some p.2) ∧ (∀ z, z ≠ x → (∀ p ∈ ps c, z ≠ p.1) → stored.contains z = false → m' z = m₀ z) ∧ P i c ∧ i ≤ n ∧ m = n + 1 - i := by
      rintro ⟨c', h₃', tk₃, m₃, all, rfl, F₃, N₃, hI₃, hl₃, hn₃, g1, g2, g3⟩
      refine ⟨n + 1 - (i + 1), by omega, i + 1, c', h₃', tk₃, m₃, rfl, ?_, F₃, fun p hp' => ?_, g1, g2, g3, hlt, rfl⟩
      · refine W.frame _ _ _ hst₁ fun b hb o e => ?_
        have e₂ : b ≠ env.locals → h₂.get? b = some o := fun hb' => (hs₂.2 b hb').trans e
        rcases hfp b hb with rfl | ⟨o', ho'⟩ | ⟨o', ho'⟩
        · rw [hoI] at e; rw [← Option.some.inj e]; exact (N₃ _ hI₃).1
        · have q := F₂.keep b o' ho'
          have hbL : b ≠ env.locals := fun z => Nat.lt_irrefl _ (Nat.lt_of_lt_of_le (Heap.lt_size (z ▸ ho')) F'.above)
          rw [e₂ hbL] at q
          rw [Option.some.inj q]
          exact F₃.keep b o' ho'
        · have q := N₂ (b, o') (List.mem_append_right _ ho')
          have q1 : h₂.get? b = some o' := q.1
          rw [e₂ q.2.1] at q1
          rw [Option.some.inj q1]
          exact (N₃ _ (hn₃ _ ho')).1
      · rcases List.mem_append.mp hp' with q | q
        · exact N₃ _ (hl₃ p q)
        · exact N₃ _ (hn₃ p q)
    cases f with
    | ret v => exact hR _ _ h₃
    | brk => exact hR _ _ h₃
    | next => exact fin h₃
    | cont => exact fin h₃
  · have hin : i = n := by omega
    subst hin
    refine W.done _ _ _ hst' fun h₁ tk₁ hk₁ => ?_
    obtain ⟨F₁, N₁⟩ := keep h₁ hk₁
    have em : (fun y => if y = x then m' y else kstB (fun z => if stored.contains z then m' z else m₀ z) (ps c) y) = loopMap x (m' x) (ps c) stored m' m₀ := by
      funext y
      by_cases hy : y = x
      · subst hy; simp [loopMap]
      · simp [loopMap, hy]
    have F₁' := kst_frOut h1 h2 F₁
    rw [em] at F₁'
    exact wpAny_mono (done c m' h₁ tk₁ hP' F₁' N₁) (fun f s' q => hR f s' q) fun _ _ e => e.elim

/-- a for over a list of the ledger -/
theorem for_list {σ : Type} {Q : Flow → Shared → Prop} {x : Str} {px : Pos} {body orelse : List Stmt} {l : Addr} {vs : List Value} {nn : Nat} {m₀ : Str → Option Value} {news : List (Addr × Obj)}
    (Led : σ → List (Addr × Obj)) (ps : σ → List (Str × Value)) (stored : List Str) (P : Nat → σ → Prop) (c₀ : σ)
    (hh : A.handled = none) (hl : (l, listOf vs.toArray nn) ∈ news) (hcls : ∀ i c, P i c → ∀ p ∈ Led c, p.2.cls ≠ .type "list_iterator")
    (hx : env.kindOf x = some .local) (hp : (env.scope.kind == .class || (env.scope.kind == .module && env.locals != env.globals)) = false)
    (F : Fr h₀ env.locals s.heap m₀) (N : News h₀ env.locals s.heap (Led c₀ ++ news)) (hk : ∀ p ∈ ps c₀, m₀ p.1 = some p.2) (hP : P 0 c₀)
    (turn : ∀ (c : σ) i v (u : Str → Option Value) I oI h tk, i < vs.length → vs[i]? = some v → P i c → oI.cls = .type "list_iterator" → (∀ p ∈ news, p.1 < I) →
      Fr h₀ env.locals h (loopMap x (some v) (ps c) stored u m₀) → News h₀ env.locals h ((I, oI) :: (Led c ++ news)) → AllNe I (Led c) →
      wpAny (model prog w) A (execs body env) (TurnTo h₀ env.locals x I oI Led news ps stored m₀ (P (i + 1)) { s with heap := h, toks := tk } Q) (fun _ _ => False) { s with heap := h, toks := tk })
    (done : ∀ (c : σ) (u : Str → Option Value) h tk, P vs.length c → Fr h₀ env.locals h (loopMap x (u x) (ps c) stored u m₀) → News h₀ env.locals h (Led c ++ news) → wpAny (model prog w) A (execs orelse env) Q (fun _ _ => False) { s with heap := h, toks := tk }) :
    wpAny (model prog w) A (pyIter (.ref l)) (fun it s₂ => codeAny (model prog w) A (.forLoop (.Name x px) it body orelse env) (fun r s' => match r with | .ok f => Q f s' | .error e => cameBackBy (model prog w) A env E e s') s₂) E s := by
  have hls : s.heap.IsList l vs.toArray := ⟨_, (N _ (List.mem_append_right _ hl)).1, rfl, nn, rfl⟩
  have hne : l ≠ s.heap.objs.size := Nat.ne_of_lt (Heap.lt_size (N _ (List.mem_append_right _ hl)).1)
  refine wpAny_pyIter_list hls ?_
  have W := Walks.list (prog := prog) (w := w) hh s.heap.objs.size l hne vs.toArray
  have hlen : vs.toArray.size = vs.length := by simp
  rw [hlen] at W
  refine loop_walk (s := { s with heap := s.heap.push { cls := .type "list_iterator", data := .fields #[.ref l, .int 0 0] } }) (cls := "list_iterator") Led ps stored P c₀ W (fun i h st => let ⟨o, ho, hc, _⟩ := st.1; ⟨o, ho, hc⟩) hcls hx hp (Nat.ne_of_lt F.ns.lt) (next_is_new F) (fun p hp' => Nat.ne_of_lt (Heap.lt_size (N p (List.mem_append_right _ hp')).1)) ?_
    ⟨⟨_, Heap.get?_push_size _ rfl, rfl, rfl⟩, hls.at fun o e => Heap.get?_push_of_some _ e⟩ (F.push _) (fun p hp' => ⟨Heap.get?_push_of_some _ (N p hp').1, (N p hp').2⟩) hk hP (fun f s' q => q) ?_ ?_
  · intro b hb
    rcases List.mem_cons.mp hb with rfl | hb
    · exact .inl rfl
    · rw [List.mem_singleton.mp hb]; exact .inr (.inr ⟨_, hl⟩)
  · intro c i v u oI h tk hi hv hP' hc F' N' ho
    exact turn c i v u _ oI h tk hi (by simpa using hv) hP' hc (fun p hp' => Heap.lt_size (N p (List.mem_append_right _ hp')).1) F' N' ho
  · intro c u h tk hP' F' N'
    exact done c u h tk hP' F' N'

/-- a for over a range -/
theorem for_range {σ : Type} {Q : Flow → Shared → Prop} {x : Str} {px : Pos} {body orelse : List Stmt} {r : Addr} {a₀ b₀ : Int} {t₀ u₀ v₀ : Tok} {n : Nat} {m₀ : Str → Option Value} {news : List (Addr × Obj)}
    (Led : σ → List (Addr × Obj)) (ps : σ → List (Str × Value)) (stored : List Str) (P : Nat → σ → Prop) (c₀ : σ)
    (hh : A.handled = none) (hr : IsRange s.heap r a₀ b₀ 1 t₀ u₀ v₀) (hsmall : Builtin.Range.small a₀ b₀ 1 = true) (hn : Builtin.Range.rangeSize a₀ b₀ 1 = (n : Int)) (hcls : ∀ i c, P i c → ∀ p ∈ Led c, p.2.cls ≠ .type "range_iterator")
    (hx : env.kindOf x = some .local) (hp : (env.scope.kind == .class || (env.scope.kind == .module && env.locals != env.globals)) = false)
    (F : Fr h₀ env.locals s.heap m₀) (N : News h₀ env.locals s.heap (Led c₀ ++ news)) (hk : ∀ p ∈ ps c₀, m₀ p.1 = some p.2) (hP : P 0 c₀)
    (turn : ∀ (c : σ) (i : Nat) (t : Tok) (u : Str → Option Value) I oI h tk, i < n → P i c → oI.cls = .type "range_iterator" → (∀ p ∈ news, p.1 < I) →
      Fr h₀ env.locals h (loopMap x (some (.int (a₀ + (i : Int)) t)) (ps c) stored u m₀) → News h₀ env.locals h ((I, oI) :: (Led c ++ news)) → AllNe I (Led c) →
      wpAny (model prog w) A (execs body env) (TurnTo h₀ env.locals x I oI Led news ps stored m₀ (P (i + 1)) { s with heap := h, toks := tk } Q) (fun _ _ => False) { s with heap := h, toks := tk })
    (done : ∀ (c : σ) (u : Str → Option Value) h tk, P n c → Fr h₀ env.locals h (loopMap x (u x) (ps c) stored u m₀) → News h₀ env.locals h (Led c ++ news) → wpAny (model prog w) A (execs orelse env) Q (fun _ _ => False) { s with heap := h, toks := tk }) :
    wpAny (model prog w) A (pyIter (.ref r)) (fun it s₂ => codeAny (model prog w) A (.forLoop (.Name x px) it body orelse env) (fun r s' => match r with | .ok f => Q f s' | .error e => cameBackBy (model prog w) A env E e s') s₂) E s := by
  refine wpAny_pyIter_range hr hsmall ?_
  have W : Walks prog w A s.heap.objs.size [s.heap.objs.size] [s.heap.objs.size] n (fun i v => i < n ∧ ∃ t, v = .int (a₀ + i * 1) t)
      (fun i h => IsRangeIter h s.heap.objs.size (a₀ + (i : Nat) * 1) ((n : Int) - (i : Nat)) 1) := (Walks.range hh _ a₀ 1 n).bound
  refine loop_walk (s := { s with heap := s.heap.push _ }) (cls := "range_iterator") Led ps stored P c₀ W (fun i h st => ⟨_, st, rfl⟩) hcls hx hp (Nat.ne_of_lt F.ns.lt) (next_is_new F) (fun p hp' => Nat.ne_of_lt (Heap.lt_size (N p (List.mem_append_right _ hp')).1)) ?_
    (by show IsRangeIter _ _ _ _ _; rw [hn]; simpa using Heap.get?_push_size _ rfl) (F.push _) (fun p hp' => ⟨Heap.get?_push_of_some _ (N p hp').1, (N p hp').2⟩) hk hP (fun f s' q => q) ?_ ?_
  · intro b hb
    exact .inl (List.mem_singleton.mp hb)
  · rintro c i v u oI h tk hi ⟨_, t, rfl⟩ hP' hc F' N' ho
    have e1 : a₀ + (i : Int) * 1 = a₀ + (i : Int) := by omega
    rw [e1] at F'
    exact turn c i t u _ oI h tk hi hP' hc (fun p hp' => Heap.lt_size (N p (List.mem_append_right _ hp')).1) F' N' ho
  · intro c u h tk hP' F' N'
    exact done c u h tk hP' F' N'
end
end
section
open PySem PySem.W PyProof.Rows PySem.Calls
theorem TurnTo.next {σ : Type} {h₀ : Heap} {L : Addr} {x : Str} {I : Addr} {oI : Obj} {Led : σ → List (Addr × Obj)} {news : List (Addr × Obj)} {ps : σ → List (Str × Value)} {stored : List Str} {m₀ : Str → Option Value} {P : σ → Prop} {s₁ s₂ : Shared} {Q : Flow → Shared → Prop}
    (h : TurnAt h₀ L x I oI Led news ps stored m₀ P s₁ s₂) : TurnTo h₀ L x I oI Led news ps stored m₀ P s₁ Q .next s₂ := h
theorem TurnTo.cont {σ : Type} {h₀ : Heap} {L : Addr} {x : Str} {I : Addr} {oI : Obj} {Led : σ → List (Addr × Obj)} {news : List (Addr × Obj)} {ps : σ → List (Str × Value)} {stored : List Str} {m₀ : Str → Option Value} {P : σ → Prop} {s₁ s₂ : Shared} {Q : Flow → Shared → Prop}
    (h : TurnAt h₀ L x I oI Led news ps stored m₀ P s₁ s₂) : TurnTo h₀ L x I oI Led news ps stored m₀ P s₁ Q .cont s₂ := h
theorem TurnTo.brk {σ : Type} {h₀ : Heap} {L : Addr} {x : Str} {I : Addr} {oI : Obj} {Led : σ → List (Addr × Obj)} {news : List (Addr × Obj)} {ps : σ → List (Str × Value)} {stored : List Str} {m₀ : Str → Option Value} {P : σ → Prop} {s₁ s₂ : Shared} {Q : Flow → Shared → Prop}
    (h : Q .next s₂) : TurnTo h₀ L x I oI Led news ps stored m₀ P s₁ Q .brk s₂ := h
theorem allNe_to {d : Nat} : ∀ {l : List (Addr × Obj)}, AllNe d l → ∀ p ∈ l, p.1 ≠ d
  | [], _, _, h => nomatch h
  | _ :: _, ⟨h1, h2⟩, p, h => by
    rcases List.mem_cons.mp h with rfl | h
    · exact h1
    · exact allNe_to h2 p h
theorem ne_of_lts {d : Addr} {l : List (Addr × Obj)} (h : ∀ p ∈ l, p.1 < d) : ∀ p ∈ l, p.1 ≠ d := fun p hp => Nat.ne_of_lt (h p hp)
/-- a goal at which the walk stands still -/
def Hold (P : Prop) : Prop := P
theorem hold_it {P : Prop} (h : Hold P) : P := h
theorem allLt_mono {a b : Nat} (h : a ≤ b) : ∀ {l : List (Addr × Obj)}, AllLt a l → AllLt b l
  | [], _ => trivial
  | _ :: _, ⟨h1, h2⟩ => ⟨Nat.lt_of_lt_of_le h1 h, allLt_mono h h2⟩
theorem intsAre_push' {us : List Value} {ns : List Int} {n n' : Int} {t : Tok} (h : IntsAre us ns) (e : n = n') : IntsAre (us ++ [.int n t]) (ns ++ [n']) := by subst e; exact IntsAre.append h (.cons n t .nil)
theorem intsAre_push {us : List Value} {ns : List Int} {n : Int} {t : Tok} (h : IntsAre us ns) : IntsAre (us ++ [.int n t]) (ns ++ [n]) := IntsAre.append h (.cons n t .nil)
end
section
open PySem PySem.W PyProof.Rows PySem.Calls
abbrev itObj (l : Addr) (i : Nat) : Obj := ⟨.type "list_iterator", none, .fields #[.ref l, .int i 0], #[]⟩
section
variable {prog : Program} {w : World} {A : Around} {E : Value → Shared → Prop} {s : Shared} {env : Env} {h₀ : Heap}
theorem iter_list {L l : Addr} {m : Str → Option Value} {news : List (Addr × Obj)} {vs : List Value} {c : Nat} {Q : Value → Shared → Prop} (F : Fr h₀ L s.heap m) (N : News h₀ L s.heap news) (hp : (l, listOf vs.toArray c) ∈ news)
    (h : ∀ (I : Addr) h', Fr h₀ L h' m → News h₀ L h' ((I, itObj l 0) :: news) → (∀ p ∈ news, p.1 < I) → Q (.ref I) { s with heap := h' }) :
    wpAny (model prog w) A (call (.builtin "iter") [.ref l]) Q E s := by
  have hls : s.heap.IsList l vs.toArray := ⟨_, (N _ hp).1, rfl, c, rfl⟩
  refine call_function_entry (by decide +kernel) (by decide +kernel) kdk_entry_iter (kdk_args_iter _) ?_
  unfold Builtin.«iter»
  refine wpAny_bind (m := someArgs "iter" 1 2 _) (wpAny_of_eq (a := [Value.ref l]) (by first | rfl | kernel_rfl!) ?_)
  show wpAny _ _ (pyIter (.ref l) >>= _) _ _ _
  refine wpAny_bind (wpAny_pyIter_list hls ?_)
  exact wpAny_pure ⟨_, rfl, h _ _ (F.push _) (News.push F N _ rfl) (fun q hq => Heap.lt_size (N q hq).1)⟩

/-- a for over a list's iterator of the ledger -/
theorem for_iter {σ : Type} {Q : Flow → Shared → Prop} {x : Str} {px : Pos} {body orelse : List Stmt} {I l : Addr} {vs : List Value} {nn : Nat} {m₀ : Str → Option Value} {news : List (Addr × Obj)}
    (Led : σ → List (Addr × Obj)) (ps : σ → List (Str × Value)) (stored : List Str) (P : Nat → σ → Prop) (c₀ : σ)
    (hh : A.handled = none) (hl : (l, listOf vs.toArray nn) ∈ news) (hcls : ∀ i c, P i c → ∀ p ∈ Led c, p.2.cls ≠ .type "list_iterator")
    (hx : env.kindOf x = some .local) (hp : (env.scope.kind == .class || (env.scope.kind == .module && env.locals != env.globals)) = false)
    (F : Fr h₀ env.locals s.heap m₀) (N : News h₀ env.locals s.heap ((I, itObj l 0) :: (Led c₀ ++ news))) (hlt : ∀ p ∈ news, p.1 < I) (hk : ∀ p ∈ ps c₀, m₀ p.1 = some p.2) (hP : P 0 c₀)
    (turn : ∀ (c : σ) i v (u : Str → Option Value) oI h tk, i < vs.length → vs[i]? = some v → P i c → oI.cls = .type "list_iterator" →
      Fr h₀ env.locals h (loopMap x (some v) (ps c) stored u m₀) → News h₀ env.locals h ((I, oI) :: (Led c ++ news)) → AllNe I (Led c) →
      wpAny (model prog w) A (execs body env) (TurnTo h₀ env.locals x I oI Led news ps stored m₀ (P (i + 1)) { s with heap := h, toks := tk } Q) (fun _ _ => False) { s with heap := h, toks := tk })
    (done : ∀ (c : σ) (u : Str → Option Value) h tk, P vs.length c → Fr h₀ env.locals h (loopMap x (u x) (ps c) stored u m₀) → News h₀ env.locals h (Led c ++ news) → wpAny (model prog w) A (execs orelse env) Q (fun _ _ => False) { s with heap := h, toks := tk }) :
    wpAny (model prog w) A (pyIter (.ref I)) (fun it s₂ => codeAny (model prog w) A (.forLoop (.Name x px) it body orelse env) (fun r s' => match r with | .ok f => Q f s' | .error e => cameBackBy (model prog w) A env E e s') s₂) E s := by
  have hls : s.heap.IsList l vs.toArray := ⟨_, (N _ (List.mem_cons_of_mem _ (List.mem_append_right _ hl))).1, rfl, nn, rfl⟩
  have NI := N _ List.mem_cons_self
  have W := Walks.list (prog := prog) (w := w) hh I l (Nat.ne_of_lt (hlt _ hl)) vs.toArray
  have hlen : vs.toArray.size = vs.length := by simp
  rw [hlen] at W
  have st0 : s.heap.IsListIter I l 0 ∧ s.heap.IsList l vs.toArray := ⟨⟨_, NI.1, rfl, rfl⟩, hls⟩
  refine W.self 0 s _ _ st0 ?_
  refine loop_walk (cls := "list_iterator") Led ps stored P c₀ W (fun i h st => let ⟨o, ho, hc, _⟩ := st.1; ⟨o, ho, hc⟩) hcls hx hp NI.2.1.symm NI.2.2 (fun p hp' => Nat.ne_of_lt (hlt p hp')) ?_
    st0 F (fun p hp' => N p (List.mem_cons_of_mem _ hp')) hk hP (fun f s' q => q) ?_ ?_
  · intro b hb
    rcases List.mem_cons.mp hb with rfl | hb
    · exact .inl rfl
    · rw [List.mem_singleton.mp hb]; exact .inr (.inr ⟨_, hl⟩)
  · intro c i v u oI h tk hi hv hP' hc F' N' ho
    exact turn c i v u oI h tk hi (by simpa using hv) hP' hc F' N' ho
  · intro c u h tk hP' F' N'
    exact done c u h tk hP' F' N'
end
end
section
open PySem PySem.W PyProof.Rows PySem.Calls
theorem lm_base {x z : Str} {v : Option Value} {ps : List (Str × Value)} {stored : List Str} {u m₀ : Str → Option Value} (h1 : z ≠ x) (h2 : ∀ p ∈ ps, z ≠ p.1) (h3 : stored.contains z = false) : loopMap x v ps stored u m₀ z = m₀ z := by
  have k : ∀ (ps : List (Str × Value)), (∀ p ∈ ps, z ≠ p.1) → kstB (fun z => if stored.contains z then u z else m₀ z) ps z = m₀ z := by
    intro ps
    induction ps with
    | nil => intro _; show (if stored.contains z = true then u z else m₀ z) = m₀ z; rw [if_neg (by rw [h3]; decide)]
    | cons p r ih =>
      intro h
      show (if z = p.1 then some p.2 else _) = _
      rw [if_neg (h p List.mem_cons_self)]
      exact ih fun q hq => h q (List.mem_cons_of_mem _ hq)
  show (if z = x then v else _) = _
  rw [if_neg h1]
  exact k ps h2
theorem lm_set {y z : Str} {v w : Option Value} {m : Str → Option Value} {stored : List Str} (h3 : stored.contains z = false) (hy : stored.contains y = true) (hr : m z = w) : (if z = y then v else m z) = w := by
  rw [if_neg (fun e => by rw [e, hy] at h3; cases h3)]; exact hr
theorem lm_ps {z : Str} {q : Str × Value} {v w : Option Value} {m : Str → Option Value} {ps : List (Str × Value)} (h2 : ∀ p ∈ ps, z ≠ p.1) (hq : q ∈ ps) (hr : m z = w) : (if z = q.1 then v else m z) = w := by
  rw [if_neg (h2 q hq)]; exact hr
end

open PySem PySem.W PyProof.Rows PySem.Calls
local macro_rules | `(tactic| walk_at $s:str) => `(tactic| k_extra $s)
local macro_rules | `(tactic| size_fits) => `(tactic| (rw [PySem.sizeLine_eq]; simp only [List.size_toArray, List.length_cons]; omega))
local macro_rules | `(tactic| k_all) => `(tactic| first | exact ne_of_lts (kst_ltOf (by assumption)) | exact allNe_to (by assumption) | exact ne_of_lts (by assumption))
local macro_rules | `(tactic| k_room) => `(tactic| ktr_room)
section
local macro_rules | `(tactic| omega) => `(tactic| lia)

section
open PySem PySem.W PyProof.Rows PySem.Calls
set_option maxRecDepth 100000
set_option maxHeartbeats 0
set_option linter.unusedSimpArgs false
def letterOf (wide x : Int) : Int := Int.fmod x wide * Int.fdiv 255 (wide - 1)
def rowStep (wide : Int) (once : Bool) (row : List Int) (x : Int) : List Int :=
  if once = true ∧ letterOf wide x ∈ row then row else row ++ [letterOf wide x]
def rowOf (wide : Int) (once : Bool) (ns : List Int) : List Int := ns.foldl (rowStep wide once) []

theorem rowStep_len (wide : Int) (once : Bool) (row : List Int) (x : Int) : (rowStep wide once row x).length ≤ row.length + 1 := by
  unfold rowStep
  split <;> simp
theorem foldl_row_len (wide : Int) (once : Bool) : ∀ (ns row : List Int), (ns.foldl (rowStep wide once) row).length ≤ row.length + ns.length
  | [], _ => by simp
  | n :: r, row => by
    have h1 := foldl_row_len wide once r (rowStep wide once row n)
    have h2 := rowStep_len wide once row n
    simp only [List.foldl_cons, List.length_cons]
    omega
theorem rowOf_len (wide : Int) (once : Bool) (ns : List Int) : (rowOf wide once ns).length ≤ ns.length := by
  have := foldl_row_len wide once ns []
  simpa [rowOf] using this
theorem rowOf_take {wide : Int} {once : Bool} {ns : List Int} {i : Nat} {n : Int} (h : ns[i]? = some n) : rowOf wide once (ns.take (i + 1)) = rowStep wide once (rowOf wide once (ns.take i)) n := by
  unfold rowOf
  rw [List.take_add_one, h]
  simp


theorem row_tell (w : World) {l : Addr} {vs : List Value} {ns : List Int} {c : Nat} {wide : Int} {t : Tok} {once : Bool} {news : List (Addr × Obj)} (hl : (l, listOf vs.toArray c) ∈ news) (hi : IntsAre vs ns) (hsz : ns.length ≤ 63) (hw : 2 ≤ wide) (hw' : wide ≤ 256) :
    Tell w 1 (.ref 117) [.ref l, .int wide t, .bool once] [] news (fun r tl => ∃ D us c', r = .ref D ∧ tl = [(D, listOf us.toArray c')] ∧ IntsAre us (rowOf wide once ns) ∧ ∀ q ∈ news, q.1 < D) := by
  w_top off
  k_with_none
  (k_with "exec For Name Name cons nil" => (k_here; refine wpAny_ForA ?_))
  (k_with "exec For Name Call cons nil" => (k_here; refine wpAny_ForA ?_))
  (k_with "exec For Name List cons nil" => (k_here; refine wpAny_ForA ?_))
  (k_with "exec For Tuple Call cons nil" => (k_here; refine wpAny_ForA ?_))
  (k_with "exec For Tuple Name cons cons" => (k_here; refine wpAny_ForA ?_))
  (k_with "exec For Name Name cons cons" => (k_here; refine wpAny_ForA ?_))
  have hfill : (Mine.hd.heap_39 w.params).In default → Challenge.rw_oy0162_01 = Challenge.rw_oy0162_01 := by
    k_fill
    intro _; rfl
  clear hfill
  k_dflt (refine enter [(Str.ofString "numbers", .ref l), (Str.ofString "wide", .int wide t), (Str.ofString "once", .bool once)] (by k_is) (by k_is) (fun s _ => BindsTo.of_eq rfl) (locs rfl) ?_ rfl rfl rfl (by decide))
  intro p loose mean mg mb dp un gd cn cs L a ccd cl outer base g L' s hdp hun hcs F N B X T lt
  simp only [List.nil_append] at N lt
  try dsimp only
  try k_fold
  k_steps
  rename_i D h1 l1 h2 F' N'
  refine for_list (σ := List Value × Nat) (news := news) (fun c => [(D, listOf c.1.toArray c.2)]) (fun _ => []) [Str.ofString "letter"] (fun i c => IntsAre c.1 (rowOf wide once (ns.take i))) ([], 0) rfl hl ?hcls rfl rfl F' N' (by simp) ?hP ?turn ?done
  case hcls => intro _ c _ p hp; simp at hp; subst hp; simp
  case hP => exact .nil
  case turn =>
    intro c i v u I oI h tk hi' hv hP hoI lI F1 N1 hoff
    obtain ⟨n, t', e, hn⟩ := IntsAre.at hi i v hv
    subst e
    simp only [List.cons_append, List.nil_append] at N1
    clear F' N'
    have hlen := hP.length
    have hle := rowOf_len wide once (ns.take i)
    have hlt : (ns.take i).length ≤ 63 := by rw [List.length_take]; omega
    simp only [AllNe, and_true] at hoff
    k_steps
    · refine TurnTo.next (TurnAt.intro c (by assumption) (by assumption) (by kcf_m) (by kcf_all) (by kcf_all) (by kst_all) (by intro z h1 h2 h3; have h3' := h3; simp only [List.contains_cons, List.contains_nil, Bool.or_false, Bool.or_eq_false_iff, beq_eq_false_iff_ne, ne_eq] at h3'; (try simp only [List.forall_mem_cons, List.not_mem_nil, false_implies, implies_true, and_true, ne_eq] at h2); simp [loopMap, kstB, h1, h2, h3', h3]) ?_)
      rw [rowOf_take hn, rowStep, if_pos ?_]
      · exact hP
      · refine ⟨by assumption, ?_⟩
        rename_i hany
        simpa [letterOf] using hany
    · refine TurnTo.next (TurnAt.intro (c.1 ++ [.int (letterOf wide n) _], c.2 + 1) (by assumption) (by assumption) (by kcf_m) (by simp only [List.push_toArray] at *; kcf_all) (by kcf_all) (by kst_all) (by intro z h1 h2 h3; have h3' := h3; simp only [List.contains_cons, List.contains_nil, Bool.or_false, Bool.or_eq_false_iff, beq_eq_false_iff_ne, ne_eq] at h3'; (try simp only [List.forall_mem_cons, List.not_mem_nil, false_implies, implies_true, and_true, ne_eq] at h2); simp [loopMap, kstB, h1, h2, h3', h3]) ?_)
      rw [rowOf_take hn, rowStep, if_neg ?_]
      · exact intsAre_push hP
      · rintro ⟨_, hm⟩
        rename (List.any _ _ = false) => hany
        rw [List.any_eq_false] at hany
        exact hany _ hm (by simp [letterOf])
    · refine TurnTo.next (TurnAt.intro (c.1 ++ [.int (letterOf wide n) _], c.2 + 1) (by assumption) (by assumption) (by kcf_m) (by simp only [List.push_toArray] at *; kcf_all) (by kcf_all) (by kst_all) (by intro z h1 h2 h3; have h3' := h3; simp only [List.contains_cons, List.contains_nil, Bool.or_false, Bool.or_eq_false_iff, beq_eq_false_iff_ne, ne_eq] at h3'; (try simp only [List.forall_mem_cons, List.not_mem_nil, false_implies, implies_true, and_true, ne_eq] at h2); simp [loopMap, kstB, h1, h2, h3', h3]) ?_)
      rw [rowOf_take hn, rowStep, if_neg ?_]
      · exact intsAre_push hP
      · rintro ⟨hm, _⟩
        simp_all
  case done =>
    intro c u h tk hP F1 N1
    simp only [List.cons_append, List.nil_append] at N1
    clear F' N'
    k_steps
    show Ends g L' news _ s _ _
    refine Ends.intro [(D, listOf c.1.toArray c.2)] F1 N1 (by kcf_all) (by kcf_all) ⟨D, c.1, c.2, rfl, rfl, ?_, l1⟩
    rw [hi.length, List.take_length] at hP
    exact hP
end

section
open PySem PySem.W PyProof.Rows PySem.Calls
set_option maxRecDepth 100000
set_option maxHeartbeats 0
set_option linter.unusedSimpArgs false
def cellOf (one row f : List Int) (letter : Int) (k : Nat) : Int := if one.getD k 0 = letter then row.getD k 0 + 1 else max (row.getD (k + 1) 0) (f.getD k 0)
def freshOf (one row : List Int) (letter : Int) : Nat → List Int
  | 0 => [0]
  | k + 1 => freshOf one row letter k ++ [cellOf one row (freshOf one row letter k) letter k]
def tabStep (one : List Int) (st : List Int × List Int) (letter : Int) : List Int × List Int :=
  (freshOf one st.1 letter one.length, st.2 ++ [(freshOf one st.1 letter one.length).getD one.length 0])
def tabOf (one other : List Int) : List Int × List Int := other.foldl (tabStep one) (List.replicate (one.length + 1) 0, [0])

theorem freshOf_len (one row : List Int) (letter : Int) : ∀ k, (freshOf one row letter k).length = k + 1
  | 0 => rfl
  | k + 1 => by rw [freshOf, List.length_append, freshOf_len one row letter k]; rfl
theorem tabFold_len (one : List Int) : ∀ (other : List Int) (st : List Int × List Int), st.1.length = one.length + 1 → (other.foldl (tabStep one) st).1.length = one.length + 1 ∧ (other.foldl (tabStep one) st).2.length = st.2.length + other.length
  | [], _, h => ⟨h, rfl⟩
  | x :: r, st, _ => by
    have := tabFold_len one r (tabStep one st x) (freshOf_len _ _ _ _)
    refine ⟨this.1, this.2.trans ?_⟩
    simp only [tabStep, List.length_append, List.length_cons, List.length_nil]
    omega
abbrev tabInit (one : List Int) : List Int × List Int := (List.replicate (one.length + 1) 0, [0])
theorem tab_take {one other : List Int} {i : Nat} {n : Int} (h : other[i]? = some n) : (other.take (i + 1)).foldl (tabStep one) (tabInit one) = tabStep one ((other.take i).foldl (tabStep one) (tabInit one)) n := by
  rw [List.take_add_one, h]
  simp
theorem flat_one {α : Type} (n : Nat) (a : α) : (List.replicate n [a]).flatten = List.replicate n a := by
  induction n with
  | zero => rfl
  | succ n ih => rw [List.replicate_succ, List.flatten_cons, ih]; rfl


theorem table_tell (w : World) {l1 l2 : Addr} {vs us : List Value} {one other : List Int} {c1 c2 : Nat} {rest : List (Addr × Obj)} (hi1 : IntsAre vs one) (hi2 : IntsAre us other) (hsz1 : one.length ≤ 12) (hsz2 : other.length ≤ 12) :
    Tell w 1 (.ref 131) [.ref l1, .ref l2] [] ((l1, listOf vs.toArray c1) :: (l2, listOf us.toArray c2) :: rest) (fun r tl => ∃ D R X rv ev cr ce cx, r = .ref X ∧ tl = [(X, ⟨.type "tuple", none, .seq #[.ref R, .ref D] cx, #[]⟩), (R, listOf rv.toArray cr), (D, listOf ev.toArray ce)] ∧ IntsAre rv (tabOf one other).1 ∧ IntsAre ev (tabOf one other).2 ∧ AllLt D ((l1, listOf vs.toArray c1) :: (l2, listOf us.toArray c2) :: rest) ∧ @LT.lt Nat _ D X ∧ @LT.lt Nat _ R X ∧ @Ne Nat D R ∧ AllLt R ((l1, listOf vs.toArray c1) :: (l2, listOf us.toArray c2) :: rest)) := by
  w_top off
  k_with_none
  (k_with "exec For Name Name cons nil" => (k_here; refine wpAny_ForA ?_))
  (k_with "exec For Name Call cons nil" => (k_here; refine wpAny_ForA ?_))
  (k_with "exec For Name List cons nil" => (k_here; refine wpAny_ForA ?_))
  (k_with "exec For Tuple Call cons nil" => (k_here; refine wpAny_ForA ?_))
  (k_with "exec For Tuple Name cons cons" => (k_here; refine wpAny_ForA ?_))
  (k_with "exec For Name Name cons cons" => (k_here; refine wpAny_ForA ?_))
  have hfill : (Mine.hd.heap_39 w.params).In default → Challenge.rw_oy0162_01 = Challenge.rw_oy0162_01 := by
    k_fill
    intro _; rfl
  clear hfill
  k_dflt (refine enter [(Str.ofString "one", .ref l1), (Str.ofString "other", .ref l2)] (by k_is) (by k_is) (fun s _ => BindsTo.of_eq rfl) (locs rfl) ?_ rfl rfl rfl (by decide))
  intro p loose mean mg mb dp un gd cn cs L a ccd cl outer base g L' s hdp hun hcs F N B X T lt
  simp only [List.nil_append] at N
  replace lt := allLt_of lt
  simp only [List.nil_append, AllLt] at lt
  have hlen1 := hi1.length
  have hlen2 := hi2.length
  try dsimp only
  try k_fold
  k_steps

  rename_i z1 h1 q1 R0 h2 i1 n1 s1 e1 e2 e3 q2 h3 tk1 D h4 q3 h5 F' N'
  have ez : ((one.length : Int) + 1).toNat = one.length + 1 := by omega
  rw [ez, flat_one, flat_one] at i1
  rw [ez, flat_one] at N'
  clear s1 e1 e2 e3 h1 h2 h3 h4
  refine for_list (σ := Nat × List Value × Nat × List Value × Nat) (news := (l1, listOf vs.toArray c1) :: (l2, listOf us.toArray c2) :: rest)
    (fun c => [(D, listOf c.2.2.2.1.toArray c.2.2.2.2), (c.1, listOf c.2.1.toArray c.2.2.1)]) (fun c => [(Str.ofString "row", .ref c.1)]) [Str.ofString "fresh", Str.ofString "k"]
    (fun i c => IntsAre c.2.1 ((other.take i).foldl (tabStep one) (tabInit one)).1 ∧ IntsAre c.2.2.2.1 ((other.take i).foldl (tabStep one) (tabInit one)).2 ∧ @Ne Nat D c.1 ∧ AllLt c.1 ((l1, listOf vs.toArray c1) :: (l2, listOf us.toArray c2) :: rest))
    (R0, List.replicate (one.length + 1) (.int 0 s.toks), 0, [.int 0 _], 0) rfl (by kcf_m) ?hcls rfl rfl F' (kst_newsOf N' (by kcf_all)) (by kst_all) ?hP ?turn ?done
  case hcls => intro _ c _ p hp; simp at hp; rcases hp with hp | hp <;> subst hp <;> simp
  case hP => exact ⟨i1, .cons 0 _ .nil, by omega, by simp only [AllLt]; exact q2.2⟩
  case turn =>
    rintro ⟨R, rv, cr, ev, ce⟩ i v u I oI h tk hi' hv ⟨hP1, hP2, hP3, hP4⟩ hoI lI F1 N1 hoff
    obtain ⟨n, t', e, hn⟩ := IntsAre.at hi2 i v hv
    subst e
    dsimp only at hP1 hP2 hP3 hP4 F1 N1 hoff
    simp only [List.cons_append, List.nil_append] at N1
    replace lI := allLt_of lI
    simp only [AllLt] at hP4 lI
    obtain ⟨hoffD, hoffR, -⟩ := hoff
    dsimp only at hoffD hoffR
    clear F' N'
    generalize hst : (other.take i).foldl (tabStep one) (tabInit one) = st at hP1 hP2
    have hll := tabFold_len one (other.take i) (tabInit one) (by simp)
    rw [hst, List.length_take, show (tabInit one).2.length = 1 from rfl] at hll
    have hlr := hP1.length
    have hle := hP2.length
    k_steps
    rename_i Fa h6 F6 N6 q6 h7 F7 N7 h8 tk8 t1 u1 v1 hR F8 N8 hkeep
    clear F6 N6 F7 N7 hkeep
    refine for_range (σ := List Value × Nat) (n := one.length) (news := (I, oI) :: (D, listOf ev.toArray ce) :: (R, listOf rv.toArray cr) :: (l1, listOf vs.toArray c1) :: (l2, listOf us.toArray c2) :: rest)
      (fun c => [(Fa, listOf c.1.toArray c.2)]) (fun _ => []) [] (fun k c => IntsAre c.1 (freshOf one st.1 n k)) ([.int 0 _], 0) rfl hR ?hsmall ?hsize ?hclsB rfl rfl F8 N8 (by kst_all) ?hPB ?turnB ?doneB
    case hsmall => exact small_one (by omega) (by omega) (by omega) (by omega)
    case hsize => simpa using rangeSize_nat 0 one.length
    case hclsB => intro _ c _ p hp; simp at hp; subst hp; simp
    case hPB => exact .cons 0 _ .nil
    case turnB =>
      rintro ⟨fv, cf⟩ k tk0 u2 I2 oI2 h9 tk9 hk hQ hoI2 lI2 F9 N9 hoff2
      dsimp only at hQ F9 N9 hoff2
      simp only [List.cons_append, List.nil_append] at N9
      replace lI2 := allLt_of lI2
      simp only [AllLt] at lI2
      obtain ⟨hoff2, -⟩ := hoff2
      clear F8 N8
      have hlf := hQ.length
      rw [freshOf_len] at hlf
      k_steps
      · rename News _ _ _ _ => N10
        simp only [List.push_toArray] at N10
        refine TurnTo.next (TurnAt.intro (_, _) (by assumption) N10 (by kcf_m) (by kcf_all) (by kcf_all) (by kst_all) (by intro z h1 h2 h3; have h3' := h3; simp only [List.contains_cons, List.contains_nil, Bool.or_false, Bool.or_eq_false_iff, beq_eq_false_iff_ne, ne_eq] at h3'; (try simp only [List.forall_mem_cons, List.not_mem_nil, false_implies, implies_true, and_true, ne_eq] at h2); simp [loopMap, kstB, h1, h2, h3', h3]) ?_)
        rw [freshOf]
        refine intsAre_push' hQ ?_
        rename (List.getD one _ _ = n) => hc
        have e0 : ((0 : Int) + (k : Int)).toNat = k := by omega
        rw [e0] at hc ⊢
        rw [cellOf, if_pos hc]
      · rename News _ _ _ _ => N10
        simp only [List.push_toArray] at N10
        refine TurnTo.next (TurnAt.intro (_, _) (by assumption) N10 (by kcf_m) (by kcf_all) (by kcf_all) (by kst_all) (by intro z h1 h2 h3; have h3' := h3; simp only [List.contains_cons, List.contains_nil, Bool.or_false, Bool.or_eq_false_iff, beq_eq_false_iff_ne, ne_eq] at h3'; (try simp only [List.forall_mem_cons, List.not_mem_nil, false_implies, implies_true, and_true, ne_eq] at h2); simp [loopMap, kstB, h1, h2, h3', h3]) ?_)
        rw [freshOf]
        refine intsAre_push' hQ ?_
        rename (List.getD one _ _ ≠ n) => hc
        have e0 : ((0 : Int) + (k : Int)).toNat = k := by omega
        have e1 : ((0 : Int) + (k : Int) + 1).toNat = k + 1 := by omega
        rw [e0] at hc
        rw [cellOf, if_neg hc]
        simp only [e0, e1]
        split <;> omega
    case doneB =>
      rintro ⟨fv, cf⟩ u2 h9 tk9 hQ F9 N9
      dsimp only at hQ F9 N9
      simp only [List.cons_append, List.nil_append] at N9
      clear F8 N8
      have hlf := hQ.length
      rw [freshOf_len] at hlf
      k_steps
      rename News _ _ _ _ => N10
      simp only [List.push_toArray] at N10
      have e3 : ((-1 : Int) + ((freshOf one st.1 n one.length).length : Int)).toNat = one.length := by rw [freshOf_len]; omega
      refine TurnTo.next (TurnAt.intro (Fa, fv, cf, _, _) (by assumption) N10 (by kcf_m) (by kcf_all) (by kcf_all) (by kst_all) (by intro z h1 h2 h3; have h3' := h3; simp only [List.contains_cons, List.contains_nil, Bool.or_false, Bool.or_eq_false_iff, beq_eq_false_iff_ne, ne_eq] at h3'; (try simp only [List.forall_mem_cons, List.not_mem_nil, false_implies, implies_true, and_true, ne_eq] at h2); simp [loopMap, kstB, h1, h2, h3', h3]) ⟨?_, ?_, by omega, by simp only [AllLt]; exact q6.2.2.2⟩)
      · rw [tab_take hn, hst]
        exact hQ
      · rw [tab_take hn, hst]
        refine intsAre_push' hP2 ?_
        rw [e3]
  case done =>
    rintro ⟨R, rv, cr, ev, ce⟩ u h tk ⟨hP1, hP2, hP3, hP4⟩ F1 N1
    dsimp only at hP1 hP2 hP3 hP4 F1 N1
    simp only [List.cons_append, List.nil_append] at N1
    clear F' N'
    k_steps
    rename_i X0 h10 F10 N10 q10
    rw [hlen2, List.take_length] at hP1 hP2
    refine Ends.intro [(X0, ⟨.type "tuple", none, .seq #[.ref R, .ref D] 0, #[]⟩), (R, listOf rv.toArray cr), (D, listOf ev.toArray ce)] F10 N10 (by kcf_all) (by kcf_all) ⟨D, R, X0, rv, ev, cr, ce, 0, rfl, rfl, hP1, hP2, ?_, q10.1, q10.2.1, hP3, hP4⟩
    simp only [AllLt]; exact q3.2.2
end

section
open PySem PySem.W PyProof.Rows PySem.Calls
set_option maxRecDepth 100000
set_option maxHeartbeats 0
set_option linter.unusedSimpArgs false

theorem codeHd_step {w : World} {g : Heap} (X : (Mine.hd.heap_39 w.params).In g) : CodeHd g 123 119 :=
  ⟨_, _, _, _, _, _, _, _, _, X 123 _ (by rfl), rfl, rfl, rfl, rfl, rfl, rfl, rfl, rfl, by decide⟩

def maskN : List Int → Int → Nat
  | [], _ => 0
  | a :: r, x => (if a = x then 1 else 0) + 2 * maskN r x
theorem maskN_append (a x : Int) : ∀ l : List Int, maskN (l ++ [a]) x = maskN l x + if a = x then 2 ^ l.length else 0
  | [] => by simp [maskN]
  | b :: r => by
    rw [List.cons_append, maskN, maskN, maskN_append a x r, List.length_cons, Nat.pow_succ]
    split <;> split <;> omega
theorem mask_take {ns : List Int} {i : Nat} {n : Int} (h : ns[i]? = some n) (x : Int) : maskN (ns.take (i + 1)) x = maskN (ns.take i) x + if n = x then 2 ^ i else 0 := by
  have hi : i < ns.length := by
    have := List.getElem?_eq_some_iff.mp h
    exact this.1
  rw [List.take_add_one, h]
  rw [Option.toList_some, maskN_append, List.length_take, Nat.min_eq_left (Nat.le_of_lt hi)]
theorem get_rights {prog : Program} {w : World} {A : Around} {E : Value → Shared → Prop} {s : Shared} {d : Addr} {D : List (PyData × PyData)} {f : Int → Int} {i : Int} {t t' : Tok} {Q : Value → Shared → Prop} (T : IntTab prog w s.heap d D) (hm : ∀ x, (Spec.lookup (.int x) D).getD (.int 0) = .int (f x))
    (h : ∀ u, Q (.int (f i) u) { s with toks := s.toks + 1 }) : wpAny (model prog w) A (call (.builtin "dict.get") [.ref d, .int i t, .int 0 t']) Q E s :=
  call_get2_intTab T (PyProof.V.Flat.int 0 t') fun v hv => by
    rw [hm] at hv
    obtain ⟨u, rfl⟩ := hv.int_inv
    exact h u
/-- one step of the machine: the rights behind a letter -/
def stepOf (ns : List Int) (mode letter : Int) : Int :=
  let both := Builtin.bitAnd mode (maskN ns letter)
  Builtin.bitAnd (Builtin.bitOr (mode + both) (mode - both)) 4095

local macro_rules | `(tactic| walk_at "setItem ref int") => `(tactic| (k_here; k_dflt (refine' setItem_K PyProof.V.same_int (intKind_is _ _ _ _) ?v ?F ?N ?U ?d ?f ?_ ?z; (case F => k_asm); (case N => k_asm); (case U => k_updF); (case d => k_asm); (case f => k_asm); (case z => (rw [PySem.sizeLine_eq]; omega)); (case v => k_flat)); intro h' o' F' N' hd' hf'; (try dsimp only at N'); (try k_sweep)))

/-- the table of _law_step's inner def, and its code -/
def StepTab2 (ps : Array Value) (codes : List (Addr × Obj)) : Prop :=
  ∃ c' oc vsx t, ps = #[rawInt 120, rawInt 4, .ref c'] ∧ codes = [(c', oc)] ∧ oc.data = .fields vsx ∧ vsx[1]? = some (.str (Str.ofString "_law_step.<locals>.step") t)
def StepTab (ps : Array Value) (codes : List (Addr × Obj)) : Prop := (ps = #[] ∧ codes = []) ∨ StepTab2 ps codes
theorem news_swap {g h : Heap} {L : Addr} {a b c : List (Addr × Obj)} {p : Addr × Obj} (N : News g L h (a ++ (b ++ p :: c))) : News g L h (a ++ p :: (b ++ c)) := fun q hq => N q (by
  simp only [List.mem_append, List.mem_cons] at hq ⊢
  rcases hq with h | h | h | h
  · exact .inl h
  · exact .inr (.inr (.inl h))
  · exact .inr (.inl h)
  · exact .inr (.inr (.inr h)))
theorem allLt_app {d : Nat} : ∀ {a b : List (Addr × Obj)}, AllLt d (a ++ b) ↔ AllLt d a ∧ AllLt d b
  | [], b => by simp [AllLt]
  | p :: r, b => by simp only [List.cons_append, AllLt, allLt_app (a := r), and_assoc]

theorem step_tell (w : World) {l : Addr} {vs : List Value} {ns : List Int} {c : Nat} {ps : Array Value} {codes rest : List (Addr × Obj)} (hi : IntsAre vs ns) (hsz : ns.length ≤ 12) (hps : StepTab ps codes) (hl9 : @Ne Nat l 119) (hr9 : AllNe 119 rest) :
    Tell w 1 (.ref 124) [.ref l] ((119, tabObj ps) :: codes) ((l, listOf vs.toArray c) :: rest) (fun r tl => ∃ f fd cA oA dA oD ps' codes', r = .ref f ∧ tl = (f, (⟨.type "function", none, .func fd, #[]⟩ : Obj)) :: (cA, oA) :: (dA, oD) :: (119, tabObj ps') :: codes' ∧ StepTab2 ps' codes' ∧
      (codes = [] → ∀ p ∈ codes', AllLt p.1 ((l, listOf vs.toArray c) :: rest)) ∧ (codes ≠ [] → codes' = codes) ∧
      ∀ (rest' : List (Addr × Obj)) (mode : Int) (t : Tok) (letter : Int) (t' : Tok), Tell w 2 (.ref f) [.int mode t, .int letter t'] [] (tl ++ rest') (fun r2 tl2 => tl2 = [] ∧ ∃ t2, r2 = .int (stepOf ns mode letter) t2)) := by
  w_top off
  k_with_none
  (k_with "exec For Name Name cons nil" => (k_here; refine wpAny_ForA ?_))
  (k_with "exec For Name Call cons nil" => (k_here; refine wpAny_ForA ?_))
  (k_with "exec For Name List cons nil" => (k_here; refine wpAny_ForA ?_))
  (k_with "exec For Tuple Call cons nil" => (k_here; refine wpAny_ForA ?_))
  (k_with "exec For Tuple Name cons cons" => (k_here; refine wpAny_ForA ?_))
  (k_with "exec For Name Name cons cons" => (k_here; refine wpAny_ForA ?_))
  (k_with "call builtin:dict.get" => (k_here; k_dflt (refine' get_rights ?k1 ?k2 ?_; (case k1 => k_tabat); (case k2 => assumption)); intro _; (try dsimp only)))
  have hfill : (Mine.hd.heap_39 w.params).In default → Challenge.rw_oy0162_01 = Challenge.rw_oy0162_01 := by
    k_fill
    intro _; rfl
  clear hfill
  k_dflt (refine enterC [(Str.ofString "row", .ref l)] (by k_is) (by k_is) (fun s _ => BindsTo.of_eq rfl) rfl (by decide +kernel) ?_ rfl rfl rfl)
  intro p loose mean mg mb dp un gd cn cs L a ccd cl outer base g L' s cells hdp hun hcs F N Y B X T lt
  replace lt := allLt_of lt
  simp only [List.cons_append, List.nil_append, AllLt, allLt_app] at N lt
  replace N := news_swap (a := cells ++ [(119, tabObj ps)]) (by simpa only [List.append_assoc, List.cons_append, List.nil_append] using N)
  have hR := allLt_app.mpr ⟨lt.2.1, lt.2.2.2⟩
  replace lt : @LT.lt Nat _ 119 L' ∧ @LT.lt Nat _ l L' := ⟨lt.1, lt.2.2.1⟩
  generalize hrest : codes ++ rest = R at N hR
  simp only [List.append_assoc, List.cons_append, List.nil_append] at N
  k_cells Y
  simp only [List.cons_append, List.nil_append] at N
  have hlen1 := hi.length
  have C := codeHd_step X
  have lt1 : AllLt (L' + 1) R := allLt_mono (Nat.le_succ _) hR
  try dsimp only
  try k_fold
  k_steps
  rename_i dA hx1 oD lo hs fs hiD fi q1 hx2 oA F1 N1 hcA hx3 tkx t1 u1 v1 hRg F2 N2 hkeep
  clear F1 N1 hkeep hs fs
  refine for_range (σ := Obj × List (Int × Value) × List (PyData × PyData)) (n := ns.length) (news := (L' + 1, oA) :: (119, tabObj ps) :: (l, listOf vs.toArray c) :: R)
    (fun c => [(dA, c.1)]) (fun _ => []) [] (fun i c => c.1.IsDictOf (intKind Challenge.rw_oy0162_01.row.prog w) c.2.1 ∧ PyProof.V.FlatPairs PyData.int c.2.1 c.2.2 ∧ c.2.2.length ≤ i ∧ ∀ x, (Spec.lookup (.int x) c.2.2).getD (.int 0) = .int (maskN (ns.take i) x)) (oD, [], []) rfl hRg ?hsmall ?hsize ?hcls rfl rfl F2 N2 (by kst_all) ?hP ?turn ?done
  case hsmall => exact small_one (by omega) (by omega) (by omega) (by omega)
  case hsize => simpa using rangeSize_nat 0 ns.length
  case hcls =>
    intro _ c hc p hp
    simp at hp
    subst hp
    obtain ⟨⟨es, ep, hex, _⟩, _⟩ := hc
    rw [hex.1]; simp
  case hP => exact ⟨hiD, fi, Nat.le_refl _, fun x => rfl⟩
  case turn =>
    rintro ⟨o, kvs, D⟩ k tk0 u I oI h tk hk ⟨hd1, hd2, hd3, hGet⟩ hoI lI F3 N3 hoff
    dsimp only at hd1 hd2 hd3 hGet F3 N3 hoff
    simp only [List.cons_append, List.nil_append] at N3
    replace lI := allLt_of lI
    simp only [AllLt] at lI
    obtain ⟨hoff, -⟩ := hoff
    dsimp only at hoff
    clear F2 N2
    obtain ⟨n, hn⟩ : ∃ n, ns[k]? = some n := ⟨ns[k], by simp [hk]⟩
    k_steps
    rename_i h4 o4 F4 N4 hd4 hf4
    have e0 : ((0 : Int) + (k : Int)).toNat = k := by omega
    have e1 : ns.getD k 0 = n := by rw [List.getD_eq_getElem?_getD, hn]; rfl
    rw [e0, e1] at hd4 hf4
    refine TurnTo.next (TurnAt.intro (o4, stored kvs n _, PyProof.V.putD (PyData.int n) (PyData.int (↑(maskN (List.take k ns) n) + 2 ^ k)) D) F4 N4 (by kcf_m) (by kcf_all) (by kcf_all) (by kst_all) (by intro z h1 h2 h3; have h3' := h3; simp only [List.contains_cons, List.contains_nil, Bool.or_false, Bool.or_eq_false_iff, beq_eq_false_iff_ne, ne_eq] at h3'; (try simp only [List.forall_mem_cons, List.not_mem_nil, false_implies, implies_true, and_true, ne_eq] at h2); simp [loopMap, kstB, h1, h2, h3', h3]) ⟨hd4, hf4, ?_, ?_⟩)
    · have := PyProof.V.putD_length_le (PyData.int n) (PyData.int (↑(maskN (List.take k ns) n) + 2 ^ k)) D
      exact Nat.le_trans this (by omega)
    · intro x
      dsimp only
      rw [lookup_putD_int, mask_take hn]
      by_cases hx : x = n
      · subst hx; simp
      · rw [if_neg hx, if_neg (fun e => hx e.symm), hGet]; rfl
  case done =>
    rintro ⟨o, kvs, D⟩ u h tk ⟨hd1, hd2, hd3, hGet⟩ F3 N3
    dsimp only at hd1 hd2 hd3 hGet F3 N3
    simp only [List.cons_append, List.nil_append] at N3
    clear F2 N2
    rw [List.take_length] at hGet
    rcases hps with ⟨rfl, rfl⟩ | ⟨c', oc, vsx, tq, rfl, rfl, hoc1, hoc2⟩
    · simp only [List.nil_append] at hrest
      subst hrest
      k_steps
      rename_i f c' oc vsx tq ctv doc h3 tk3 hoc1 hoc2 q4 q5 h4 F4 N4
      show Ends g L' _ _ s _ _
      refine Ends.intro [(f, _), (L' + 1, oA), (dA, o), (119, tabObj _), (c', oc)] F4 N4 (by kcf_all) (by kcf_all) ⟨f, _, L' + 1, oA, dA, o, _, _, rfl, rfl, ⟨c', oc, vsx, _, rfl, rfl, hoc1, hoc2⟩, ?_, fun h => absurd rfl h, ?_⟩
      · rintro - p hp
        rw [List.mem_singleton.mp hp]
        simp only [AllLt]
        exact q4.2.2.2
      · rintro rest' mode t letter t'
        clear F4 N4 B X T C hcs
        k_dflt (refine enterN [(Str.ofString "mode", .int mode t), (Str.ofString "letter", .int letter t')] (by kcf_m) (by kcf_m) hoc1 hoc2 (fun s => BindsTo.of_eq rfl) (locs rfl) ?_ rfl rfl rfl (by decide))
        intro p loose mean mg mb dp un gd cn cs L a ccd cl outer base g L'' s hdp hun hcs F N B X T lt
        simp only [List.cons_append, List.nil_append] at N
        try dsimp only
        try k_fold
        have C := codeHd_step X
        k_steps
        rename_i kF kN Tc kX
        show Ends g L'' _ _ s _ _
        exact Ends.intro [] kF kN (List.forall_mem_nil _) (fun p hp => hp) ⟨rfl, _, rfl⟩
    · simp only [List.cons_append, List.nil_append] at hrest
      subst hrest
      k_steps
      rename_i f ctv doc h3 tk3 q4 h4 F4 N4
      show Ends g L' _ _ s _ _
      refine Ends.intro [(f, _), (L' + 1, oA), (dA, o), (119, tabObj _), (c', oc)] F4 N4 (by kcf_all) (by kcf_all) ⟨f, _, L' + 1, oA, dA, o, _, _, rfl, rfl, ⟨c', oc, vsx, _, rfl, rfl, hoc1, hoc2⟩, fun h => (by cases h), fun _ => rfl, ?_⟩
      rintro rest' mode t letter t'
      clear F4 N4 B X T C hcs
      k_dflt (refine enterN [(Str.ofString "mode", .int mode t), (Str.ofString "letter", .int letter t')] (by kcf_m) (by kcf_m) hoc1 hoc2 (fun s => BindsTo.of_eq rfl) (locs rfl) ?_ rfl rfl rfl (by decide))
      intro p loose mean mg mb dp un gd cn cs L a ccd cl outer base g L'' s hdp hun hcs F N B X T lt
      simp only [List.cons_append, List.nil_append] at N
      try dsimp only
      try k_fold
      have C := codeHd_step X
      k_steps
      rename_i kF kN Tc kX
      show Ends g L'' _ _ s _ _
      exact Ends.intro [] kF kN (List.forall_mem_nil _) (fun p hp => hp) ⟨rfl, _, rfl⟩
end

section
open PySem PySem.W PyProof.Rows PySem.Calls
set_option maxRecDepth 100000
section
variable {prog : Program} {w : World} {A : Around} {E : Value → Shared → Prop} {s : Shared}

theorem nextOf_tup_item {it t : Addr} {i : Nat} {items : Array Value} {x : Value} {Q : Value → Shared → Prop} (hit : s.heap.IsTupleIter it t i) (ht : s.heap.IsTuple t items) (hx : items[i]? = some x)
    (hQ : ∀ h', h'.IsTupleIter it t (i + 1) → Heap.SameBut it s.heap h' → Q x { s with heap := h' }) : wpAny (model prog w) A (Builtin.SmallTypes.nextOf (.ref it)) Q E s := by
  obtain ⟨o, ho, hc, hd⟩ := id hit
  obtain ⟨ot, hot, _, nt, hdt⟩ := ht
  unfold Builtin.SmallTypes.nextOf
  refine wpAny_bind (wpAny_callSpecial?_slot (name := Str.ofString "__next__") hit.typeIs F.slot_tuple_iterator_next
    (wpAny_call_entry F.slot_tuple_iterator_next hit.typeIs F.entry_tuple_iterator_next ?_ (F.args_tuple_iterator_next_1 _)))
  refine wpAny_bind (m := field (.ref it) 0) (wpAny_field ho hd (x := .ref t) rfl ?_)
  show wpAny _ _ (if (Value.ref t == Value.none) = true then _ else _) _ _ s
  rw [if_neg (show ¬ ((Value.ref t == Value.none) = true) from Bool.false_ne_true)]
  refine wpAny_bind (m := field (.ref it) 1) (wpAny_field ho hd (x := .int i 0) rfl ?_)
  refine wpAny_bind (m := seqItems? (.ref t)) (wpAny_seqItems hot hdt ?_)
  simp only [Int.toNat_natCast, hx]
  refine wpAny_bind (wpAny_setField ho hd (by simp) (wpAny_pure ⟨x, rfl, wpAny_pure (hQ _ ?_ (Heap.SameBut.update ..))⟩))
  exact ⟨_, Heap.get?_update_self _ ho (Obj.isFreed_of_fields (Obj.data_mapFields hd _)), (Obj.cls_mapFields ..).trans hc, by
    rw [Obj.data_mapFields hd]; simp [rawInt]⟩

theorem nextOf_tup_end {it t : Addr} {i : Nat} {items : Array Value} {Q : Value → Shared → Prop} (hh : A.handled = none) (hit : s.heap.IsTupleIter it t i) (ht : s.heap.IsTuple t items) (hx : items[i]? = none)
    (hE : ∀ h' e, Heap.ExtBut it s.heap h' → (∃ o, h'.get? e = some o ∧ o.cls = .type "StopIteration") → E (.ref e) { s with heap := h' }) : wpAny (model prog w) A (Builtin.SmallTypes.nextOf (.ref it)) Q E s := by
  obtain ⟨o, ho, hc, hd⟩ := id hit
  obtain ⟨ot, hot, _, nt, hdt⟩ := ht
  unfold Builtin.SmallTypes.nextOf
  refine wpAny_bind (wpAny_callSpecial?_slot (name := Str.ofString "__next__") hit.typeIs F.slot_tuple_iterator_next
    (wpAny_call_entry F.slot_tuple_iterator_next hit.typeIs F.entry_tuple_iterator_next ?_ (F.args_tuple_iterator_next_1 _)))
  refine wpAny_bind (m := field (.ref it) 0) (wpAny_field ho hd (x := .ref t) rfl ?_)
  show wpAny _ _ (if (Value.ref t == Value.none) = true then _ else _) _ _ s
  rw [if_neg (show ¬ ((Value.ref t == Value.none) = true) from Bool.false_ne_true)]
  refine wpAny_bind (m := field (.ref it) 1) (wpAny_field ho hd (x := .int i 0) rfl ?_)
  refine wpAny_bind (m := seqItems? (.ref t)) (wpAny_seqItems hot hdt ?_)
  simp only [Int.toNat_natCast, hx]
  refine wpAny_bind (wpAny_rule (wpAny_bind (wpAny_setField ho hd (by simp) ?_)))
  refine wpAny_bind (m := newExc (.type "StopIteration") []) ?_
  simp only [newExc, newTuple]
  refine wpAny_bind (wpAny_newObj_type ?_ (by size_fits))
  refine wpAny_bind (m := firstArgMember _ _) (wpAny_of_eq (a := Value.none) (by first | rfl | (simp only [firstArgMember]; rfl)) ?_)
  refine wpAny_newObj_type ?_ (by size_fits)
  simp only [raiseNew]
  refine wpAny_bind (wpAny_handled ?_)
  first | rw [show A.in1.handled = none from hh] | rw [hh]
  refine wpAny_bind (wpAny_pure (wpAny_throw ?_))
  exact hE _ _ (((Heap.SameBut.update ..).extBut.push _).push _) ⟨_, Heap.get?_push_size _ rfl, rfl⟩

theorem enum_tup_item {e it t : Addr} {i : Nat} {items : Array Value} {x old : Value} {Q : Option Value → Shared → Prop} (he : IsEnum s.heap e it i old) (hit : s.heap.IsTupleIter it t i) (ht : s.heap.IsTuple t items) (hx : items[i]? = some x) (hne : e ≠ it)
    (hQ : ∀ h', IsEnumOut h' e it ((i : Int) + 1) x s.heap.objs.size → h'.IsTupleIter it t (i + 1) → h'.get? s.heap.objs.size = some { cls := .type "tuple", data := .seq #[.int i s.toks, x] } →
      (∀ b o, b ≠ e → b ≠ it → s.heap.get? b = some o → h'.get? b = some o) → Q (some (.ref s.heap.objs.size)) { s with heap := h', toks := s.toks + 1 }) :
    wpAny (model prog w) A (pyNext (.ref e)) Q E s := by
  have hT : s.TypeIs (.ref e) "enumerate" := ⟨_, he, rfl⟩
  unfold pyNext
  refine wpAny_bind (wpAny_attempt (wpAny_callSpecial?_slot (name := Str.ofString "__next__") hT F.slot_enumerate_next
    (wpAny_call_entry F.slot_enumerate_next hT F.entry_enumerate_next ?_ (F.args_enumerate_next_1 _))))
  obtain ⟨hp, g, d, tk, os⟩ := s
  refine wpAny_bind (m := field (.ref e) 2) (wpAny_field he rfl (x := .ref it) rfl ?_)
  refine wpAny_bind (nextOf_tup_item hit ht hx fun h₁ hit₁ hs₁ => ?_)
  replace hs₁ : Heap.SameBut it hp h₁ := hs₁
  have he₁ : IsEnum h₁ e it i old := (hs₁.2 e hne).trans he
  refine wpAny_bind (m := field (.ref e) 3) (wpAny_field he₁ rfl (x := rawInt i) rfl ?_)
  refine wpAny_bind (m := field (.ref e) 4) (wpAny_field he₁ rfl (x := .none) rfl ?_)
  refine wpAny_bind (m := mkInt i) (wpAny_mkInt ?_)
  refine wpAny_bind (m := setField (.ref e) 3 (rawInt ((i : Int) + 1))) (wpAny_setField_rec he₁ (by simp) fun h₂ he₂ hs₂ => ?_)
  replace hs₂ : Heap.SameBut e h₁ h₂ := hs₂
  replace he₂ : IsEnum h₂ e it ((i : Int) + 1) old := he₂
  refine wpAny_bind (m := setField (.ref e) 4 .none) (wpAny_setField_rec he₂ (by simp) fun h₃ he₃ hs₃ => ?_)
  replace hs₃ : Heap.SameBut e h₂ h₃ := hs₃
  replace he₃ : IsEnum h₃ e it ((i : Int) + 1) old := he₃
  refine wpAny_bind (m := newTuple [.int i tk, x]) (wpAny_newTuple ?_)
  have he₄ : IsEnum (h₃.push { cls := .type "tuple", data := .seq #[.int i tk, x] }) e it ((i : Int) + 1) old := Heap.get?_push_of_some _ he₃
  generalize hh₄ : h₃.push { cls := .type "tuple", data := .seq #[.int i tk, x] } = h₄ at he₄
  have hsz : h₃.objs.size = hp.objs.size := by rw [hs₃.1, hs₂.1, hs₁.1]
  have hel : e < hp.objs.size := Heap.lt_size he
  have ht₄ : h₄.get? hp.objs.size = some { cls := .type "tuple", data := .seq #[.int i tk, x] } := by rw [← hh₄, ← hsz]; exact Heap.get?_push_size _ rfl
  have hk₄ : ∀ b o, b ≠ e → b ≠ it → hp.get? b = some o → h₄.get? b = some o := fun b o hbe hbi hb => by
    rw [← hh₄]; exact Heap.get?_push_of_some _ (hs₃.extBut b o hbe (hs₂.extBut b o hbe (hs₁.extBut b o hbi hb)))
  have hit₄ : h₄.IsTupleIter it t (i + 1) := by
    rw [← hh₄]; obtain ⟨o, ho, r⟩ := (hit₁.extBut hs₂.extBut (Ne.symm hne)).extBut hs₃.extBut (Ne.symm hne); exact ⟨o, Heap.get?_push_of_some _ ho, r⟩
  show wpAny _ _ (Builtin.SmallTypes.ownedTupleIsFree (.ref e) >>= _) _ _ ⟨h₄, g, d, tk + 1, os⟩
  rw [hsz]
  clear hh₄ he₃ hs₃ he₂ hs₂ he₁ hs₁ hit₁ hsz h₃ h₂ h₁
  refine wpAny_bind ?_
  unfold Builtin.SmallTypes.ownedTupleIsFree
  refine wpAny_bind (wpAny_field he₄ rfl (x := .none) rfl (wpAny_pure ?_))
  simp only [if_true]
  refine wpAny_bind (wpAny_rule ?_)
  refine wpAny_bind (wpAny_field he₄ rfl (x := old) rfl ?_)
  refine wpAny_bind (wpAny_setField_rec he₄ (by simp) fun h₅ he₅ hs₅ => ?_)
  replace hs₅ : Heap.SameBut e h₄ h₅ := hs₅
  replace he₅ : IsEnum h₅ e it ((i : Int) + 1) x := he₅
  refine wpAny_bind (m := Builtin.SmallTypes.ownedTupleHandOut (.ref e) (.ref hp.objs.size)) ?_
  unfold Builtin.SmallTypes.ownedTupleHandOut
  refine wpAny_bind (wpAny_setField_rec he₅ (by simp) fun h₆ he₆ hs₆ => ?_)
  replace hs₆ : Heap.SameBut e h₅ h₆ := hs₆
  replace he₆ : IsEnumOut h₆ e it ((i : Int) + 1) x hp.objs.size := he₆
  refine wpAny_setField_rec he₆ (by simp) fun h₇ he₇ hs₇ => ?_
  replace hs₇ : Heap.SameBut e h₆ h₇ := hs₇
  replace he₇ : IsEnumOut h₇ e it ((i : Int) + 1) x hp.objs.size := he₇
  refine wpAny_bind (wpAny_letGo (wpAny_pure ⟨_, rfl, wpAny_pure (hQ h₇ he₇ ?_ ?_ ?_)⟩))
  · exact ((hit₄.extBut hs₅.extBut (Ne.symm hne)).extBut hs₆.extBut (Ne.symm hne)).extBut hs₇.extBut (Ne.symm hne)
  · exact hs₇.extBut _ _ (Nat.ne_of_gt hel) (hs₆.extBut _ _ (Nat.ne_of_gt hel) (hs₅.extBut _ _ (Nat.ne_of_gt hel) ht₄))
  · exact fun b o hbe hbi hb => hs₇.extBut b o hbe (hs₆.extBut b o hbe (hs₅.extBut b o hbe (hk₄ b o hbe hbi hb)))

theorem enum_tup_end {e it t : Addr} {i : Nat} {items : Array Value} {old : Value} {Q : Option Value → Shared → Prop} (hh : A.handled = none)
    (he : IsEnum s.heap e it i old) (hit : s.heap.IsTupleIter it t i) (ht : s.heap.IsTuple t items) (hx : items[i]? = none)
    (hQ : ∀ h', Heap.ExtBut it s.heap h' → Q none { s with heap := h' }) : wpAny (model prog w) A (pyNext (.ref e)) Q E s := by
  have hT : s.TypeIs (.ref e) "enumerate" := ⟨_, he, rfl⟩
  unfold pyNext
  refine wpAny_bind (wpAny_attempt (wpAny_callSpecial?_slot (name := Str.ofString "__next__") hT F.slot_enumerate_next
    (wpAny_call_entry F.slot_enumerate_next hT F.entry_enumerate_next ?_ (F.args_enumerate_next_1 _))))
  refine wpAny_bind (m := field (.ref e) 2) (wpAny_field he rfl (x := .ref it) rfl ?_)
  refine wpAny_bind (nextOf_tup_end hh hit ht hx fun h' x he' hx' => ?_)
  obtain ⟨o, ho, hc⟩ := hx'
  refine wpAny_bind (wpAny_isInstance (T := "StopIteration") (b := true) ⟨o, ho, hc⟩ isSubtype_stop ?_)
  exact wpAny_pure (hQ _ he')

theorem meets_enum_tup (l : Addr) (items : Array Value) (n : Nat) (dct : Option Addr) (sl : Array (Option Value)) :
    Meets (Builtin.«enumerate.__new__» ⟨[.type "enumerate", .ref l], []⟩) (fun _ R s => s.heap.get? l = some { cls := .type "tuple", dict := dct, data := .seq items n, slots := sl } ∧
      R (.ok (.ret (.ref (s.heap.push { cls := .type "tuple_iterator", data := .fields #[.ref l, .int 0 0] }).objs.size)))
        { s with heap := (s.heap.push { cls := .type "tuple_iterator", data := .fields #[.ref l, .int 0 0] }).push { cls := .type "enumerate", data := .fields #[.none, .bool false, .ref s.heap.objs.size, rawInt 0, .none, .none] } }) :=
  .of_wp fun prog w A R s h => by
    obtain ⟨hp, g, d, tk, os⟩ := s; obtain ⟨hl, h⟩ := h
    have hsub := sub_enumerate
    have hL : Heap.IsTuple (Shared.heap ⟨hp, g, d, tk, os⟩) l items := ⟨_, hl, rfl, n, rfl⟩
    wp_walk using AutoSeq1.wpAny_loadPart' hl
    refine wpAny_stack_any fun st => wpAny_pure ?_
    split
    · rename_i c _ _ _ _ _
      cases (c == Value.type "enumerate")
      · wp_walk using AutoSeq1.wpAny_loadPart' hl, wpAny_pyIter_tuple hL
        exact ⟨_, rfl, h⟩
      · wp_walk using AutoSeq1.wpAny_loadPart' hl, wpAny_pyIter_tuple hL
        exact ⟨_, rfl, h⟩
    · wp_walk using AutoSeq1.wpAny_loadPart' hl, wpAny_pyIter_tuple hL
      exact ⟨_, rfl, h⟩

theorem call_enum_tup {l : Addr} {items : Array Value} {Q : Value → Shared → Prop} (hL : s.heap.IsTuple l items)
    (h : ∀ h', IsEnum h' (s.heap.objs.size + 1) s.heap.objs.size 0 .none → h'.IsTupleIter s.heap.objs.size l 0 → 
      (∀ b o, s.heap.get? b = some o → h'.get? b = some o) → Q (.ref (s.heap.objs.size + 1)) { s with heap := h' }) :
    wpAny (model prog w) A (call (.type "enumerate") [.ref l]) Q E s := by
  obtain ⟨⟨c, dct, dt, sl⟩, hl, hc, n, hd⟩ := hL
  replace hc : c = .type "tuple" := hc
  replace hd : dt = .seq items n := hd
  subst hc hd
  refine callType_new F.called_enumerate (by decide) (F.typeCall_enumerate_1 _) (F.newCall_enumerate_1 _) (fun obj => F.args_object_init_2 obj _) F.entry_enumerate_new
    (meets_enum_tup l items n dct sl) ⟨hl, ?_⟩
  have hz : (s.heap.push { cls := .type "tuple_iterator", data := .fields #[.ref l, .int 0 0] }).objs.size = s.heap.objs.size + 1 := Heap.size_push ..
  show _ ∧ _
  rw [hz]
  have he : IsEnum ((s.heap.push { cls := .type "tuple_iterator", data := .fields #[.ref l, .int 0 0] }).push
      { cls := .type "enumerate", data := .fields #[.none, .bool false, .ref s.heap.objs.size, rawInt 0, .none, .none] }) (s.heap.objs.size + 1) s.heap.objs.size 0 .none := by
    have := Heap.get?_push_size (s.heap.push { cls := .type "tuple_iterator", data := .fields #[.ref l, .int 0 0] })
      (o := { cls := .type "enumerate", data := .fields #[.none, .bool false, .ref s.heap.objs.size, rawInt 0, .none, .none] }) rfl
    rw [hz] at this; exact this
  exact ⟨⟨_, he, rfl⟩, h _ he ⟨_, Heap.get?_push_of_some _ (Heap.get?_push_size _ rfl), rfl, rfl⟩ fun b o x => Heap.get?_push_of_some _ (Heap.get?_push_of_some _ x)⟩

theorem turns_enum_tup (hh : A.handled = none) {elts : List Expr} {k : Nat} {pos : Pos} (e it l : Addr) (hei : e ≠ it) (hle : l ≠ e) (hli : l ≠ it) (items : Array Value) :
    KTurns prog w A (.Tuple elts k pos) e [e, it, l] [e, it] items.size (fun i v h => ∃ T t x, v = .ref T ∧ items[i]? = some x ∧ h.get? T = some { cls := .type "tuple", data := .seq #[.int i t, x] })
      (fun i v h => ∃ T t x, v = .ref T ∧ items[i]? = some x ∧ h.get? T = some { cls := .type "tuple", data := .seq #[.int i t, x] } ∧ IsEnumOut h e it ((i : Int) + 1) x T ∧ h.IsTupleIter it l (i + 1) ∧ h.IsTuple l items ∧ T ≠ e ∧ T ≠ it)
      (fun i h => (∃ old, IsEnum h e it i old) ∧ h.IsTupleIter it l i ∧ h.IsTuple l items) where
  sub := fun b hb => by
    simp only [List.mem_cons, List.not_mem_nil, or_false] at hb ⊢
    rcases hb with h | h
    · exact .inl h
    · exact .inr (.inl h)
  frame := fun i h h' hst hk => by
    obtain ⟨⟨old, he⟩, ⟨o1, g1, r1⟩, ⟨o2, g2, r2⟩⟩ := hst
    exact ⟨⟨old, hk e (by simp) _ he⟩, ⟨o1, hk it (by simp) _ g1, r1⟩, ⟨o2, hk l (by simp) _ g2, r2⟩⟩
  item := fun i s Q E hi hst hQ => by
    obtain ⟨⟨old, he⟩, hit, hl⟩ := hst
    have hx : items[i]? = some items[i] := Array.getElem?_eq_getElem hi
    refine enum_tup_item he hit hl hx hei fun h' ho hit' hT hk => ?_
    have helt : e < s.heap.objs.size := Heap.lt_size he
    have hilt : it < s.heap.objs.size := by obtain ⟨_, x, _⟩ := hit; exact Heap.lt_size x
    obtain ⟨o2, g2, r2⟩ := hl
    exact hQ (.ref s.heap.objs.size) h' (s.toks + 1) ⟨_, _, _, rfl, hx, hT, ho, hit', ⟨o2, hk l o2 hle hli g2, r2⟩, Nat.ne_of_gt helt, Nat.ne_of_gt hilt⟩
      fun b o hb x => hk b o (fun e' => hb (by simp [e'])) (fun e' => hb (by simp [e'])) x
  go := fun i v s Q E hm hQ => by
    obtain ⟨T, t, x, rfl, hx, hT, ho, ⟨o1, g1, r1⟩, ⟨o2, g2, r2⟩, hTe, hTi⟩ := hm
    refine wpAny_letOwnedTupleGo_enum ho fun h' he' hs' => hQ h' ⟨T, t, x, rfl, hx, (hs'.2 T hTe).trans hT⟩ ⟨⟨x, by simpa using he'⟩, ⟨o1, (hs'.2 it hei.symm).trans g1, r1⟩, ⟨o2, (hs'.2 l hle).trans g2, r2⟩⟩ fun b o hb y => ?_
    exact (hs'.2 b fun e' => hb (by simp [e'])).trans y
  done := fun s Q E hst hQ => by
    obtain ⟨⟨old, he⟩, hit, hl⟩ := hst
    exact enum_tup_end hh he hit hl (Array.getElem?_eq_none (Nat.le_refl _)) fun h' hx => hQ h' s.toks fun b o hb y => hx b o (fun e' => hb (by simp [e'])) y
end
end

section
open PySem PySem.W PyProof.Rows PySem.Calls
set_option maxRecDepth 100000
section
variable {prog : Program} {w : World} {A : Around} {E : Value → Shared → Prop} {s : Shared} {env : Env} {h₀ : Heap}

/-- the frame's map in a loop whose target is a pair of names -/
abbrev pairMap (xa xb : Str) (va vb : Value) (ps : List (Str × Value)) (stored : List Str) (u m₀ : Str → Option Value) : Str → Option Value :=
  fun y => if y = xb then some vb else if y = xa then some va else kstB (fun z => if stored.contains z then u z else m₀ z) ps y

def TurnAtW {σ : Type} (h₀ : Heap) (L : Addr) (own : List (Addr × Obj)) (Led : σ → List (Addr × Obj)) (news : List (Addr × Obj)) (ps : σ → List (Str × Value)) (stored : List Str) (m₀ : Str → Option Value) (P : σ → Prop) (s₁ s₂ : Shared) : Prop :=
  ∃ c h' tk m' all, s₂ = { s₁ with heap := h', toks := tk } ∧ Fr h₀ L h' m' ∧ News h₀ L h' all ∧ (∀ p ∈ own, p ∈ all) ∧ (∀ p ∈ Led c, p ∈ all) ∧ (∀ p ∈ news, p ∈ all) ∧
    (∀ p ∈ ps c, m' p.1 = some p.2) ∧ (∀ z, (∀ p ∈ ps c, z ≠ p.1) → stored.contains z = false → m' z = m₀ z) ∧ P c
def TurnToW {σ : Type} (h₀ : Heap) (L : Addr) (own : List (Addr × Obj)) (Led : σ → List (Addr × Obj)) (news : List (Addr × Obj)) (ps : σ → List (Str × Value)) (stored : List Str) (m₀ : Str → Option Value) (P : σ → Prop) (s₁ : Shared) (Q : Flow → Shared → Prop) (f : Flow) (s₂ : Shared) : Prop :=
  match f with
  | .ret v => Q (.ret v) s₂
  | .brk => Q .next s₂
  | _ => TurnAtW h₀ L own Led news ps stored m₀ P s₁ s₂
theorem TurnAtW.intro {σ : Type} {L : Addr} {own : List (Addr × Obj)} {Led : σ → List (Addr × Obj)} {news : List (Addr × Obj)} {ps : σ → List (Str × Value)} {stored : List Str} {m₀ : Str → Option Value} {P : σ → Prop} {s₁ : Shared} (c : σ) {h' : Heap} {tk : Nat} {m' : Str → Option Value} {all : List (Addr × Obj)}
    (F : Fr h₀ L h' m') (N : News h₀ L h' all) (ho : ∀ p ∈ own, p ∈ all) (hl : ∀ p ∈ Led c, p ∈ all) (hn : ∀ p ∈ news, p ∈ all) (hk : ∀ p ∈ ps c, m' p.1 = some p.2)
    (hr : ∀ z, (∀ p ∈ ps c, z ≠ p.1) → stored.contains z = false → m' z = m₀ z) (hp : P c) : TurnAtW h₀ L own Led news ps stored m₀ P s₁ { s₁ with heap := h', toks := tk } :=
  ⟨c, h', tk, m', all, rfl, F, N, ho, hl, hn, hk, hr, hp⟩
theorem TurnToW.next {σ : Type} {L : Addr} {own : List (Addr × Obj)} {Led : σ → List (Addr × Obj)} {news : List (Addr × Obj)} {ps : σ → List (Str × Value)} {stored : List Str} {m₀ : Str → Option Value} {P : σ → Prop} {s₁ s₂ : Shared} {Q : Flow → Shared → Prop}
    (h : TurnAtW h₀ L own Led news ps stored m₀ P s₁ s₂) : TurnToW h₀ L own Led news ps stored m₀ P s₁ Q .next s₂ := h
theorem TurnToW.brk {σ : Type} {L : Addr} {own : List (Addr × Obj)} {Led : σ → List (Addr × Obj)} {news : List (Addr × Obj)} {ps : σ → List (Str × Value)} {stored : List Str} {m₀ : Str → Option Value} {P : σ → Prop} {s₁ s₂ : Shared} {Q : Flow → Shared → Prop}
    (h : Q .next s₂) : TurnToW h₀ L own Led news ps stored m₀ P s₁ Q .brk s₂ := h

theorem assign_pair {a b : Str} {pa pb pos : Pos} {k : Nat} {T : Addr} {v1 v2 : Value} {m : Str → Option Value} {news : List (Addr × Obj)} {Q : Unit → Shared → Prop} (F : Fr h₀ env.locals s.heap m) (N : News h₀ env.locals s.heap news) (hT : IsTup s.heap T #[v1, v2]) (hh : A.handled = none)
    (ha : env.kindOf a = some .local) (hb : env.kindOf b = some .local) (hp : (env.scope.kind == .class || (env.scope.kind == .module && env.locals != env.globals)) = false)
    (h : ∀ h' tk, Fr h₀ env.locals h' (fun y => if y = b then some v2 else if y = a then some v1 else m y) → News h₀ env.locals h' news → Q () { s with heap := h', toks := tk }) :
    wpAny (model prog w) A (assign (.Tuple [.Name a pa, .Name b pb] k pos) env (.ref T)) Q E s := by
  refine unpackN_ F N hT hh rfl rfl fun h' F' N' => ?_
  show wpAny _ _ (assignInOrder [assign (.Name a pa) env, assign (.Name b pb) env] [v1, v2]) _ _ _
  refine assignInOrder_cons (wpAny_assign_Name (wpAny_storeName_local ha F'.ns (fun h₁ hn₁ hs₁ => ?_) hp))
  have F₁ := F'.set hn₁ hs₁
  have N₁ := N'.set hs₁
  refine assignInOrder_cons (wpAny_assign_Name (wpAny_storeName_local hb F₁.ns (fun h₂ hn₂ hs₂ => ?_) hp))
  exact assignInOrder_nil (h h₂ _ (F₁.set hn₂ hs₂) (N₁.set hs₂))

theorem loop_turns {σ : Type} {R : Result → Shared → Prop} {Q : Flow → Shared → Prop} {target : Expr} {body orelse : List Stmt} {I : Addr} {fp wr : List Addr} {n : Nat} {PV Md : Nat → Value → Heap → Prop} {St : Nat → Heap → Prop} {clss : List Value} {m₀ : Str → Option Value} {news : List (Addr × Obj)}
    (Led : σ → List (Addr × Obj)) (ps : σ → List (Str × Value)) (stored : List Str) (P : Nat → σ → Prop) (c₀ : σ)
    (W : KTurns prog w A target I fp wr n PV Md St) (hSt : ∀ i h, St i h → ∃ own : List (Addr × Obj), own.map (·.1) = wr ∧ ∀ p ∈ own, h.get? p.1 = some p.2 ∧ p.2.cls ∈ clss) (hcls : ∀ i c, P i c → ∀ p ∈ Led c, p.2.cls ∉ clss)
    (hLI : env.locals ∉ wr) (hI₀ : ∀ b ∈ wr, h₀.get? b = none) (hIn : ∀ p ∈ news, p.1 ∉ wr)
    (hfp : ∀ b ∈ fp, b ∈ wr ∨ (∃ o, h₀.get? b = some o))
    (hst : St 0 s.heap) (F : Fr h₀ env.locals s.heap m₀) (N : News h₀ env.locals s.heap (Led c₀ ++ news)) (hk : ∀ p ∈ ps c₀, m₀ p.1 = some p.2) (hP : P 0 c₀)
    (hR : ∀ f s', Q f s' → R (.ok f) s')
    (turn : ∀ (c : σ) i v (u : Str → Option Value) (own : List (Addr × Obj)) h tk, i < n → PV i v h → P i c → own.map (·.1) = wr →
      Fr h₀ env.locals h (kstB (fun z => if stored.contains z then u z else m₀ z) (ps c)) → News h₀ env.locals h (own ++ (Led c ++ news)) → (∀ p ∈ Led c, p.1 ∉ wr) →
      wpAny (model prog w) A (assign target env v) (fun _ s₂ => wpAny (model prog w) A (execs body env) (TurnToW h₀ env.locals own Led news ps stored m₀ (P (i + 1)) { s with heap := h, toks := tk } Q) (fun _ _ => False) s₂) (fun _ _ => False) { s with heap := h, toks := tk })
    (done : ∀ (c : σ) (u : Str → Option Value) h tk, P n c → Fr h₀ env.locals h (kstB (fun z => if stored.contains z then u z else m₀ z) (ps c)) → News h₀ env.locals h (Led c ++ news) → wpAny (model prog w) A (execs orelse env) Q (fun _ _ => False) { s with heap := h, toks := tk }) :
    codeAny (model prog w) A (.forLoop target (.ref I) body orelse env) R s := by
  have mapE : ∀ (c : σ) (m' : Str → Option Value), (∀ p ∈ ps c, m' p.1 = some p.2) → (∀ z, (∀ p ∈ ps c, z ≠ p.1) → stored.contains z = false → m' z = m₀ z) → kstB (fun z => if stored.contains z then m' z else m₀ z) (ps c) = m' := by
    intro c m' h1 h2
    funext y
    refine kstB_eq h1 fun hn => ?_
    show (if stored.contains y = true then m' y else m₀ y) = m' y
    cases h3 : stored.contains y with
    | true => simp
    | false => simp only [Bool.false_eq_true, if_false]; exact (h2 y hn h3).symm
  refine codeAny_forLoop_any (fun k s' => ∃ i c h' tk m', s' = { s with heap := h', toks := tk } ∧ St i h' ∧ Fr h₀ env.locals h' m' ∧ News h₀ env.locals h' (Led c ++ news) ∧
      (∀ p ∈ ps c, m' p.1 = some p.2) ∧ (∀ z, (∀ p ∈ ps c, z ≠ p.1) → stored.contains z = false → m' z = m₀ z) ∧ P i c ∧ i ≤ n ∧ k = n + 1 - i) ?_ (n + 1)
    ⟨0, c₀, s.heap, s.toks, m₀, rfl, hst, F, N, hk, fun _ _ _ => rfl, hP, Nat.zero_le _, rfl⟩
  rintro k s' ⟨i, c, h', tk, m', rfl, hst', F', N', h1, h2, hP', hi, rfl⟩
  have offI : ∀ p ∈ Led c, p.1 ∉ wr := by
    obtain ⟨own, ho, hown⟩ := hSt i h' hst'
    intro p hp' hw
    rw [← ho] at hw
    obtain ⟨q, hq, e⟩ := List.mem_map.mp hw
    have a1 := (hown q hq).1
    have a2 := (N' p (List.mem_append_left _ hp')).1
    rw [e, a2] at a1
    exact hcls i c hP' p hp' (by rw [Option.some.inj a1]; exact (hown q hq).2)
  have keep : ∀ h₁ : Heap, (∀ b o, b ∉ wr → h'.get? b = some o → h₁.get? b = some o) → Fr h₀ env.locals h₁ m' ∧ News h₀ env.locals h₁ (Led c ++ news) := fun h₁ hk₁ => by
    refine ⟨⟨F'.ns.at' fun o e => hk₁ _ o hLI e, fun b o e => hk₁ b o (fun hb => ?_) (F'.keep b o e), F'.above⟩, fun p hp' => ⟨hk₁ _ _ (fun hb => ?_) (N' p hp').1, (N' p hp').2⟩⟩
    · rw [hI₀ b hb] at e; cases e
    · rcases List.mem_append.mp hp' with q | q
      · exact offI p q hb
      · exact hIn p q hb
  by_cases hlt : i < n
  · refine W.item i _ _ _ hlt hst' fun v h₁ tk₁ hMd hk₁ => ?_
    refine W.go i v _ _ _ hMd fun h₂ hPv hst₂ hk₂ => ?_
    obtain ⟨F₂, N₂⟩ := keep h₂ fun b o hb x => hk₂ b o hb (hk₁ b o hb x)
    obtain ⟨own, ho, hown⟩ := hSt (i + 1) h₂ hst₂
    have hwr : ∀ p ∈ own, p.1 ∈ wr := fun p hp' => by rw [← ho]; exact List.mem_map_of_mem hp'
    have NI : News h₀ env.locals h₂ (own ++ (Led c ++ news)) := fun p hp' => by
      rcases List.mem_append.mp hp' with q | q
      · exact ⟨(hown p q).1, fun e => hLI (e ▸ hwr p q), hI₀ _ (hwr p q)⟩
      · exact N₂ p q
    have F₃ := F₂
    rw [← mapE c m' h1 h2] at F₃
    refine wpAny_mono (turn c i v m' own h₂ _ hlt hPv hP' ho F₃ NI offI) (fun _ s₂ h₂' => wpAny_mono h₂' (fun f s₃ h₃ => ?_) fun _ _ e => e.elim) fun _ _ e => e.elim
    have fin : TurnAtW h₀ env.locals own Led news ps stored m₀ (P (i + 1)) { s with heap := h₂, toks := tk₁ } s₃ → ∃ m, m < n + 1 - i ∧ ∃ i c h' tk m', s₃ = { s with heap := h', toks := tk } ∧ St i h' ∧ Fr h₀ env.locals h' m' ∧ News h₀ env.locals h' (Led c ++ news) ∧
      (∀ p ∈ ps c, m' p.1 = some p.2) ∧ (∀ z, (∀ p ∈ ps c, z ≠ p.1) → stored.contains z = false → m' z = m₀ z) ∧ P i c ∧ i ≤ n ∧ m = n + 1 - i := by
      rintro ⟨c', h₃', tk₃, m₃, all, rfl, F₃, N₃, hI₃, hl₃, hn₃, g1, g2, g3⟩
      refine ⟨n + 1 - (i + 1), by omega, i + 1, c', h₃', tk₃, m₃, rfl, ?_, F₃, fun p hp' => ?_, g1, g2, g3, hlt, rfl⟩
      · refine W.frame _ _ _ hst₂ fun b hb o e => ?_
        rcases hfp b hb with hb | ⟨o', ho'⟩
        · rw [← ho] at hb
          obtain ⟨q, hq, rfl⟩ := List.mem_map.mp hb
          rw [(hown q hq).1] at e
          rw [← Option.some.inj e]
          exact (N₃ _ (hI₃ q hq)).1
        · have q := F₂.keep b o' ho'
          rw [e] at q
          rw [Option.some.inj q]
          exact F₃.keep b o' ho'
      · rcases List.mem_append.mp hp' with q | q
        · exact N₃ _ (hl₃ p q)
        · exact N₃ _ (hn₃ p q)
    cases f with
    | ret v => exact hR _ _ h₃
    | brk => exact hR _ _ h₃
    | next => exact fin h₃
    | cont => exact fin h₃
  · have hin : i = n := by omega
    subst hin
    refine W.done _ _ _ hst' fun h₁ tk₁ hk₁ => ?_
    obtain ⟨F₁, N₁⟩ := keep h₁ hk₁
    rw [← mapE c m' h1 h2] at F₁
    exact wpAny_mono (done c m' h₁ tk₁ hP' F₁ N₁) (fun f s' q => hR f s' q) fun _ _ e => e.elim

/-- for a, b in enumerate(a tuple of the ground) -/
theorem for_enumT {σ : Type} {Q : Flow → Shared → Prop} {xa xb : Str} {pa pb pt : Pos} {k : Nat} {body orelse : List Stmt} {t : Addr} {vs : List Value} {m₀ : Str → Option Value} {news : List (Addr × Obj)}
    (Led : σ → List (Addr × Obj)) (ps : σ → List (Str × Value)) (stored : List Str) (P : Nat → σ → Prop) (c₀ : σ)
    (hh : A.handled = none) (ht : IsTup h₀ t vs.toArray) (hcls : ∀ i c, P i c → ∀ p ∈ Led c, p.2.cls ∉ [Value.type "enumerate", Value.type "tuple_iterator"])
    (hxa : env.kindOf xa = some .local) (hxb : env.kindOf xb = some .local) (hp : (env.scope.kind == .class || (env.scope.kind == .module && env.locals != env.globals)) = false)
    (F : Fr h₀ env.locals s.heap m₀) (N : News h₀ env.locals s.heap (Led c₀ ++ news)) (hk : ∀ p ∈ ps c₀, m₀ p.1 = some p.2) (hP : P 0 c₀)
    (turn : ∀ (c : σ) i v t (u : Str → Option Value) e it oe oi h tk, i < vs.length → vs[i]? = some v → P i c → (∀ p ∈ news, p.1 < it) → @Eq Nat e (it + 1) →
      Fr h₀ env.locals h (pairMap xa xb (.int i t) v (ps c) stored u m₀) → News h₀ env.locals h ((e, oe) :: (it, oi) :: (Led c ++ news)) → AllNe e (Led c) → AllNe it (Led c) →
      wpAny (model prog w) A (execs body env) (TurnToW h₀ env.locals [(e, oe), (it, oi)] Led news ps stored m₀ (P (i + 1)) { s with heap := h, toks := tk } Q) (fun _ _ => False) { s with heap := h, toks := tk })
    (done : ∀ (c : σ) (u : Str → Option Value) h tk, P vs.length c → Fr h₀ env.locals h (kstB (fun z => if stored.contains z then u z else m₀ z) (ps c)) → News h₀ env.locals h (Led c ++ news) → wpAny (model prog w) A (execs orelse env) Q (fun _ _ => False) { s with heap := h, toks := tk }) :
    wpAny (model prog w) A (call (.type "enumerate") [.ref t]) (fun xv s₁ => wpAny (model prog w) A (pyIter xv) (fun it s₂ => codeAny (model prog w) A (.forLoop (.Tuple [.Name xa pa, .Name xb pb] k pt) it body orelse env) (fun r s' => match r with | .ok f => Q f s' | .error e => cameBackBy (model prog w) A env E e s') s₂) E s₁) E s := by
  obtain ⟨ot, hot, hct, nt, hdt⟩ := ht
  have htt : s.heap.IsTuple t vs.toArray := ⟨ot, F.keep _ _ hot, hct, nt, hdt⟩
  have htl : t < s.heap.objs.size := Heap.lt_size (F.keep _ _ hot)
  refine call_enum_tup htt fun h' hE hI hkp => ?_
  refine wpAny_pyIter_enum hE ?_
  have W := turns_enum_tup (prog := prog) (w := w) (A := A) hh (elts := [.Name xa pa, .Name xb pb]) (k := k) (pos := pt) (s.heap.objs.size + 1) s.heap.objs.size t (Nat.succ_ne_self _) (ktu_ne 1 htl) (Nat.ne_of_lt htl) vs.toArray
  have hlen : vs.toArray.size = vs.length := by simp
  rw [hlen] at W
  have F' := F.keeps hkp
  have N' : News h₀ env.locals h' (Led c₀ ++ news) := fun p hp' => ⟨hkp _ _ (N p hp').1, (N p hp').2⟩
  have ltN : ∀ p ∈ news, p.1 < s.heap.objs.size := fun p hp' => Heap.lt_size (N p (List.mem_append_right _ hp')).1
  have free : ∀ b, s.heap.objs.size ≤ b → h₀.get? b = none := fun b hb => by
    cases q : h₀.get? b with
    | none => rfl
    | some o => exact absurd (Heap.lt_size (F.keep _ _ q)) (Nat.not_lt.mpr hb)
  refine loop_turns (s := { s with heap := h' }) (clss := [Value.type "enumerate", Value.type "tuple_iterator"]) Led ps stored P c₀ W ?_ hcls ?_ ?_ ?_ ?_ ⟨⟨.none, hE⟩, hI, ⟨ot, hkp _ _ (F.keep _ _ hot), hct, nt, hdt⟩⟩ F' N' hk hP (fun f s' q => q) ?_ ?_
  · rintro i h ⟨⟨old, he⟩, ⟨oi, hoi, hic, _⟩, _⟩
    have he' : ∃ oe : Obj, h.get? (s.heap.objs.size + 1) = some oe ∧ oe.cls = .type "enumerate" := ⟨_, he, rfl⟩
    obtain ⟨oe, h1, h2⟩ := he'
    refine ⟨[(s.heap.objs.size + 1, oe), (s.heap.objs.size, oi)], rfl, fun p hp' => ?_⟩
    rcases List.mem_cons.mp hp' with rfl | hp'
    · exact ⟨h1, by simp [h2]⟩
    · rw [List.mem_singleton.mp hp']; exact ⟨hoi, by simp [hic]⟩
  · intro hm
    have hLs : env.locals < s.heap.objs.size := F.ns.lt
    rcases List.mem_cons.mp hm with e | hm
    · exact ktu_ne 1 hLs e
    · exact Nat.ne_of_lt hLs (List.mem_singleton.mp hm)
  · intro b hb
    rcases List.mem_cons.mp hb with rfl | hb
    · exact free _ (Nat.le_add_right _ _)
    · rw [List.mem_singleton.mp hb]; exact free _ (Nat.le_refl _)
  · intro p hp' hm
    rcases List.mem_cons.mp hm with e | hm
    · exact ktu_ne 1 (ltN p hp') e
    · exact Nat.ne_of_lt (ltN p hp') (List.mem_singleton.mp hm)
  · intro b hb
    simp only [List.mem_cons, List.not_mem_nil, or_false] at hb
    rcases hb with h | h | h
    · exact .inl (by simp [h])
    · exact .inl (by simp [h])
    · exact .inr ⟨ot, by rw [h]; exact hot⟩
  · rintro c i v u own h tk hi ⟨T, t', x, rfl, hx, hT⟩ hP' ho F₁ N₁ off
    rcases own with _ | ⟨⟨e, oe⟩, own⟩
    · cases ho
    rcases own with _ | ⟨⟨it, oi⟩, own⟩
    · cases ho
    rcases own with _ | ⟨q, own⟩
    · simp only [List.map_cons, List.map_nil, List.cons.injEq, and_true] at ho
      obtain ⟨he, hi'⟩ := ho
      have he : e = s.heap.objs.size + 1 := he
      have hi' : it = s.heap.objs.size := hi'
      refine assign_pair F₁ N₁ ⟨_, hT, rfl, 0, rfl⟩ hh hxa hxb hp fun h₂ tk₂ F₂ N₂ => ?_
      refine turn c i x t' u e it oe oi h₂ tk₂ hi (by simpa using hx) hP' (by rw [hi']; exact ltN) (by rw [he, hi']) F₂ N₂ (allNe_of fun p hp' e' => ?_) (allNe_of fun p hp' e' => ?_)
      · exact off p hp' (by rw [e', he]; simp)
      · exact off p hp' (by rw [e', hi']; simp)
    · cases ho
  · intro c u h tk hP' F₁ N₁
    exact done c u h tk hP' F₁ N₁

/-- for a, b in a tuple of pairs of the ground -/
theorem for_tupT {σ : Type} {Q : Flow → Shared → Prop} {xa xb : Str} {pa pb pt : Pos} {k : Nat} {body orelse : List Stmt} {t : Addr} {ts : List Addr} {prs : List (Value × Value)} {m₀ : Str → Option Value} {news : List (Addr × Obj)}
    (Led : σ → List (Addr × Obj)) (ps : σ → List (Str × Value)) (stored : List Str) (P : Nat → σ → Prop) (c₀ : σ)
    (hh : A.handled = none) (ht : IsTup h₀ t (ts.map Value.ref).toArray) (hlen : ts.length = prs.length) (hpr : ∀ (i : Nat) (T : Addr) (pr : Value × Value), ts[i]? = some T → prs[i]? = some pr → IsTup h₀ T #[pr.1, pr.2])
    (hcls : ∀ i c, P i c → ∀ p ∈ Led c, p.2.cls ∉ [Value.type "tuple_iterator"])
    (hxa : env.kindOf xa = some .local) (hxb : env.kindOf xb = some .local) (hp : (env.scope.kind == .class || (env.scope.kind == .module && env.locals != env.globals)) = false)
    (F : Fr h₀ env.locals s.heap m₀) (N : News h₀ env.locals s.heap (Led c₀ ++ news)) (hk : ∀ p ∈ ps c₀, m₀ p.1 = some p.2) (hP : P 0 c₀)
    (turn : ∀ (c : σ) i (pr : Value × Value) (u : Str → Option Value) I oI h tk, i < prs.length → prs[i]? = some pr → P i c → (∀ p ∈ news, p.1 < I) →
      Fr h₀ env.locals h (pairMap xa xb pr.1 pr.2 (ps c) stored u m₀) → News h₀ env.locals h ((I, oI) :: (Led c ++ news)) → AllNe I (Led c) →
      wpAny (model prog w) A (execs body env) (TurnToW h₀ env.locals [(I, oI)] Led news ps stored m₀ (P (i + 1)) { s with heap := h, toks := tk } Q) (fun _ _ => False) { s with heap := h, toks := tk })
    (done : ∀ (c : σ) (u : Str → Option Value) h tk, P prs.length c → Fr h₀ env.locals h (kstB (fun z => if stored.contains z then u z else m₀ z) (ps c)) → News h₀ env.locals h (Led c ++ news) → wpAny (model prog w) A (execs orelse env) Q (fun _ _ => False) { s with heap := h, toks := tk }) :
    wpAny (model prog w) A (pyIter (.ref t)) (fun it s₂ => codeAny (model prog w) A (.forLoop (.Tuple [.Name xa pa, .Name xb pb] k pt) it body orelse env) (fun r s' => match r with | .ok f => Q f s' | .error e => cameBackBy (model prog w) A env E e s') s₂) E s := by
  obtain ⟨ot, hot, hct, nt, hdt⟩ := ht
  have htt : s.heap.IsTuple t (ts.map Value.ref).toArray := ⟨ot, F.keep _ _ hot, hct, nt, hdt⟩
  have htl : t < s.heap.objs.size := Heap.lt_size (F.keep _ _ hot)
  refine wpAny_pyIter_tuple htt ?_
  have W := KTurns.ofWalks (target := .Tuple [.Name xa pa, .Name xb pb] k pt) (Walks.tuple (prog := prog) (w := w) (A := A) hh s.heap.objs.size t (Nat.ne_of_lt htl) (ts.map Value.ref).toArray) fun i v s Q E st q => letGo_tupleiter st.1 q
  have hl2 : (ts.map Value.ref).toArray.size = prs.length := by simp [hlen]
  rw [hl2] at W
  have ltN : ∀ p ∈ news, p.1 < s.heap.objs.size := fun p hp' => Heap.lt_size (N p (List.mem_append_right _ hp')).1
  refine loop_turns (s := { s with heap := s.heap.push _ }) (clss := [Value.type "tuple_iterator"]) Led ps stored P c₀ W ?_ hcls ?_ ?_ ?_ ?_ ⟨⟨_, Heap.get?_push_size _ rfl, rfl, rfl⟩, ⟨ot, Heap.get?_push_of_some _ (F.keep _ _ hot), hct, nt, hdt⟩⟩ (F.push _) (fun p hp' => ⟨Heap.get?_push_of_some _ (N p hp').1, (N p hp').2⟩) hk hP (fun f s' q => q) ?_ ?_
  · rintro i h ⟨⟨oi, hoi, hic, _⟩, _⟩
    exact ⟨[(s.heap.objs.size, oi)], rfl, fun p hp' => by rw [List.mem_singleton.mp hp']; exact ⟨hoi, by simp [hic]⟩⟩
  · intro hm
    have hLs : env.locals < s.heap.objs.size := F.ns.lt
    exact Nat.ne_of_lt hLs (List.mem_singleton.mp hm)
  · intro b hb
    rw [List.mem_singleton.mp hb]; exact next_is_new F
  · intro p hp' hm
    exact Nat.ne_of_lt (ltN p hp') (List.mem_singleton.mp hm)
  · intro b hb
    simp only [List.mem_cons, List.not_mem_nil, or_false] at hb
    rcases hb with h | h
    · exact .inl (by simp [h])
    · exact .inr ⟨ot, by rw [h]; exact hot⟩
  · rintro c i v u own h tk hi hx hP' ho F₁ N₁ off
    rcases own with _ | ⟨⟨I, oI⟩, own⟩
    · cases ho
    rcases own with _ | ⟨q, own⟩
    · simp only [List.map_cons, List.map_nil, List.cons.injEq, and_true] at ho
      have ho : I = s.heap.objs.size := ho
      have hx' : (ts.map Value.ref)[i]? = some v := by simpa using hx
      rw [List.getElem?_map] at hx'
      obtain ⟨T, hTi, rfl⟩ := Option.map_eq_some_iff.mp hx'
      have hpi : prs[i]? = some prs[i] := by simp [hi]
      obtain ⟨oT, g1, g2⟩ := hpr i T _ hTi hpi
      refine assign_pair F₁ N₁ ⟨oT, F₁.keep _ _ g1, g2⟩ hh hxa hxb hp fun h₂ tk₂ F₂ N₂ => ?_
      refine turn c i _ u I oI h₂ tk₂ hi hpi hP' (by rw [ho]; exact ltN) F₂ N₂ (allNe_of fun p hp' e' => ?_)
      exact off p hp' (by rw [e', ho]; simp)
    · cases ho
  · intro c u h tk hP' F₁ N₁
    exact done c u h tk hP' F₁ N₁
end
end

section
open PySem PySem.W PyProof.Rows PySem.Calls
set_option maxRecDepth 100000
set_option maxHeartbeats 0
set_option linter.unusedSimpArgs false
structure Bc where
  bit : Int
  bt : Nat
  ch : Str
  ct : Nat
abbrev Bc.pr (q : Bc) : Value × Value := (.int q.bit q.bt, .str q.ch q.ct)
/-- the rows of the table: its address, its pairs' addresses, its pairs -/
def fmTab : List (Addr × List Addr × List Bc) := [
  (71, [64, 65, 66, 67, 68, 69, 70], [⟨40960, 262, Str.ofString "l", 290⟩, ⟨49152, 264, Str.ofString "s", 291⟩, ⟨32768, 258, Str.ofString "-", 292⟩, ⟨24576, 256, Str.ofString "b", 293⟩, ⟨16384, 252, Str.ofString "d", 294⟩, ⟨8192, 254, Str.ofString "c", 295⟩, ⟨4096, 260, Str.ofString "p", 296⟩]),
  (73, [72], [⟨256, 272, Str.ofString "r", 297⟩]),
  (75, [74], [⟨128, 274, Str.ofString "w", 298⟩]),
  (79, [76, 77, 78], [⟨2112, 299, Str.ofString "s", 300⟩, ⟨2048, 266, Str.ofString "S", 301⟩, ⟨64, 276, Str.ofString "x", 302⟩]),
  (81, [80], [⟨32, 278, Str.ofString "r", 303⟩]),
  (83, [82], [⟨16, 280, Str.ofString "w", 304⟩]),
  (87, [84, 85, 86], [⟨1032, 305, Str.ofString "s", 306⟩, ⟨1024, 268, Str.ofString "S", 307⟩, ⟨8, 282, Str.ofString "x", 308⟩]),
  (89, [88], [⟨4, 284, Str.ofString "r", 309⟩]),
  (91, [90], [⟨2, 286, Str.ofString "w", 310⟩]),
  (95, [92, 93, 94], [⟨513, 311, Str.ofString "t", 312⟩, ⟨512, 270, Str.ofString "T", 313⟩, ⟨1, 288, Str.ofString "x", 314⟩])]
def bcTest (i : Nat) (mode : Int) (q : Bc) : Bool := if i = 0 then Builtin.bitAnd mode 61440 == q.bit else Builtin.bitAnd mode q.bit == q.bit
def bcPick (i : Nat) (mode : Int) (qs : List Bc) : Str := match qs.find? (bcTest i mode) with
  | some q => q.ch
  | none => if i = 0 then Str.ofString "?" else Str.ofString "-"
def fmChar (mode : Int) (i : Nat) : Str := bcPick i mode ((fmTab.getD i (0, [], [])).2.2)

theorem fm_top {w : World} {g : Heap} (X : (Mine.hd.heap_39 w.params).In g) : IsTup g 96 (fmTab.map fun r => Value.ref r.1).toArray := ⟨_, X 96 _ (by rfl), rfl, 0, rfl⟩
inductive TupsAt (g : Heap) : List Addr → List (Value × Value) → Prop
  | nil : TupsAt g [] []
  | cons {T : Addr} {ts : List Addr} {pr : Value × Value} {ps : List (Value × Value)} : IsTup g T #[pr.1, pr.2] → TupsAt g ts ps → TupsAt g (T :: ts) (pr :: ps)
theorem TupsAt.out {g : Heap} : ∀ {ts : List Addr} {ps : List (Value × Value)}, TupsAt g ts ps → ts.length = ps.length ∧ ∀ (i : Nat) (T : Addr) (pr : Value × Value), ts[i]? = some T → ps[i]? = some pr → IsTup g T #[pr.1, pr.2]
  | _, _, .nil => ⟨rfl, fun i T pr h => by simp at h⟩
  | _, _, .cons h t => by
    have ih := t.out
    refine ⟨by simp [ih.1], fun i T pr h1 h2 => ?_⟩
    cases i with
    | zero => cases h1; cases h2; exact h
    | succ i => exact ih.2 i T pr (by simpa using h1) (by simpa using h2)
theorem fm_row {w : World} {g : Heap} (X : (Mine.hd.heap_39 w.params).In g) {r : Addr × List Addr × List Bc} (hr : r ∈ fmTab) : IsTup g r.1 (r.2.1.map Value.ref).toArray ∧ r.2.1.length = (r.2.2.map Bc.pr).length ∧ ∀ (i : Nat) (T : Addr) (pr : Value × Value), r.2.1[i]? = some T → (r.2.2.map Bc.pr)[i]? = some pr → IsTup g T #[pr.1, pr.2] := by
  have main : ∀ r ∈ fmTab, IsTup g r.1 (r.2.1.map Value.ref).toArray ∧ TupsAt g r.2.1 (r.2.2.map Bc.pr) := by
    rw [fmTab]
    simp only [List.forall_mem_cons]
    refine ⟨?_, ?_, ?_, ?_, ?_, ?_, ?_, ?_, ?_, ?_, by simp⟩
    all_goals
      refine ⟨⟨_, X _ _ (by rfl), rfl, 0, rfl⟩, ?_⟩
      repeat (first | exact TupsAt.nil | refine TupsAt.cons ⟨_, X _ _ (by rfl), rfl, 0, rfl⟩ ?_)
  exact ⟨(main r hr).1, (main r hr).2.out⟩

theorem bcPick_found {i j : Nat} {mode : Int} {qs : List Bc} {q : Bc} (hq : qs[j]? = some q) (hb : ∀ q ∈ qs.take j, bcTest i mode q = false) (ht : bcTest i mode q = true) : bcPick i mode qs = q.ch := by
  have hs : qs = qs.take j ++ q :: qs.drop (j + 1) := by
    have hlt := (List.getElem?_eq_some_iff.mp hq).1
    have e := (List.getElem?_eq_some_iff.mp hq).2
    rw [← e]
    simp
  have hf : qs.find? (bcTest i mode) = some q := by
    rw [hs, List.find?_append, List.find?_eq_none.mpr (fun x hx => by simp [hb x hx])]
    simp [ht]
  rw [bcPick, hf]
theorem bcTest_more {i j : Nat} {mode : Int} {qs : List Bc} {q : Bc} (hq : qs[j]? = some q) (hb : ∀ q ∈ qs.take j, bcTest i mode q = false) (ht : bcTest i mode q = false) : ∀ q ∈ qs.take (j + 1), bcTest i mode q = false := by
  intro x hx
  rw [List.take_add_one, hq] at hx
  rcases List.mem_append.mp hx with h | h
  · exact hb x h
  · rw [Option.toList_some, List.mem_singleton] at h
    rw [h]; exact ht
theorem bcPick_none {i : Nat} {mode : Int} {qs : List Bc} (hb : ∀ q ∈ qs, bcTest i mode q = false) : bcPick i mode qs = if i = 0 then Str.ofString "?" else Str.ofString "-" := by
  have hf : qs.find? (bcTest i mode) = none := List.find?_eq_none.mpr fun x hx => by simp [hb x hx]
  rw [bcPick, hf]
theorem strsAre_push {us : List Value} {ss : List Str} {x y : Str} {t : Tok} (h : StrsAre us ss) (e : x = y) : StrsAre (us ++ [.str x t]) (ss ++ [y]) := by
  subst e
  exact PyProof.Rows.StrsAre.append' h (.cons _ _ .nil)
theorem bcPick_len {i : Nat} {mode : Int} {qs : List Bc} (h : ∀ q ∈ qs, q.ch.length = 1) : (bcPick i mode qs).length = 1 := by
  unfold bcPick
  split
  · rename_i q hq
    exact h q (List.mem_of_find?_eq_some hq)
  · split <;> decide
theorem fmRow_chars : ∀ r ∈ fmTab, ∀ q ∈ r.2.2, q.ch.length = 1 := by decide +kernel
theorem fmChar_len (mode : Int) (i : Nat) : (fmChar mode i).length = 1 := by
  unfold fmChar
  refine bcPick_len ?_
  rw [List.getD_eq_getElem?_getD]
  cases h : fmTab[i]? with
  | none => intro q hq; simp at hq
  | some r => exact fmRow_chars r (List.mem_of_getElem? h)
theorem fmChars_len (mode : Int) : ((((List.range 10).map (fmChar mode)).map (·.length)).sum + ((List.range 10).map (fmChar mode)).length * (Str.ofString "").length) ≤ 16777216 := by
  have : ((List.range 10).map (fmChar mode)).map (·.length) = (List.range 10).map fun _ => 1 := by
    rw [List.map_map]
    refine List.map_congr_left fun i _ => ?_
    exact fmChar_len mode i
  rw [this]
  have e : (Str.ofString "").length = 0 := by decide
  rw [e, Nat.mul_zero]
  decide


theorem filemode_tell (w : World) {mode : Int} {t0 : Tok} {rest : List (Addr × Obj)} :
    Tell w 3 (.ref 103) [.int mode t0] [] rest (fun r tl => tl = [] ∧ ∃ t, r = .str (Txt.join (Str.ofString "") ((List.range 10).map (fmChar mode))) t) := by
  w_top off
  k_with_none
  (k_with "exec For Name Name cons nil" => (k_here; refine wpAny_ForA ?_))
  (k_with "exec For Name Call cons nil" => (k_here; refine wpAny_ForA ?_))
  (k_with "exec For Name List cons nil" => (k_here; refine wpAny_ForA ?_))
  (k_with "exec For Tuple Call cons nil" => (k_here; refine wpAny_ForA ?_))
  (k_with "exec For Tuple Name cons cons" => (k_here; refine wpAny_ForA ?_))
  (k_with "exec For Name Name cons cons" => (k_here; refine wpAny_ForA ?_))
  have hfill : (Mine.hd.heap_39 w.params).In default → Challenge.rw_oy0162_01 = Challenge.rw_oy0162_01 := by
    k_fill
    intro _; rfl
  clear hfill
  k_dflt (refine enter [(Str.ofString "mode", .int mode t0)] (by k_is) (by k_is) (fun s hX => BindsTo.of_eq rfl) (locs rfl) ?_ rfl rfl rfl (by decide))
  intro p loose mean mg mb dp un gd cn cs L a ccd cl outer base g L' s hdp hun hcs F N B X T lt
  simp only [List.nil_append] at N
  replace lt := allLt_of lt
  simp only [List.nil_append] at lt
  try dsimp only
  try k_fold
  k_steps
  rename_i D h1 q1 h2 F' N'
  replace q1 : AllLt D rest := allLt_of q1
  refine for_enumT (σ := List Value × Nat) (vs := fmTab.map fun r => Value.ref r.1) (news := rest) (fun c => [(D, listOf c.1.toArray c.2)]) (fun _ => []) [Str.ofString "index", Str.ofString "table", Str.ofString "bit", Str.ofString "char"]
    (fun i c => StrsAre c.1 ((List.range i).map (fmChar mode))) ([], 0) rfl (fm_top X) ?hcls rfl rfl rfl F' N' (by kst_all) .nil ?turn ?done
  case hcls => intro _ c _ p hp; simp at hp; subst hp; simp
  case turn =>
    rintro ⟨us, c⟩ i v ti u e it oe oi h tk hi hv hP lI he F1 N1 hoff1 hoff2
    dsimp only at hP F1 N1 hoff1 hoff2
    simp only [List.cons_append, List.nil_append] at N1
    replace lI := allLt_of lI
    obtain ⟨hoff1, -⟩ := hoff1
    obtain ⟨hoff2, -⟩ := hoff2
    dsimp only at hoff1 hoff2
    rw [List.getElem?_map] at hv
    obtain ⟨r, hr, rfl⟩ := Option.map_eq_some_iff.mp hv
    have hrm : r ∈ fmTab := List.mem_of_getElem? hr
    obtain ⟨g1, g2, g3⟩ := fm_row X hrm
    have hln := hP.length
    simp only [List.length_map, List.length_range] at hln
    have hi10 : i < 10 := by simpa [fmTab] using hi
    clear F' N'
    k_steps
    refine for_tupT (σ := Unit) (prs := r.2.2.map Bc.pr) (news := (e, oe) :: (it, oi) :: (D, listOf us.toArray c) :: rest) (fun _ => []) (fun _ => []) [Str.ofString "bit", Str.ofString "char"]
      (fun j _ => ∀ q ∈ r.2.2.take j, bcTest i mode q = false) () rfl g1 g2 g3 ?hclsB rfl rfl rfl F1 N1 (by kst_all) ?hPB ?turnB ?doneB
    case hclsB => intro _ c _ p hp; cases hp
    case hPB => intro q hq; simp at hq
    case turnB =>
      rintro - j pr u2 I2 oI2 h2 tk2 hj hpr hQ lI2 F2 N2 -
      try dsimp only at hQ F2 N2
      simp only [List.nil_append] at N2
      replace lI2 := allLt_of lI2
      simp only [AllLt] at lI2
      rw [List.getElem?_map] at hpr
      obtain ⟨q, hq, rfl⟩ := Option.map_eq_some_iff.mp hpr
      try dsimp only at F2
      clear F1 N1
      k_steps
      · dsimp only
        refine TurnToW.brk ?_
        k_steps
        rename News _ _ _ _ => N10
        simp only [List.push_toArray] at N10
        rename (Builtin.bitAnd mode 61440 = q.bit) => hc
        refine TurnToW.next (TurnAtW.intro (us ++ [.str _ _], c + 1) (by assumption) N10 (by kcf_all) (by kcf_all) (by kcf_all) (by kst_all) (by intro z h2 h3; have h3' := h3; simp only [List.contains_cons, List.contains_nil, Bool.or_false, Bool.or_eq_false_iff, beq_eq_false_iff_ne, ne_eq] at h3'; (try simp only [List.forall_mem_cons, List.not_mem_nil, false_implies, implies_true, and_true, ne_eq] at h2); simp [pairMap, loopMap, kstB, h2, h3', h3]) ?_)
        rw [List.range_succ, List.map_append]
        refine strsAre_push hP ?_
        rw [fmChar, List.getD_eq_getElem?_getD, hr]
        exact (bcPick_found hq hQ (by rw [bcTest, if_pos (by omega), hc]; simp)).symm
      · refine TurnToW.next (TurnAtW.intro () (by assumption) (by assumption) (by kcf_all) (by kcf_all) (by kcf_all) (by kst_all) (by intro z h2 h3; have h3' := h3; simp only [List.contains_cons, List.contains_nil, Bool.or_false, Bool.or_eq_false_iff, beq_eq_false_iff_ne, ne_eq] at h3'; (try simp only [List.forall_mem_cons, List.not_mem_nil, false_implies, implies_true, and_true, ne_eq] at h2); simp [pairMap, loopMap, kstB, h2, h3', h3]) ?_)
        rename (Builtin.bitAnd mode 61440 ≠ q.bit) => hc
        exact bcTest_more hq hQ (by rw [bcTest, if_pos (by omega)]; simp [hc])
      · dsimp only
        refine TurnToW.brk ?_
        k_steps
        rename News _ _ _ _ => N10
        simp only [List.push_toArray] at N10
        rename (Builtin.bitAnd mode q.bit = q.bit) => hc
        refine TurnToW.next (TurnAtW.intro (us ++ [.str _ _], c + 1) (by assumption) N10 (by kcf_all) (by kcf_all) (by kcf_all) (by kst_all) (by intro z h2 h3; have h3' := h3; simp only [List.contains_cons, List.contains_nil, Bool.or_false, Bool.or_eq_false_iff, beq_eq_false_iff_ne, ne_eq] at h3'; (try simp only [List.forall_mem_cons, List.not_mem_nil, false_implies, implies_true, and_true, ne_eq] at h2); simp [pairMap, loopMap, kstB, h2, h3', h3]) ?_)
        rw [List.range_succ, List.map_append]
        refine strsAre_push hP ?_
        rw [fmChar, List.getD_eq_getElem?_getD, hr]
        exact (bcPick_found hq hQ (by rw [bcTest, if_neg (by omega), hc]; simp)).symm
      · refine TurnToW.next (TurnAtW.intro () (by assumption) (by assumption) (by kcf_all) (by kcf_all) (by kcf_all) (by kst_all) (by intro z h2 h3; have h3' := h3; simp only [List.contains_cons, List.contains_nil, Bool.or_false, Bool.or_eq_false_iff, beq_eq_false_iff_ne, ne_eq] at h3'; (try simp only [List.forall_mem_cons, List.not_mem_nil, false_implies, implies_true, and_true, ne_eq] at h2); simp [pairMap, loopMap, kstB, h2, h3', h3]) ?_)
        rename (Builtin.bitAnd mode q.bit ≠ q.bit) => hc
        exact bcTest_more hq hQ (by rw [bcTest, if_neg (by omega)]; simp [hc])
    case doneB =>
      rintro - u2 h2 tk2 hQ F2 N2
      try dsimp only at hQ F2 N2
      simp only [List.nil_append] at N2
      clear F1 N1
      rw [List.length_map, List.take_length] at hQ
      k_steps
      · rename News _ _ _ _ => N10
        simp only [List.push_toArray] at N10
        refine TurnToW.next (TurnAtW.intro (us ++ [.str _ _], c + 1) (by assumption) N10 (by kcf_all) (by kcf_all) (by kcf_all) (by kst_all) (by intro z h2 h3; have h3' := h3; simp only [List.contains_cons, List.contains_nil, Bool.or_false, Bool.or_eq_false_iff, beq_eq_false_iff_ne, ne_eq] at h3'; (try simp only [List.forall_mem_cons, List.not_mem_nil, false_implies, implies_true, and_true, ne_eq] at h2); simp [pairMap, loopMap, kstB, h2, h3', h3]) ?_)
        rw [List.range_succ, List.map_append]
        refine strsAre_push hP ?_
        rw [fmChar, List.getD_eq_getElem?_getD, hr]
        rw [Option.getD_some, bcPick_none hQ, if_pos (by omega)]
      · rename News _ _ _ _ => N10
        simp only [List.push_toArray] at N10
        refine TurnToW.next (TurnAtW.intro (us ++ [.str _ _], c + 1) (by assumption) N10 (by kcf_all) (by kcf_all) (by kcf_all) (by kst_all) (by intro z h2 h3; have h3' := h3; simp only [List.contains_cons, List.contains_nil, Bool.or_false, Bool.or_eq_false_iff, beq_eq_false_iff_ne, ne_eq] at h3'; (try simp only [List.forall_mem_cons, List.not_mem_nil, false_implies, implies_true, and_true, ne_eq] at h2); simp [pairMap, loopMap, kstB, h2, h3', h3]) ?_)
        rw [List.range_succ, List.map_append]
        refine strsAre_push hP ?_
        rw [fmChar, List.getD_eq_getElem?_getD, hr]
        rw [Option.getD_some, bcPick_none hQ, if_neg (by omega)]
  case done =>
    rintro ⟨us, c⟩ u h tk hP F1 N1
    dsimp only at hP F1 N1
    simp only [List.cons_append, List.nil_append] at N1
    clear F' N'
    have hP10 : StrsAre us ((List.range 10).map (fmChar mode)) := hP
    k_steps
    refine join_list (News.isList N1 (by kcf_m)) (by simpa using hP10) (fmChars_len mode) ?_
    intro t' k'
    refine Ends.intro [] F1 N1 (List.forall_mem_nil _) (by kcf_all) ⟨rfl, t', rfl⟩
end

section
open PySem PySem.W PyProof.Rows PySem.Calls
set_option maxRecDepth 100000
set_option maxHeartbeats 0
set_option linter.unusedSimpArgs false

local macro_rules | `(tactic| walk_at "call builtin:iter") => `(tactic| (k_here; k_dflt (refine' iter_list ?F ?N ?p ?_; (case F => k_asm); (case N => k_asm); (case p => k_mem); k_whole); intro I' h' F' N' l1; (try k_lt l1); (try k_sweep)))


theorem reduce_tell (w : World) {f l : Addr} {fd : FuncData} {vs : List Value} {ns : List Int} {c : Nat} {R : List (Addr × Obj)} {n0 : Int} {t0 : Tok} (gf : Int → Int → Int) (hi : IntsAre vs ns)
    (hf : ∀ (rest' : List (Addr × Obj)) (mode : Int) (t : Tok) (x : Int) (t' : Tok), Tell w 2 (.ref f) [.int mode t, .int x t'] [] (((f, (⟨.type "function", none, .func fd, #[]⟩ : Obj)) :: R) ++ rest') (fun r2 tl2 => tl2 = [] ∧ ∃ t2, r2 = .int (gf mode x) t2)) :
    Tell w 5 (.ref 23) [.ref f, .ref l, .int n0 t0] [] ((l, listOf vs.toArray c) :: (f, (⟨.type "function", none, .func fd, #[]⟩ : Obj)) :: R) (fun r tl => tl = [] ∧ ∃ t, r = .int (ns.foldl gf n0) t) := by
  w_top off
  k_with_none
  (k_with "exec For Name Name cons nil" => (k_here; refine wpAny_ForA ?_))
  (k_with "exec For Name Call cons nil" => (k_here; refine wpAny_ForA ?_))
  (k_with "exec For Name List cons nil" => (k_here; refine wpAny_ForA ?_))
  (k_with "exec For Tuple Call cons nil" => (k_here; refine wpAny_ForA ?_))
  (k_with "exec For Tuple Name cons cons" => (k_here; refine wpAny_ForA ?_))
  (k_with "exec For Name Name cons cons" => (k_here; refine wpAny_ForA ?_))
  (k_with "compareOp Is" => (k_here; (with_reducible show wpAny _ _ (compareOp CmpOp.Is (Value.int _ _) (Value.ref _)) _ _ _); refine wpAny_is_other (by rfl) (by intro h; cases h) ?_))
  have hfill : (Mine.hd.heap_39 w.params).In default → Challenge.rw_oy0162_01 = Challenge.rw_oy0162_01 := by
    k_fill
    intro _; rfl
  clear hfill
  k_dflt (refine enter [(Str.ofString "function", .ref f), (Str.ofString "sequence", .ref l), (Str.ofString "initial", .int n0 t0)] (by k_is) (by k_is) (fun s hX => by first | exact BindsTo.of_eq rfl | exact binds_K hX rfl (by k_is) rfl rfl rfl) (locs rfl) ?_ rfl rfl rfl (by decide))
  intro p loose mean mg mb dp un gd cn cs L a ccd cl outer base g L' s hdp hun hcs F N B X T lt
  simp only [List.nil_append] at N
  replace lt := allLt_of lt
  simp only [List.nil_append, AllLt] at lt
  have hlen1 := hi.length
  try dsimp only
  try k_fold
  k_steps
  rename_i I h1 q1 tk1 h2 F' N'
  refine for_iter (σ := Int × Tok) (news := (l, listOf vs.toArray c) :: (f, (⟨.type "function", none, .func fd, #[]⟩ : Obj)) :: R)
    (fun _ => []) (fun c => [(Str.ofString "value", .int c.1 c.2)]) [] (fun i c => c.1 = (ns.take i).foldl gf n0) (n0, t0) rfl (by kcf_m) ?hcls rfl rfl F' N' (kst_ltOf (l := (l, listOf vs.toArray c) :: (f, (⟨.type "function", none, .func fd, #[]⟩ : Obj)) :: R) q1) (by kst_all) rfl ?turn ?done
  case hcls => intro _ c _ p hp; cases hp
  case turn =>
    rintro ⟨v0, t1⟩ i v u oI h tk hi' hv hP hoI F1 N1 -
    obtain ⟨n, t', e, hn⟩ := IntsAre.at hi i v hv
    subst e
    dsimp only at hP F1 N1
    simp only [List.nil_append] at N1
    clear F' N'
    have C := codeHd_step X
    k_steps
    refine Tell.use (hf [(I, oI), (l, listOf vs.toArray c)] _ _ _ _) B F1 X (kst_newsOf N1 (by kcf_all)) T rfl (by show dp + 1 + 2 < 500; omega) (by show un + 3 + 10 * 2 < 500; omega) ?_
    rintro r tl h' tk' F2 N2 ⟨rfl, t2, rfl⟩
    simp only [List.cons_append, List.nil_append] at N2
    clear F1 N1
    dsimp only
    k_steps
    refine TurnTo.next (TurnAt.intro (gf v0 n, t2) (by assumption) (by assumption) (by kcf_m) (by kcf_all) (by kcf_all) (by kst_all) (by intro z h1 h2 h3; have h3' := h3; simp only [List.contains_cons, List.contains_nil, Bool.or_false, Bool.or_eq_false_iff, beq_eq_false_iff_ne, ne_eq] at h3'; (try simp only [List.forall_mem_cons, List.not_mem_nil, false_implies, implies_true, and_true, ne_eq] at h2); simp [loopMap, kstB, h1, h2, h3', h3]) ?_)
    dsimp only
    rw [List.take_add_one, hn, hP]
    simp
  case done =>
    rintro ⟨v0, t1⟩ u h tk hP F1 N1
    dsimp only at hP F1 N1
    simp only [List.nil_append] at N1
    clear F' N'
    k_steps
    show Ends g L' _ _ s _ _
    refine Ends.intro [] F1 N1 (List.forall_mem_nil _) (fun p hp => hp) ⟨rfl, t1, ?_⟩
    rw [hlen1, List.take_length] at hP
    rw [← hP]
end

section
open PySem PySem.W PyProof.Rows PySem.Calls
open Builtin Builtin.ObjectAttr
set_option maxRecDepth 100000
theorem mro_function : mroOf (.type "function") = pure [.type "function", .type "object"] := by rw [mroOf_type]; kernel_rfl
theorem slot_fn_setattr : Slot "function" "__setattr__" "object.__setattr__" :=
  .of (owner := "object") (n := "__setattr__") (by rw [typeLookup_type, builtinLookup_eq_fast]; kernel_rfl) (by decide +kernel) (by decide +kernel) (by decide +kernel)
    (by first | exact .inl (by decide +kernel) | exact .inr (by decide +kernel)) (by rw [isSubtype_type]; kernel_rfl)
theorem lookup_fn_read : typeLookup (.type "function") (Str.ofString "read") = pure none := by rw [typeLookup_type, builtinLookup_eq_fast]; kernel_rfl
theorem fn_hasDict : typeHasDict (.type "function") = true := by decide +kernel
theorem fn_passes (self : Value) : refuseLoop self "__setattr__" [.type "function", .type "object"] = pure () := by kernel_rfl
theorem osa_args (a b c : Value) : argsOk "object.__setattr__" ⟨[a, b, c], []⟩ := by unfold argsOk; kernel_rfl
section
variable {prog : Program} {w : World} {A : Around} {E : Value → Shared → Prop} {s : Shared}
theorem fn_setattr {f : Addr} {fd : FuncData} {v : Value} {Q : Unit → Shared → Prop} (hf : s.heap.get? f = some ⟨.type "function", none, .func fd, #[]⟩)
    (hq : ∀ h' tk', h'.get? f = some ⟨.type "function", some s.heap.objs.size, .func fd, #[]⟩ → h'.Ns1 s.heap.objs.size (fun y => if y = Str.ofString "read" then some v else none) →
      (∀ b ob, b ≠ f → s.heap.get? b = some ob → h'.get? b = some ob) → Q () { s with heap := h', toks := tk' }) :
    wpAny (model prog w) A (setAttr (.ref f) (Str.ofString "read") v) Q E s := by
  have hT : s.TypeIs (.ref f) "function" := ⟨_, hf, rfl⟩
  unfold setAttr
  refine wpAny_bind (wpAny_mkText (wpAny_bind (wpAny_callSpecial?_slot (name := "__setattr__") ?_ slot_fn_setattr (wpAny_call_entry slot_fn_setattr ?_ F.entry_object_sa ?_ (osa_args _ _ _)))))
  · exact ⟨_, hf, rfl⟩
  · exact ⟨_, hf, rfl⟩
  obtain ⟨h, g, d, t, os⟩ := s
  rw [osa_eq]
  refine wpAny_bind (m := refuseIfOverridden _ _) ?_
  · rw [refuse_eq]
    refine wpAny_bind (m := typeOf _) (wpAny_bind (wpAny_loadPart hf (wpAny_pure ?_)))
    dsimp only
    rw [mro_function]
    refine wpAny_bind (wpAny_pure ?_)
    rw [fn_passes]
    refine wpAny_pure ?_
    refine wpAny_bind (m := typeOf _) (wpAny_bind (wpAny_loadPart hf (wpAny_pure ?_)))
    dsimp only
    rw [lookup_fn_read]
    refine wpAny_bind (wpAny_pure ?_)
    refine wpAny_bind (m := storeTaker? none) (wpAny_pure ?_)
    dsimp only
    unfold storeInOwnDict
    refine wpAny_bind (m := ownStreamTells _ _) (wpAny_of_eq (a := ()) rfl ?_)
    dsimp only
    rw [if_neg (by decide)]
    have hf₁ : (h.push { cls := .type "dict", data := .dict #[] }).get? f = some ⟨.type "function", none, .func fd, #[]⟩ := Heap.get?_push_of_some _ hf
    have hfs : f ≠ h.objs.size := Nat.ne_of_lt (Heap.lt_size hf)
    refine wpAny_bind (m := ownDictForStores (.ref f)) ?_
    show wpAny _ _ (instanceDict f true) _ _ _
    unfold instanceDict
    refine wpAny_bind (wpAny_loadPart hf ?_)
    dsimp only
    rw [if_neg (by rw [fn_hasDict]; decide)]
    refine wpAny_bind (wpAny_alloc ?_)
    refine wpAny_bind (wpAny_update hf₁ ?_)
    refine wpAny_of_eq (a := some h.objs.size) (by rfl) ?_
    dsimp only
    have hgd : ((h.push { cls := .type "dict", data := .dict #[] }).update f fun o => { cls := o.cls, dict := some h.objs.size, data := o.data, slots := o.slots }).get? h.objs.size = some { cls := .type "dict", data := .dict #[] } :=
      (Heap.get?_update_ne _ _ _ _ hfs.symm).trans (Heap.get?_push_size _ rfl)
    have hnd : ((h.push { cls := .type "dict", data := .dict #[] }).update f fun o => { cls := o.cls, dict := some h.objs.size, data := o.data, slots := o.slots }).Ns h.objs.size (fun _ => none) :=
      ⟨_, #[], _, hgd, rfl, fun e he => absurd he (by simp), fun _ => rfl⟩
    unfold storeInDict newKeyGuard
    refine wpAny_bind (wpAny_pure (wpAny_bind (wpAny_nsSet1 (Heap.Ns1.of_empty hnd) fun h' hn' hs => ?_)))
    obtain ⟨oD, esD, epD, hoD, hdD, hcD⟩ := hn'.count (Within.cons _ v Within.nil)
    refine wpAny_bind (wpAny_lookBehind hoD (by rw [hdD]; exact pastItsLine_dict (Nat.le_trans hcD (by rw [List.length_cons, List.length_nil, sizeLine_eq]; omega))) ?_)
    refine wpAny_pure ⟨_, rfl, wpAny_pure ?_⟩
    refine hq h' _ ?_ hn' ?_
    · exact (hs.2 f hfs).trans (Heap.get?_update_self _ hf₁ rfl)
    · intro b ob hb e
      exact (hs.2 b (Nat.ne_of_lt (Heap.lt_size e))).trans ((Heap.get?_update_ne _ _ _ _ hb).trans (Heap.get?_push_of_some _ e))

theorem slot_fn_getattribute : Slot "function" "__getattribute__" "object.__getattribute__" :=
  .of (owner := "object") (n := "__getattribute__") (by rw [typeLookup_type, builtinLookup_eq_fast]; kernel_rfl) (by decide +kernel) (by decide +kernel) (by decide +kernel)
    (by first | exact .inl (by decide +kernel) | exact .inr (by decide +kernel)) (by rw [isSubtype_type]; kernel_rfl)
theorem lookup_fn_getattr : typeLookup (.type "function") "__getattr__" = pure none := by rw [typeLookup_type, builtinLookup_eq_fast]; kernel_rfl
theorem oga_args (a b : Value) : argsOk "object.__getattribute__" ⟨[a, b], []⟩ := by unfold argsOk; kernel_rfl
theorem entry_object_ga : entryFor table "object.__getattribute__" = some Builtin.«object.__getattribute__» := entryFor_of_tree (by kernel_rfl)
theorem fn_getattr {f d fv : Addr} {fd : FuncData} {mD : Str → Option Value} {Q : Value → Shared → Prop} (hf : s.heap.get? f = some ⟨.type "function", some d, .func fd, #[]⟩) (hd : s.heap.Ns1 d mD) (hv : mD (Str.ofString "read") = some (.ref fv))
    (h : ∀ tk, Q (.ref fv) { s with toks := tk }) : wpAny (model prog w) A (getAttr (.ref f) (Str.ofString "read")) Q E s := by
  unfold getAttr getAttrBy
  refine wpAny_bind (wpAny_mkText (wpAny_holding ?_))
  refine wpAny_bind (m := typeOf _) (wpAny_bind (wpAny_loadPart hf (wpAny_pure ?_)))
  dsimp only
  rw [slot_fn_getattribute.lookup]
  refine wpAny_bind (wpAny_pure ?_)
  dsimp only
  rw [if_neg (by decide)]
  unfold getAttrByItsOwn
  refine wpAny_bind (m := hookBefore _) (wpAny_of_eq (a := none) (by rfl) ?_)
  refine wpAny_bind (wpAny_attempt (wpAny_holding ?_))
  unfold callGetattribute
  rw [if_neg (by simp)]
  unfold boundAndCalled
  rw [slot_fn_getattribute.bind]
  refine wpAny_bind (wpAny_pure ?_)
  dsimp only [List.cons_append, List.nil_append]
  refine wpAny_call_entry slot_fn_getattribute ⟨_, hf, rfl⟩ entry_object_ga ?_ (oga_args _ _)
  unfold Builtin.«object.__getattribute__»
  refine wpAny_bind (m := slotArgs _ _ _) (wpAny_of_eq (a := (Value.ref f, [Value.str (Str.ofString "read") s.toks])) (by rfl) ?_)
  refine wpAny_bind (m := attrName _) (wpAny_of_eq (a := Str.ofString "read") (by rfl) ?_)
  refine wpAny_bind (m := typeOf _) (wpAny_bind (wpAny_loadPart hf (wpAny_pure ?_)))
  refine wpAny_bind (m := find _ _ _) ?_
  unfold find
  dsimp only
  rw [lookup_fn_read]
  refine wpAny_bind (wpAny_pure ?_)
  refine wpAny_bind (m := getOf none) (wpAny_of_eq (a := none) (by rfl) ?_)
  refine wpAny_bind (m := dataDescriptor? none none) (wpAny_of_eq (a := none) (by rfl) ?_)
  dsimp only
  unfold ownThenClass inOwnDict ObjectAttr.ownDict instanceDict
  refine wpAny_bind ?_
  refine wpAny_bind ?_
  refine wpAny_bind (m := loadHead _) (wpAny_loadPart hf ?_)
  refine wpAny_bind (wpAny_loadPart hf ?_)
  refine wpAny_pure ?_
  refine wpAny_nsGet hd.ns ?_
  rw [hv]
  refine wpAny_bind (wpAny_rule (wpAny_pure ?_))
  refine wpAny_pure ⟨_, rfl, ?_⟩
  exact wpAny_pure (h _)

theorem fn_getmethod {f d fv : Addr} {fd : FuncData} {mD : Str → Option Value} {pl : Sem Bool} {Q : Value × List Value → Shared → Prop} (hf : s.heap.get? f = some ⟨.type "function", some d, .func fd, #[]⟩) (hd : s.heap.Ns1 d mD) (hv : mD (Str.ofString "read") = some (.ref fv))
    (h : ∀ tk, Q (.ref fv, []) { s with toks := tk }) : wpAny (model prog w) A (getMethod (.ref f) (Str.ofString "read") pl) Q E s := by
  have hT : s.TypeIs (.ref f) "function" := ⟨_, hf, rfl⟩
  unfold getMethod
  refine wpAny_bind (wpAny_specialOf hT slot_fn_getattribute.lookup ?_)
  dsimp only
  rw [if_neg (by decide +kernel)]
  refine wpAny_bind (wpAny_specialOf hT lookup_fn_getattr ?_)
  rw [if_neg (by decide)]
  refine wpAny_bind (wpAny_specialOf hT lookup_fn_read ?_)
  dsimp only
  refine wpAny_bind (fn_getattr hf hd hv fun tk => ?_)
  exact wpAny_pure (h tk)

/-- a function's own dict that holds read alone -/
def FnDict (o : Obj) (v : Value) : Prop := ∃ es ep, o.data = .dict es ep ∧ StrKeys es ∧ UniqKeys es ∧ ∀ name, nsFind es name = if name = Str.ofString "read" then some v else none
theorem setattr_K {h₀ : Heap} {L f : Addr} {m : Str → Option Value} {fd : FuncData} {v : Value} {news : List (Addr × Obj)} {gU : Obj → List (Addr × Obj)} {Q : Unit → Shared → Prop} (F : Fr h₀ L s.heap m) (N : News h₀ L s.heap news) (U : UpdF f ⟨.type "function", none, .func fd, #[]⟩ news gU)
    (h : ∀ D oD h' tk', Fr h₀ L h' m → News h₀ L h' ((D, oD) :: gU ⟨.type "function", some D, .func fd, #[]⟩) → FnDict oD v → (∀ p ∈ news, p.1 < D) → Q () { s with heap := h', toks := tk' }) :
    wpAny (model prog w) A (setAttr (.ref f) (Str.ofString "read") v) Q E s := by
  obtain ⟨pre, post, rfl, hg, a, b⟩ := U.split
  have Nf := N _ (List.mem_append_right _ List.mem_cons_self)
  refine fn_setattr Nf.1 fun h' tk' hf' hns hk => ?_
  obtain ⟨oD, es, ep, e1, e2, e3, e4, e5⟩ := hns
  have hlt : ∀ p ∈ pre ++ (f, (⟨.type "function", none, .func fd, #[]⟩ : Obj)) :: post, p.1 < s.heap.objs.size := fun p hp => Heap.lt_size (N p hp).1
  have hLf : L ≠ f := Ne.symm Nf.2.1
  refine h s.heap.objs.size oD h' tk' ⟨F.ns.at' fun o e => hk _ o hLf e, fun b' o e => hk b' o (fun z => ?_) (F.keep b' o e), F.above⟩ (fun p hp => ?_) ⟨es, ep, e2, e3, e4, e5⟩ hlt
  · have := Nf.2.2; rw [← z, e] at this; cases this
  · rcases List.mem_cons.mp hp with rfl | hp
    · exact ⟨e1, Nat.ne_of_gt F.ns.lt, none_at_size F⟩
    · rw [hg] at hp
      rcases List.mem_append.mp hp with q | q
      · have n := N p (List.mem_append_left _ q); exact ⟨hk _ _ (a p q) n.1, n.2⟩
      · rcases List.mem_cons.mp q with rfl | q
        · exact ⟨hf', Nf.2⟩
        · have n := N p (List.mem_append_right _ (.tail _ q)); exact ⟨hk _ _ (b p q) n.1, n.2⟩
theorem getmethod_K {h₀ : Heap} {L f d fv : Addr} {fd : FuncData} {oD : Obj} {news : List (Addr × Obj)} {pl : Sem Bool} {Q : Value × List Value → Shared → Prop} (N : News h₀ L s.heap news) (hf : (f, (⟨.type "function", some d, .func fd, #[]⟩ : Obj)) ∈ news) (hd : (d, oD) ∈ news) (hD : FnDict oD (.ref fv))
    (h : ∀ tk, Q (.ref fv, []) { s with toks := tk }) : wpAny (model prog w) A (getMethod (.ref f) (Str.ofString "read") pl) Q E s := by
  obtain ⟨es, ep, e2, e3, e4, e5⟩ := hD
  exact fn_getmethod (N _ hf).1 ⟨oD, es, ep, (N _ hd).1, e2, e3, e4, e5⟩ (by simp) h
end
end

section
open PySem PySem.W PyProof.Rows PySem.Calls
set_option maxRecDepth 100000
set_option maxHeartbeats 0
set_option linter.unusedSimpArgs false

def lacksOf (ns : List Int) : List Int := ((List.range (ns.length - 1)).map fun k => ns.getD (k + 1) 0 - ns.getD k 0) ++ List.replicate (13 - ns.length) 0
def listStep (lk : List Int) (s : Str) (top : Nat) : Str :=
  (s ++ (Txt.item (Str.ofString "r-") (lk.getD top 0) ++ Txt.item (Str.ofString "w-") (lk.getD (top - 1) 0))) ++ Txt.item (if top = 2 then Str.ofString "tTx-" else Str.ofString "sSx-") (lk.getD (top - 2) 0 + 2 * lk.getD (9 + top / 3) 0)
def listing (kind : Int) (lk : List Int) : Str := [8, 5, 2].foldl (listStep lk) (Txt.item (Str.ofString "?pc?d?b?-?l?s???") (Int.fmod kind 16))

theorem lacks_eq {ns : List Int} (h1 : 1 ≤ ns.length) (h2 : ns.length ≤ 13) : (List.map (fun k' : Int => ns.getD (k' + 1).toNat 0 - ns.getD k'.toNat 0) (rangeKs 0 ((ns.length : Int) - 1 - 0).toNat) ++ (List.replicate (13 - (ns.length : Int)).toNat [(0 : Int)]).flatten) = lacksOf ns := by
  have e1 : ((ns.length : Int) - 1 - 0).toNat = ns.length - 1 := by omega
  have e2 : (13 - (ns.length : Int)).toNat = 13 - ns.length := by omega
  rw [e1, e2, lacksOf]
  congr 1
  · rw [rangeKs, List.map_map]
    refine List.map_congr_left fun k _ => ?_
    have e3 : ((0 : Int) + (k : Int) + 1).toNat = k + 1 := by omega
    have e4 : ((0 : Int) + (k : Int)).toNat = k := by omega
    simp only [Function.comp, e3, e4]
  · generalize 13 - ns.length = n
    induction n with
    | zero => rfl
    | succ n ih => rw [List.replicate_succ, List.flatten_cons, ih]; rfl
theorem lacks_len {ns : List Int} (h1 : 1 ≤ ns.length) (h2 : ns.length ≤ 13) : (lacksOf ns).length = 12 := by
  simp only [lacksOf, List.length_append, List.length_map, List.length_range, List.length_replicate]
  omega

theorem listStep_len (lk : List Int) (s : Str) (top : Nat) : (listStep lk s top).length = s.length + 3 := by
  simp only [listStep, Str.length_append, len_item]
theorem ix_lo1 {lk : List Int} {k n : Nat} (h : ∀ k, 0 ≤ lk.getD k 0 ∧ lk.getD k 0 ≤ 1) : -(n : Int) ≤ lk.getD k 0 := by have := (h k).1; omega
theorem ix_hi1 {lk : List Int} {k : Nat} (h : ∀ k, 0 ≤ lk.getD k 0 ∧ lk.getD k 0 ≤ 1) : lk.getD k 0 < ((2 : Nat) : Int) := by have := (h k).2; omega
theorem ix_lo2 {lk : List Int} {a b n : Nat} (h : ∀ k, 0 ≤ lk.getD k 0 ∧ lk.getD k 0 ≤ 1) : -(n : Int) ≤ lk.getD a 0 + 2 * lk.getD b 0 := by have := (h a).1; have := (h b).1; omega
theorem ix_hi2 {lk : List Int} {a b : Nat} (h : ∀ k, 0 ≤ lk.getD k 0 ∧ lk.getD k 0 ≤ 1) : lk.getD a 0 + 2 * lk.getD b 0 < ((4 : Nat) : Int) := by have := (h a).2; have := (h b).2; omega

theorem listing_tell (w : World) {kind : Int} {t0 : Tok} {l : Addr} {vs : List Value} {ns : List Int} {c : Nat} {rest : List (Addr × Obj)} (hi : IntsAre vs ns) (hsz : ns.length ≤ 13) (hsz1 : 1 ≤ ns.length) (hlk : ∀ k, 0 ≤ (lacksOf ns).getD k 0 ∧ (lacksOf ns).getD k 0 ≤ 1) :
    Tell w 3 (.ref 136) [.int kind t0, .ref l] [] ((l, listOf vs.toArray c) :: rest) (fun r tl => tl = [] ∧ ∃ t, r = .str (listing kind (lacksOf ns)) t) := by
  w_top off
  k_with_none
  (k_with "exec For Name Name cons nil" => (k_here; refine wpAny_ForA ?_))
  (k_with "exec For Name Call cons nil" => (k_here; refine wpAny_ForA ?_))
  (k_with "exec For Name List cons nil" => (k_here; refine wpAny_ForA ?_))
  (k_with "exec For Tuple Call cons nil" => (k_here; refine wpAny_ForA ?_))
  (k_with "exec For Tuple Name cons cons" => (k_here; refine wpAny_ForA ?_))
  (k_with "exec For Name Name cons cons" => (k_here; refine wpAny_ForA ?_))
  (k_with "subscriptTail" => (k_here; (with_reducible show wpAny _ _ (subscriptTail _ _ (Value.str _ _) (Value.int _ _)) _ _ _); (refine KXi.item (by kxi_len) (by first | exact ix_lo1 (by assumption) | exact ix_lo2 (by assumption)) (by first | exact ix_hi1 (by assumption) | exact ix_hi2 (by assumption)) (by decide) ?_); intro kxiE))
  have hfill : (Mine.hd.heap_39 w.params).In default → Challenge.rw_oy0162_01 = Challenge.rw_oy0162_01 := by
    k_fill
    intro _; rfl
  clear hfill
  k_dflt (refine enterC [(Str.ofString "kind", .int kind t0), (Str.ofString "lengths", .ref l)] (by k_is) (by k_is) (fun s _ => BindsTo.of_eq rfl) rfl (by decide +kernel) ?_ rfl rfl rfl)
  intro p loose mean mg mb dp un gd cn cs L a ccd cl outer base g L' s cells hdp hun hcs F N Y B X T lt
  replace lt := allLt_of lt
  simp only [List.cons_append, List.nil_append, AllLt] at N lt
  k_cells Y
  simp only [List.cons_append, List.nil_append] at N
  have hlen1 := hi.length
  have lt1 : AllLt (L' + 1) rest := allLt_mono (Nat.le_succ _) lt.2
  try dsimp only
  try k_fold
  k_steps
  rename_i Dl ws h1 hI q1 h2 kxi h3 l3 h4 F' N' q3
  have hE : (List.map (fun k' => ns.getD (k' + 1).toNat 0 - ns.getD k'.toNat 0) (rangeKs 0 ((ns.length : Int) - 1 - 0).toNat) ++ (List.replicate (13 - (ns.length : Int)).toNat [0]).flatten) = lacksOf ns := lacks_eq hsz1 hsz
  rw [hE] at hI
  have hll : (lacksOf ns).length = 12 := lacks_len hsz1 hsz
  have hlw := hI.length
  generalize hlkE : lacksOf ns = lk at *
  refine for_list (σ := Str × Tok) (fun _ => []) (fun c => [(Str.ofString "shown", .str c.1 c.2)]) [] (fun i c => c.1 = (([8, 5, 2] : List Nat).take i).foldl (listStep lk) (Txt.item (Str.ofString "?pc?d?b?-?l?s???") (Int.fmod kind 16)) ∧ c.1.length ≤ 1 + 3 * i) (Txt.item (Str.ofString "?pc?d?b?-?l?s???") (Int.fmod kind 16), _) rfl (by kcf_m) ?hcls rfl rfl F' N' (by kst_all) ⟨rfl, by dsimp only; rw [kxi]; omega⟩ ?turn ?done
  case hcls => intro _ c _ p hp; cases hp
  case turn =>
    rintro ⟨sh, ts⟩ i v u I oI h tk hi' hv ⟨hP1, hP2⟩ hoI lI F1 N1 -
    dsimp only at hP1 hP2 F1 N1
    simp only [List.nil_append] at N1
    clear F' N'
    rcases i with _ | _ | _ | i
    · cases hv
      k_steps
      refine TurnTo.next (TurnAt.intro (listStep lk sh 8, _) (by assumption) (by assumption) (by kcf_m) (by kcf_all) (by kcf_all) (by kst_all) (by intro z h1 h2 h3; have h3' := h3; simp only [List.contains_cons, List.contains_nil, Bool.or_false, Bool.or_eq_false_iff, beq_eq_false_iff_ne, ne_eq] at h3'; (try simp only [List.forall_mem_cons, List.not_mem_nil, false_implies, implies_true, and_true, ne_eq] at h2); simp [loopMap, kstB, h1, h2, h3', h3]) ⟨?_, ?_⟩)
      · rw [hP1]; rfl
      · dsimp only; rw [listStep_len]; omega
    · cases hv
      k_steps
      refine TurnTo.next (TurnAt.intro (listStep lk sh 5, _) (by assumption) (by assumption) (by kcf_m) (by kcf_all) (by kcf_all) (by kst_all) (by intro z h1 h2 h3; have h3' := h3; simp only [List.contains_cons, List.contains_nil, Bool.or_false, Bool.or_eq_false_iff, beq_eq_false_iff_ne, ne_eq] at h3'; (try simp only [List.forall_mem_cons, List.not_mem_nil, false_implies, implies_true, and_true, ne_eq] at h2); simp [loopMap, kstB, h1, h2, h3', h3]) ⟨?_, ?_⟩)
      · rw [hP1]; rfl
      · dsimp only; rw [listStep_len]; omega
    · cases hv
      k_steps
      refine TurnTo.next (TurnAt.intro (listStep lk sh 2, _) (by assumption) (by assumption) (by kcf_m) (by kcf_all) (by kcf_all) (by kst_all) (by intro z h1 h2 h3; have h3' := h3; simp only [List.contains_cons, List.contains_nil, Bool.or_false, Bool.or_eq_false_iff, beq_eq_false_iff_ne, ne_eq] at h3'; (try simp only [List.forall_mem_cons, List.not_mem_nil, false_implies, implies_true, and_true, ne_eq] at h2); simp [loopMap, kstB, h1, h2, h3', h3]) ⟨?_, ?_⟩)
      · rw [hP1]; rfl
      · dsimp only; rw [listStep_len]; omega
    · simp only [List.length_cons, List.length_nil] at hi'; omega
  case done =>
    rintro ⟨sh, ts⟩ u h tk ⟨hP1, hP2⟩ F1 N1
    dsimp only at hP1 hP2 F1 N1
    simp only [List.nil_append] at N1
    clear F' N'
    k_steps
    show Ends g L' _ _ s _ _
    refine Ends.intro [] F1 N1 (List.forall_mem_nil _) (by kcf_all) ⟨rfl, ts, ?_⟩
    rw [hP1]; rfl
end

section
open PySem PySem.W PyProof.Rows PySem.Calls
open Builtin
set_option maxRecDepth 100000
theorem forIn_steps {σ : Type} (f : Nat → σ → Sem (ForInStep σ)) (g : Nat → σ) : ∀ (k i : Nat), (∀ j, i ≤ j → j < i + k → f j (g j) = pure (.yield (g (j + 1)))) → forIn (List.range' i k) (g i) f = (pure (g (i + k)) : Sem σ)
  | 0, _, _ => rfl
  | k + 1, i, h => by
    rw [List.range'_succ, List.forIn_cons, h i (Nat.le_refl _) (by omega)]
    show forIn (List.range' (i + 1) k) (g (i + 1)) f = _
    rw [forIn_steps f g k (i + 1) fun j h1 h2 => h j (by omega) (by omega)]
    congr 2
    omega
theorem forIn_then {σ τ : Type} {f : Nat → σ → Sem (ForInStep σ)} {g : Nat → σ} {k : Nat} {K : σ → Sem τ} (h : ∀ j, j < k → f j (g j) = pure (.yield (g (j + 1)))) : (forIn (List.range' 0 k) (g 0) f >>= K) = K (g k) := by
  rw [forIn_steps f g k 0 fun j _ hj => h j (by omega), Nat.zero_add]
  rfl
theorem latin_run (id : String) (b : Array UInt8) (hb : b.size ≤ sizeLine) : _codecs.runDecoder id _codecs.latin1Decoder none true b 0 [] = pure (b.map (·.toNat), b.size) := by
  unfold _codecs.runDecoder
  simp only [Std.Legacy.Range.forIn_eq_forIn_range', Std.Legacy.Range.size]
  have e0 : (b.size - 0 + 1 - 1) / 1 = b.size := by omega
  rw [e0]
  refine Eq.trans (forIn_then (g := fun j => (j, ((b.toList.take j).map (·.toNat)).toArray, ({ } : _codecs.Faults))) (k := b.size) ?_) ?_
  rotate_left
  · show pure (((b.toList.take b.size).map (·.toNat)).toArray, b.size) = _
    rw [List.take_of_length_le (by simp)]
    congr 2
    apply Array.ext'
    simp
  · intro j hj
    dsimp only
    have hsz : (((b.toList.take j).map (·.toNat)).toArray).size = j := by
      rw [List.size_toArray, List.length_map, List.length_take, Array.length_toList]; omega
    rw [if_neg (by rw [hsz]; omega), if_neg (by omega)]
    show pure (ForInStep.yield (j + 1, ((b.toList.take j).map (·.toNat)).toArray ++ [(b.getD j 0).toNat].toArray, ({ } : _codecs.Faults))) = _
    congr 4
    rw [List.append_toArray, List.take_add_one, List.map_append]
    congr 2
    have hj' : j < b.size := by omega
    simp [hj']

theorem road_latin {id : String} {b : Array UInt8} : _codecs.decodeRoad id b (PySem.Str.ofString "latin-1") none [] = (_codecs.runDecoder id _codecs.latin1Decoder none true b 0 [] >>= fun r => mkStr ⟨r.1⟩) := by kernel_rfl
theorem decode_entry (c : UInt8) (cs : List UInt8) (t t1 : Tok) : «bytes.decode» ⟨[.bytes (c :: cs).toArray t, .str (Str.ofString "latin-1") t1], []⟩ = (mkStr (PySem.Str.ofString "utf-8") >>= fun _ => mkStr (PySem.Str.ofString "latin-1") >>= fun e => mkStr (PySem.Str.ofString "bytes.decode") >>= fun d =>
    call (.builtin "_codecs.decode.text") [.bytes (c :: cs).toArray t, e, .none, d] >>= fun v => ret v) := by kernel_rfl
theorem decode_entry0 (t t1 : Tok) : «bytes.decode» ⟨[.bytes #[] t, .str (Str.ofString "latin-1") t1], []⟩ = (rule "bytes.decode.empty" >>= fun _ => retStr Str.empty) := by kernel_rfl
theorem args_decode2 (a b : Value) : argsOk "bytes.decode" ⟨[a, b], []⟩ := by unfold argsOk; kernel_rfl
section
variable {prog : Program} {w : World} {A : Around} {E : Value → Shared → Prop} {s : Shared}
theorem meets_latin {b : Array UInt8} {t t1 t2 : Tok} {d : PySem.Str} (hb : b.size ≤ sizeLine) :
    Meets («_codecs.decode.text» ⟨[.bytes b t, .str (PySem.Str.ofString "latin-1") t1, .none, .str d t2], []⟩) (fun _ R s => R (.ok (.ret (.str ⟨b.map (·.toNat)⟩ s.toks))) { s with toks := s.toks + 1 }) := by
  refine .of_wp fun prog w A R s h => ?_
  show wpAny _ _ (Bytes.bytesLike _ (.bytes b t) >>= fun r => _) _ _ s
  refine wpAny_bind (wpAny_of_eq KBd.like_eq ?_)
  refine wpAny_bind (wpAny_of_eq KBd.held_eq ?_)
  show wpAny _ _ (_codecs.decodeRoad _ b (PySem.Str.ofString "latin-1") none [] >>= fun v => _) _ _ s
  rw [road_latin, latin_run _ b hb]
  refine wpAny_bind (wpAny_bind (wpAny_pure ?_))
  exact wpAny_mkStr (wpAny_pure ⟨_, rfl, h⟩) (by show (b.map _).size ≤ _; rw [Array.size_map]; exact hb)
theorem decode_latin {b : Array UInt8} {t t1 : Tok} {Q : Value → Shared → Prop} (hb : b.size ≤ 1000) (h : ∀ t' k, Q (.str ⟨b.map (·.toNat)⟩ t') { s with toks := k }) :
    wpAny (model prog w) A (call (.builtin "bytes.decode") [.bytes b t, .str (Str.ofString "latin-1") t1]) Q E s := by
  refine wpAny_call_entry FB.slot_bytes_decode (typeIs_bytes _ _ _) FB.entry_bytes_decode ?_ (args_decode2 _ _)
  obtain ⟨l⟩ := b
  cases l with
  | nil =>
    rw [decode_entry0]
    refine wpAny_bind (wpAny_rule ?_)
    unfold retStr
    refine wpAny_bind (wpAny_mkStr (wpAny_pure ⟨_, rfl, ?_⟩) (by decide))
    have e : (⟨(#[] : Array UInt8).map (·.toNat)⟩ : Str) = Str.empty := by simp [Str.empty]
    have h' := h s.toks (s.toks + 1)
    change Q (.str ⟨(#[] : Array UInt8).map (·.toNat)⟩ _) _ at h'
    rw [e] at h'
    exact h'
  | cons c cs =>
    rw [decode_entry]
    refine wpAny_bind (wpAny_mkStr ?_ (by decide))
    refine wpAny_bind (wpAny_mkStr ?_ (by decide))
    refine wpAny_bind (wpAny_mkStr ?_ (by decide))
    exact wpAny_bind (call_function_meets KBd.kind_text KBd.plain_text KBd.entry_text (KBd.args_text _ _ _ _) (meets_latin (by rw [sizeLine_eq]; exact Nat.le_trans hb (by omega))) (wpAny_pure ⟨_, rfl, h _ _⟩))
end
end

section
open PySem PySem.W PyProof.Rows PySem.Calls
set_option maxRecDepth 100000
set_option maxHeartbeats 0
set_option linter.unusedSimpArgs false
theorem codeHd_stream {w : World} {g : Heap} (X : (Mine.hd.heap_39 w.params).In g) : CodeHd g 109 105 :=
  ⟨_, _, _, _, _, _, _, _, _, X 109 _ (by rfl), rfl, rfl, rfl, rfl, rfl, rfl, rfl, rfl, by decide⟩

local macro_rules | `(tactic| walk_at "setAttr ref") => `(tactic| (k_here; k_dflt (refine' setattr_K ?F ?N ?U ?_; (case F => k_asm); (case N => k_asm); (case U => k_updF); k_whole); intro D' oD' h' tk' F' N' hD' l1; (try dsimp only at N'); (try k_lt l1); (try k_sweep)))

local macro_rules | `(tactic| walk_at "subscriptTail") => `(tactic| (k_here; (with_reducible show wpAny _ _ (subscriptTail _ (Expr.Slice _ _ none _) (Value.bytes _ _) (Value.ref _)) _ _ _); (with_reducible rename Fr _ _ _ _ => F'); (with_reducible rename News _ _ _ _ => N'); (refine KBc.slice_K (s := ⟨_, _, _, _, _⟩) F' N' rfl (by constructor) (by constructor) (by rw [KBw.ints_length]; omega) ?_); intro h' t' k' F' N' kbcK))

theorem stream_tell (w : World) {b : Array UInt8} {t0 : Tok} {rest : List (Addr × Obj)} (hr9 : AllNe 105 rest) (hb : b.size ≤ 200) :
    Tell w 3 (.ref 110) [.bytes b t0] [(105, tabObj #[])] rest (fun r tl => ∃ lP tp0 ps' f1 fd1 D oD f2 fd2 O', r = .ref f1 ∧ tl = (lP, listOf #[.int 0 tp0] 0) :: (105, tabObj ps') :: (f1, (⟨.type "function", some D, .func fd1, #[]⟩ : Obj)) :: (D, oD) :: (f2, (⟨.type "function", none, .func fd2, #[]⟩ : Obj)) :: O' ∧ FnDict oD (.ref f2) ∧
      (∀ p ∈ (lP, listOf #[.int 0 tp0] 0) :: (f1, (⟨.type "function", some D, .func fd1, #[]⟩ : Obj)) :: (D, oD) :: (f2, (⟨.type "function", none, .func fd2, #[]⟩ : Obj)) :: O', AllLt p.1 rest ∧ @LT.lt Nat _ 105 p.1) ∧
      ∀ (rest' : List (Addr × Obj)) (p : Nat) (tp : Tok) (cc : Nat) (n : Nat) (tn : Tok), p ≤ b.size → n ≤ 1000 → AllNe lP rest' →
        Tell w 2 (.ref f2) [.int n tn] [(lP, listOf #[.int p tp] cc)] ((f1, (⟨.type "function", some D, .func fd1, #[]⟩ : Obj)) :: (D, oD) :: (f2, (⟨.type "function", none, .func fd2, #[]⟩ : Obj)) :: (O' ++ rest'))
          (fun r2 tl2 => ∃ b2 t2 tp2, r2 = .bytes b2 t2 ∧ KBw.bInts b2 = ((KBw.bInts b).drop p).take n ∧ tl2 = [(lP, listOf #[.int (min b.size (p + n) : Nat) tp2] cc)])) := by
  w_top off
  k_with_none
  (k_with "exec For Name Name cons nil" => (k_here; refine wpAny_ForA ?_))
  (k_with "exec For Name Call cons nil" => (k_here; refine wpAny_ForA ?_))
  (k_with "exec For Name List cons nil" => (k_here; refine wpAny_ForA ?_))
  (k_with "exec For Tuple Call cons nil" => (k_here; refine wpAny_ForA ?_))
  (k_with "exec For Tuple Name cons cons" => (k_here; refine wpAny_ForA ?_))
  (k_with "exec For Name Name cons cons" => (k_here; refine wpAny_ForA ?_))
  have hfill : (Mine.hd.heap_39 w.params).In default → Challenge.rw_oy0162_01 = Challenge.rw_oy0162_01 := by
    k_fill
    intro _; rfl
  clear hfill
  k_dflt (refine enterC [(Str.ofString "octets", .bytes b t0)] (by k_is) (by k_is) (fun s _ => BindsTo.of_eq rfl) rfl (by decide +kernel) ?_ rfl rfl rfl)
  intro p loose mean mg mb dp un gd cn cs L a ccd cl outer base g L' s cells hdp hun hcs F N Y B X T lt
  replace lt := allLt_of lt
  simp only [List.cons_append, List.nil_append, AllLt] at N lt
  k_cells Y
  simp only [List.cons_append, List.nil_append] at N
  have C := codeHd_stream X
  have lt1 : AllLt (L' + 1) rest := allLt_mono (Nat.le_succ _) lt.2
  have lt2 : AllLt (L' + 1 + 1) rest := allLt_mono (Nat.le_succ _) lt1
  try dsimp only
  try k_fold
  k_steps
  rename_i oX oO dX dO lP hq1 qP hq2 oP dP f1 c1 oc1 vs1 t1 ct1 hq3 tq3 hoc1 hov1 q1 q1' hq4 f2 c2 oc2 vs2 t2 ct2 dc2 hq5 tq5 hoc2 hov2 q2 q2' hq6 F' N'
  have lt3 : AllLt f1 rest := allLt_mono (Nat.le_of_lt q1') q1.2.2.2.2
  k_steps
  rename_i D oD h7 tk7 F7 N7 hD qD
  show Ends g L' _ _ s _ _
  refine Ends.intro [(lP, listOf #[.int 0 _] 0), (105, tabObj _), (f1, _), (D, oD), (f2, _), (c2, oc2), (L' + 1 + 1, oP), (L' + 1, oO)] F7 N7 (by kcf_all) (by kcf_all) ⟨lP, _, _, f1, _, D, oD, f2, _, [(c2, oc2), (L' + 1 + 1, oP), (L' + 1, oO)], rfl, rfl, hD, ?_, ?_⟩
  · simp only [List.forall_mem_cons, List.not_mem_nil, false_implies, implies_true, and_true]
    refine ⟨⟨qP.2.2.2, by omega⟩, ⟨lt3, by omega⟩, ⟨qD.2.2.2.2.2.2.2.2, by omega⟩, ⟨allLt_mono (Nat.le_of_lt q2') q2.2.2.2.2.2.2, by omega⟩, ⟨q2.2.2.2.2.2.2, by omega⟩, ⟨lt2, by omega⟩, ⟨lt1, by omega⟩⟩
  · intro rest' pl tp cc n tn hpl hn hne
    clear F7 N7 B X T C hcs
    k_dflt (refine enterN [(Str.ofString "count", .int n tn)] (by kcf_m) (by kcf_m) hoc2 hov2 (fun s => BindsTo.of_eq rfl) (locs rfl) ?_ rfl rfl rfl (by decide))
    intro p loose mean mg mb dp un gd cn cs L a ccd cl outer base g L'' s hdp hun hcs F N B X T lt
    simp only [List.cons_append, List.nil_append] at N
    try dsimp only
    try k_fold
    have C := codeHd_stream X
    k_steps
    rename_i h8 t8 k8 F8 N8 kK
    have e1 : ∀ x : Int, ([x].getD (Int.toNat 0) 0) = x := fun _ => rfl
    have eM : (if (pl : Int) + (n : Int) < (b.size : Int) then (pl : Int) + (n : Int) else (b.size : Int)) = ((min b.size (pl + n) : Nat) : Int) := by split <;> omega
    simp only [e1] at N8 kK
    simp only [eM] at N8 kK
    show Ends g L'' _ _ s (.ret (.bytes (KBy.picked b (some ([(pl : Int)].getD (Int.toNat 0) 0)) (some ([if [(pl : Int)].getD (Int.toNat 0) 0 + (n : Int) < (b.size : Int) then [(pl : Int)].getD (Int.toNat 0) 0 + (n : Int) else (b.size : Int)].getD (Int.toNat 0) 0))) t8)) _
    simp only [e1]
    simp only [eM]
    refine Ends.intro [(lP, listOf #[.int (min b.size (pl + n) : Nat) _] cc)] F8 N8 (by kcf_all) (by kcf_all) ⟨_, _, _, rfl, ?_, rfl⟩
    rw [kK]
    simp only [Option.elim, clipAt_nat, KBw.ints_length]
    have e2 : min pl b.size = pl := by omega
    rw [e2]
    have hl : ((KBw.bInts b).drop pl).length = b.size - pl := by rw [List.length_drop, KBw.ints_length]
    by_cases hc : pl + n ≤ b.size
    · congr 1; omega
    · rw [List.take_of_length_le (by rw [hl]; omega), List.take_of_length_le (by rw [hl]; omega)]
end

section
open PySem PySem.W PyProof.Rows PySem.Calls
set_option maxRecDepth 100000
set_option maxHeartbeats 0
set_option linter.unusedSimpArgs false
abbrev fnObj (d : Option Addr) (fd : FuncData) : Obj := ⟨.type "function", d, .func fd, #[]⟩
abbrev plcObj (p : Nat) (tp : Tok) (cc : Nat) : Obj := listOf #[.int p tp] cc
def ReadOk (w : World) (b : Array UInt8) (lP f1 : Addr) (fd1 : FuncData) (D : Addr) (oD : Obj) (f2 : Addr) (fd2 : FuncData) (O' : List (Addr × Obj)) : Prop :=
  ∀ (rest' : List (Addr × Obj)) (p : Nat) (tp : Tok) (cc : Nat) (n : Nat) (tn : Tok), p ≤ b.size → n ≤ 1000 → AllNe lP rest' →
    Tell w 2 (.ref f2) [.int n tn] [(lP, listOf #[.int p tp] cc)] ((f1, fnObj (some D) fd1) :: (D, oD) :: (f2, fnObj none fd2) :: (O' ++ rest'))
      (fun r2 tl2 => ∃ b2 t2 tp2, r2 = .bytes b2 t2 ∧ KBw.bInts b2 = ((KBw.bInts b).drop p).take n ∧ tl2 = [(lP, listOf #[.int (min b.size (p + n) : Nat) tp2] cc)])

theorem take1 {ks : List Int} {p : Nat} {m : Int} (h : ks[p]? = some m) : (ks.drop p).take 1 = [m] := by
  have hl := (List.getElem?_eq_some_iff.mp h).1
  have he := (List.getElem?_eq_some_iff.mp h).2
  rw [List.drop_eq_getElem_cons hl, he]
  rfl

theorem uint1_tell (w : World) {b : Array UInt8} {lP f1 : Addr} {fd1 : FuncData} {D : Addr} {oD : Obj} {f2 : Addr} {fd2 : FuncData} {O' rest : List (Addr × Obj)} (hR : ReadOk w b lP f1 fd1 D oD f2 fd2 O') (hD : FnDict oD (.ref f2)) {p : Nat} {tp : Tok} {cc m : Nat}
    (hm : (KBw.bInts b)[p]? = some (m : Int)) (hne : AllNe lP rest) :
    Tell w 3 (.ref 35) [.ref f1] [(lP, listOf #[.int p tp] cc)] ((f1, fnObj (some D) fd1) :: (D, oD) :: (f2, fnObj none fd2) :: (O' ++ rest))
      (fun r tl => ∃ t tp2, r = .int (m : Int) t ∧ tl = [(lP, listOf #[.int (p + 1 : Nat) tp2] cc)]) := by
  w_top off
  k_with_none
  (k_with "exec For Name Name cons nil" => (k_here; refine wpAny_ForA ?_))
  (k_with "exec For Name Call cons nil" => (k_here; refine wpAny_ForA ?_))
  (k_with "exec For Name List cons nil" => (k_here; refine wpAny_ForA ?_))
  (k_with "exec For Tuple Call cons nil" => (k_here; refine wpAny_ForA ?_))
  (k_with "exec For Tuple Name cons cons" => (k_here; refine wpAny_ForA ?_))
  (k_with "exec For Name Name cons cons" => (k_here; refine wpAny_ForA ?_))
  (k_with "getMethod ref" => (k_here; k_dflt (refine' getmethod_K ?N ?f ?d ?D ?_; (case N => k_asm); (case f => k_mem); (case d => k_mem); (case D => assumption)); intro _))
  (k_with "exec Raise" => (exfalso; omega))
  (k_with "exec Raise some" => (exfalso; omega))
  (k_with "exec Raise some none" => (exfalso; omega))
  (k_with "call ref" => (k_here; (with_reducible show wpAny _ _ (call (Value.ref 35) _) _ _ _); refine hold_it ?_))
  (k_with "call builtin:bytes.decode" => (k_here; refine decode_latin (by assumption) ?_; intro _ _))
  have hfill : (Mine.hd.heap_39 w.params).In default → Challenge.rw_oy0162_01 = Challenge.rw_oy0162_01 := by
    k_fill
    intro _; rfl
  clear hfill
  k_dflt (refine enter [(Str.ofString "f", .ref f1)] (by k_is) (by k_is) (fun s _ => BindsTo.of_eq rfl) (locs rfl) ?_ rfl rfl rfl (by decide))
  intro p' loose mean mg mb dp un gd cn cs L a ccd cl outer base g L' s hdp hun hcs F N B X T lt
  simp only [List.cons_append, List.nil_append] at N
  try dsimp only
  try k_fold
  have C := codeHd_stream X
  k_steps
  have hpb : p < b.size := by
    have := (List.getElem?_eq_some_iff.mp hm).1
    rwa [KBw.ints_length] at this
  refine Tell.use (hR rest p tp cc 1 _ (Nat.le_of_lt hpb) (by omega) hne) B F X N T rfl (by show dp + 1 + 2 < 500; omega) (by show un + 3 + 10 * 2 < 500; omega) ?_
  rintro r tl h' tk' F2 N2 ⟨b2, t2, tp2, rfl, hk, rfl⟩
  rw [take1 hm] at hk
  have hbs : b2.size = 1 := by rw [← KBw.ints_length, hk]; rfl
  have hpm : min b.size (p + 1) = p + 1 := by omega
  rw [hpm] at N2
  simp only [List.cons_append, List.nil_append] at N2
  clear F N
  dsimp only
  k_steps
  show Ends g L' _ _ s _ _
  exact Ends.intro [(lP, listOf #[.int (p + 1 : Nat) tp2] cc)] (by assumption) (by assumption) (by kcf_all) (by kcf_all) ⟨_, tp2, rfl, rfl⟩

theorem bytes1_tell (w : World) {b : Array UInt8} {lP f1 : Addr} {fd1 : FuncData} {D : Addr} {oD : Obj} {f2 : Addr} {fd2 : FuncData} {O' rest : List (Addr × Obj)} (hR : ReadOk w b lP f1 fd1 D oD f2 fd2 O') (hD : FnDict oD (.ref f2)) {p : Nat} {tp : Tok} {cc m : Nat}
    (hm : (KBw.bInts b)[p]? = some (m : Int)) (hm2 : p + 1 + m ≤ b.size) (hm3 : m ≤ 255) (hne : AllNe lP rest) :
    Tell w 4 (.ref 49) [.ref f1] [(lP, listOf #[.int p tp] cc)] ((f1, fnObj (some D) fd1) :: (D, oD) :: (f2, fnObj none fd2) :: (O' ++ rest))
      (fun r tl => ∃ b2 t tp2, r = .bytes b2 t ∧ KBw.bInts b2 = ((KBw.bInts b).drop (p + 1)).take m ∧ tl = [(lP, listOf #[.int (p + 1 + m : Nat) tp2] cc)]) := by
  w_top off
  k_with_none
  (k_with "exec For Name Name cons nil" => (k_here; refine wpAny_ForA ?_))
  (k_with "exec For Name Call cons nil" => (k_here; refine wpAny_ForA ?_))
  (k_with "exec For Name List cons nil" => (k_here; refine wpAny_ForA ?_))
  (k_with "exec For Tuple Call cons nil" => (k_here; refine wpAny_ForA ?_))
  (k_with "exec For Tuple Name cons cons" => (k_here; refine wpAny_ForA ?_))
  (k_with "exec For Name Name cons cons" => (k_here; refine wpAny_ForA ?_))
  (k_with "getMethod ref" => (k_here; k_dflt (refine' getmethod_K ?N ?f ?d ?D ?_; (case N => k_asm); (case f => k_mem); (case d => k_mem); (case D => assumption)); intro _))
  (k_with "exec Raise" => (exfalso; omega))
  (k_with "exec Raise some" => (exfalso; omega))
  (k_with "exec Raise some none" => (exfalso; omega))
  (k_with "call ref" => (k_here; (with_reducible show wpAny _ _ (call (Value.ref 35) _) _ _ _); refine hold_it ?_))
  (k_with "call builtin:bytes.decode" => (k_here; refine decode_latin (by assumption) ?_; intro _ _))
  have hfill : (Mine.hd.heap_39 w.params).In default → Challenge.rw_oy0162_01 = Challenge.rw_oy0162_01 := by
    k_fill
    intro _; rfl
  clear hfill
  k_dflt (refine enter [(Str.ofString "f", .ref f1)] (by k_is) (by k_is) (fun s _ => BindsTo.of_eq rfl) (locs rfl) ?_ rfl rfl rfl (by decide))
  intro p' loose mean mg mb dp un gd cn cs L a ccd cl outer base g L' s hdp hun hcs F N B X T lt
  simp only [List.cons_append, List.nil_append] at N
  try dsimp only
  try k_fold
  have C := codeHd_stream X
  k_steps
  unfold Hold
  refine Tell.use (uint1_tell w hR hD hm hne) B F X N T rfl (by show dp + 1 + 3 < 500; omega) (by show un + 3 + 10 * 3 < 500; omega) ?_
  rintro r tl h' tk' F2 N2 ⟨t2, tp2, rfl, rfl⟩
  simp only [List.cons_append, List.nil_append] at N2
  clear F N
  try dsimp only
  k_steps
  refine Tell.use (hR rest (p + 1) tp2 cc m _ (by omega) (by omega) hne) B (by assumption) X (by assumption) T rfl (by show dp + 1 + 2 < 500; omega) (by show un + 3 + 10 * 2 < 500; omega) ?_
  rintro r tl h' tk' F3 N3 ⟨b2, t3, tp3, rfl, hk, rfl⟩
  have hks : (((KBw.bInts b).drop (p + 1)).take m).length = m := by rw [List.length_take, List.length_drop, KBw.ints_length]; omega
  have hpm : min b.size (p + 1 + m) = p + 1 + m := by omega
  rw [hpm] at N3
  simp only [List.cons_append, List.nil_append] at N3
  generalize hke : ((KBw.bInts b).drop (p + 1)).take m = ks2 at hk hks
  have hbs : b2.size = m := by rw [← KBw.ints_length, hk, hks]
  try dsimp only
  k_steps
  show Ends g L' _ _ s _ _
  exact Ends.intro [(lP, listOf #[.int (p + 1 + m : Nat) tp3] cc)] (by assumption) (by assumption) (by kcf_all) (by kcf_all) ⟨_, _, tp3, rfl, hk.trans hke.symm, rfl⟩
theorem string1_tell (w : World) {b : Array UInt8} {lP f1 : Addr} {fd1 : FuncData} {D : Addr} {oD : Obj} {f2 : Addr} {fd2 : FuncData} {O' rest : List (Addr × Obj)} (hR : ReadOk w b lP f1 fd1 D oD f2 fd2 O') (hD : FnDict oD (.ref f2)) {p : Nat} {tp : Tok} {cc m : Nat}
    (hm : (KBw.bInts b)[p]? = some (m : Int)) (hm2 : p + 1 + m ≤ b.size) (hm3 : m ≤ 255) (hne : AllNe lP rest) :
    Tell w 4 (.ref 42) [.ref f1] [(lP, listOf #[.int p tp] cc)] ((f1, fnObj (some D) fd1) :: (D, oD) :: (f2, fnObj none fd2) :: (O' ++ rest))
      (fun r tl => ∃ x t tp2, r = .str x t ∧ (x.cps.toList.map fun c : Nat => (c : Int)) = ((KBw.bInts b).drop (p + 1)).take m ∧ tl = [(lP, listOf #[.int (p + 1 + m : Nat) tp2] cc)]) := by
  w_top off
  k_with_none
  (k_with "exec For Name Name cons nil" => (k_here; refine wpAny_ForA ?_))
  (k_with "exec For Name Call cons nil" => (k_here; refine wpAny_ForA ?_))
  (k_with "exec For Name List cons nil" => (k_here; refine wpAny_ForA ?_))
  (k_with "exec For Tuple Call cons nil" => (k_here; refine wpAny_ForA ?_))
  (k_with "exec For Tuple Name cons cons" => (k_here; refine wpAny_ForA ?_))
  (k_with "exec For Name Name cons cons" => (k_here; refine wpAny_ForA ?_))
  (k_with "getMethod ref" => (k_here; k_dflt (refine' getmethod_K ?N ?f ?d ?D ?_; (case N => k_asm); (case f => k_mem); (case d => k_mem); (case D => assumption)); intro _))
  (k_with "exec Raise" => (exfalso; omega))
  (k_with "exec Raise some" => (exfalso; omega))
  (k_with "exec Raise some none" => (exfalso; omega))
  (k_with "call ref" => (k_here; (with_reducible show wpAny _ _ (call (Value.ref 35) _) _ _ _); refine hold_it ?_))
  (k_with "call builtin:bytes.decode" => (k_here; refine decode_latin (by assumption) ?_; intro _ _))
  have hfill : (Mine.hd.heap_39 w.params).In default → Challenge.rw_oy0162_01 = Challenge.rw_oy0162_01 := by
    k_fill
    intro _; rfl
  clear hfill
  k_dflt (refine enter [(Str.ofString "f", .ref f1)] (by k_is) (by k_is) (fun s _ => BindsTo.of_eq rfl) (locs rfl) ?_ rfl rfl rfl (by decide))
  intro p' loose mean mg mb dp un gd cn cs L a ccd cl outer base g L' s hdp hun hcs F N B X T lt
  simp only [List.cons_append, List.nil_append] at N
  try dsimp only
  try k_fold
  have C := codeHd_stream X
  k_steps
  unfold Hold
  refine Tell.use (uint1_tell w hR hD hm hne) B F X N T rfl (by show dp + 1 + 3 < 500; omega) (by show un + 3 + 10 * 3 < 500; omega) ?_
  rintro r tl h' tk' F2 N2 ⟨t2, tp2, rfl, rfl⟩
  simp only [List.cons_append, List.nil_append] at N2
  clear F N
  try dsimp only
  k_steps
  refine Tell.use (hR rest (p + 1) tp2 cc m _ (by omega) (by omega) hne) B (by assumption) X (by assumption) T rfl (by show dp + 1 + 2 < 500; omega) (by show un + 3 + 10 * 2 < 500; omega) ?_
  rintro r tl h' tk' F3 N3 ⟨b2, t3, tp3, rfl, hk, rfl⟩
  have hks : (((KBw.bInts b).drop (p + 1)).take m).length = m := by rw [List.length_take, List.length_drop, KBw.ints_length]; omega
  have hpm : min b.size (p + 1 + m) = p + 1 + m := by omega
  rw [hpm] at N3
  simp only [List.cons_append, List.nil_append] at N3
  generalize hke : ((KBw.bInts b).drop (p + 1)).take m = ks2 at hk hks
  have hbs : b2.size = m := by rw [← KBw.ints_length, hk, hks]
  have hb2 : b2.size ≤ 1000 := by omega
  try dsimp only
  k_steps
  show Ends g L' _ _ s _ _
  exact Ends.intro [(lP, listOf #[.int (p + 1 + m : Nat) tp3] cc)] (by assumption) (by assumption) (by kcf_all) (by kcf_all) ⟨_, _, tp3, rfl, by rw [hke, ← hk, KBw.bInts]; simp, rfl⟩
end

section
open PySem PySem.W PyProof.Rows PySem.Calls
set_option maxRecDepth 100000
section
variable {prog : Program} {w : World} {A : Around} {E : Value → Shared → Prop} {s : Shared} {env : Env} {h₀ : Heap}
theorem while_true {σ : Type} {Q : Flow → Shared → Prop} {test : Expr} {body : List Stmt} {pos : Pos} {m₀ : Str → Option Value} {news : List (Addr × Obj)}
    (Led : σ → List (Addr × Obj)) (ps : σ → List (Str × Value)) (stored : List Str) (P : σ → Prop) (μ : σ → Nat) (c₀ : σ)
    (ht : ∀ (s : Shared) (Q : Bool → Shared → Prop) (E : Value → Shared → Prop), Q true s → wpAny (model prog w) A (isTrue test env (eval test env)) Q E s)
    (F : Fr h₀ env.locals s.heap m₀) (N : News h₀ env.locals s.heap (Led c₀ ++ news)) (hk : ∀ p ∈ ps c₀, m₀ p.1 = some p.2) (hP : P c₀)
    (turn : ∀ (c : σ) (u : Str → Option Value) h tk, P c → Fr h₀ env.locals h (kstB (fun z => if stored.contains z then u z else m₀ z) (ps c)) → News h₀ env.locals h (Led c ++ news) →
      wpAny (model prog w) A (execs body env) (TurnToW h₀ env.locals [] Led news ps stored m₀ (fun c' => P c' ∧ μ c' < μ c) { s with heap := h, toks := tk } Q) E { s with heap := h, toks := tk })
    (hE : PassesOwn (model prog w) A env E) : wpAny (model prog w) A (exec (.While test body [] pos) env) Q E s := by
  have mapE : ∀ (c : σ) (m' : Str → Option Value), (∀ p ∈ ps c, m' p.1 = some p.2) → (∀ z, (∀ p ∈ ps c, z ≠ p.1) → stored.contains z = false → m' z = m₀ z) → kstB (fun z => if stored.contains z then m' z else m₀ z) (ps c) = m' := by
    intro c m' h1 h2
    funext y
    refine kstB_eq h1 fun hn => ?_
    show (if stored.contains y = true then m' y else m₀ y) = m' y
    cases h3 : stored.contains y with
    | true => simp
    | false => simp only [Bool.false_eq_true, if_false]; exact (h2 y hn h3).symm
  refine wpAny_While (codeAny_whileLoop (fun n s' => ∃ c h' tk m', s' = { s with heap := h', toks := tk } ∧ Fr h₀ env.locals h' m' ∧ News h₀ env.locals h' (Led c ++ news) ∧
      (∀ p ∈ ps c, m' p.1 = some p.2) ∧ (∀ z, (∀ p ∈ ps c, z ≠ p.1) → stored.contains z = false → m' z = m₀ z) ∧ P c ∧ n = μ c) ?_ (μ c₀) ⟨c₀, s.heap, s.toks, m₀, rfl, F, N, hk, fun _ _ _ => rfl, hP, rfl⟩)
  rintro n s' ⟨c, h', tk, m', rfl, F', N', h1, h2, hP', rfl⟩
  refine ht _ _ _ ?_
  simp only [if_true]
  rw [← mapE c m' h1 h2] at F'
  refine wpAny_passesOwn hE (wpAny_mono (turn c m' h' tk hP' F' N') (fun f s₃ h₃ => ?_) fun _ _ e => e)
  have fin : TurnAtW h₀ env.locals [] Led news ps stored m₀ (fun c' => P c' ∧ μ c' < μ c) { s with heap := h', toks := tk } s₃ → ∃ m, m < μ c ∧ ∃ c h' tk m', s₃ = { s with heap := h', toks := tk } ∧ Fr h₀ env.locals h' m' ∧ News h₀ env.locals h' (Led c ++ news) ∧
      (∀ p ∈ ps c, m' p.1 = some p.2) ∧ (∀ z, (∀ p ∈ ps c, z ≠ p.1) → stored.contains z = false → m' z = m₀ z) ∧ P c ∧ m = μ c := by
    rintro ⟨c', h₃', tk₃, m₃, all, rfl, F₃, N₃, -, hl₃, hn₃, g1, g2, g3, g4⟩
    exact ⟨μ c', g4, c', h₃', tk₃, m₃, rfl, F₃, fun p hp' => (List.mem_append.mp hp').elim (fun q => N₃ _ (hl₃ p q)) fun q => N₃ _ (hn₃ p q), g1, g2, g3, rfl⟩
  cases f with
  | ret v => exact h₃
  | brk => exact h₃
  | next => exact fin h₃
  | cont => exact fin h₃
end

/-- a call that may be refused by RuntimeError -/
def TellX (w : World) (k : Nat) (f : Value) (args : List Value) (pre news : List (Addr × Obj)) (post : Value → List (Addr × Obj) → Prop) (words : Str) (postE : Prop) : Prop :=
  ∀ (p : Program) (loose : List Str) (mean : ExcName → Option Value) (mg mb : Str → Option Value) (dp un : Nat) (gd : Option (List Code)) (cn : Str) (cs : Scope) (a : Addr) (ccd : Value) (cl : List (Str × Addr)) (outer : List Env)
    (A₀ : Around) (base h₀ : Heap) (L : Addr) (m : Str → Option Value) (s : Shared) (Q E : Value → Shared → Prop),
    Below A₀ base outer h₀ → Fr h₀ L s.heap m → (Mine.hd.heap_39 w.params).In h₀ → News h₀ L s.heap (pre ++ news) → Top p loose mean mg mb h₀ → cs.kind = .function → dp + k < 500 → un + 10 * k < 500 →
    (∀ r tl h' tk', Fr h₀ L h' m → News h₀ L h' (tl ++ news) → post r tl → Q r { s with heap := h', toks := tk' }) →
    (∀ e t tw g h' tk', Fr h₀ L g m → RaisedK base (envX cn cs L a ccd cl :: outer) e (.type "RuntimeError") t [.str words tw] news h' → g.UpToSlots h' → postE → E (.ref e) { s with heap := h', toks := tk' }) →
    wpAny (model Challenge.rw_oy0162_01.row.prog w) (ktrTop dp un gd cn cs L a ccd cl outer) (call f args) Q E s

theorem enterX {w : World} {k : Nat} {f : Addr} {args : List Value} {pre news : List (Addr × Obj)} {post : Value → List (Addr × Obj) → Prop} {words : Str} {postE : Prop} {name qual : Str} {params : Arguments} {body : List Stmt} {scope : Scope} {dV kV doc pm cdv ct oc : Value} {an od : Option Addr} {osl : Array (Option Value)} (binds : List (Str × Value))
    (ho : (Mine.hd.heap_39 w.params).lookup f = some ⟨oc, od, .func (fnOf name qual params body scope dV kV doc pm an cdv ct), osl⟩) (hcd : codeIn (Mine.hd.heap_39 w.params) cdv qual = true)
    (hbind : ∀ s : Shared, (Mine.hd.heap_39 w.params).In s.heap → BindsTo s (fnOf name qual params body scope dV kV doc pm an cdv ct) ⟨args, []⟩ binds) (hloc : ∀ y ∈ binds, scope.names.lookup y.1 = some .local)
    (h : ∀ (p : Program) (loose : List Str) (mean : ExcName → Option Value) (mg mb : Str → Option Value) (dp un : Nat) (gd : Option (List Code)) (cn : Str) (cs : Scope) (L a : Addr) (ccd : Value) (cl : List (Str × Addr)) (outer : List Env) (base g : Heap) (L' : Addr) (s : Shared) (E : Value → Shared → Prop),
      dp + k < 500 → un + 10 * k < 500 → cs.kind = .function → Fr g L' s.heap (fun y => binds.reverse.lookup y) → News g L' s.heap (pre ++ news) → Below (ktrTop dp un gd cn cs L a ccd cl outer) base (envX cn cs L a ccd cl :: outer) g → (Mine.hd.heap_39 w.params).In g → Top p loose mean mg mb g → (∀ p ∈ pre ++ news, p.1 < L') →
      (∀ e t tw h' tk', RaisedK base (envX cn cs L a ccd cl :: outer) e (.type "RuntimeError") t [.str words tw] news h' → g.UpToSlots h' → postE → E (.ref e) { s with heap := h', toks := tk' }) →
      wpAny (model Challenge.rw_oy0162_01.row.prog w) ((ktrTop dp un gd cn cs L a ccd cl outer).deeper (envOf qual scope L' f cdv)) (execs body (envOf qual scope L' f cdv)) (Ends g L' news post s)
        (fun e s' => wpAny (model Challenge.rw_oy0162_01.row.prog w) ((ktrTop dp un gd cn cs L a ccd cl outer).deeper (envOf qual scope L' f cdv)) (leaving (envOf qual scope L' f cdv) e) (fun _ s'' => E e s'') (fun e' s'' => E e' s'') s') s)
    (hco : scope.isCoroutine = false) (hgen : scope.isGenerator = false) (hk : scope.kind = .function) (hcell : ∀ x ∈ scope.names, x.2 ≠ .cell) : TellX w k (.ref f) args pre news post words postE := by
  intro p loose mean mg mb dp un gd cn cs a ccd cl outer A₀ base h₀ L m s Q E B F X N T hk' hd hu hret hrz
  refine wpAny_call (callX_plain (cl := []) B F N T.nolimit rfl rfl hk' ((X.keeps F.keep) _ _ ho) rfl (codeRec_of (X.keeps F.keep) hcd) (Nat.lt_of_lt_of_le (Nat.lt_of_le_of_lt (Nat.le_add_right _ _) hd) (by decide)) (hbind s (X.keeps F.keep)) hloc (fun g L' h₁ FG F' N' B' st hlt => ?_) hcell hco hgen hk)
  exact wpAny_mono (h p loose mean mg mb dp un gd cn cs L a ccd cl outer base g L' { s with heap := h₁, toks := s.toks + binds.length } E hd hu hk' F' N' B' (X.keeps st) (T.keeps st) hlt (fun e t tw h' tk' R U P => hrz e t tw g h' tk' FG R U P)) (fun fl s' q => by cases fl <;> exact leaveE (E := E) hret q) fun _ _ q => q
end

section
open PySem PySem.W PyProof.Rows PySem.Calls
set_option maxRecDepth 100000
section
variable {prog : Program} {w : World} {A : Around} {E : Value → Shared → Prop} {s : Shared} {env : Env} {h₀ : Heap}
theorem paired_eq : ∀ {l l' : List Value}, Paired (fun v y => y = v) l l' → l' = l
  | _, _, .nil => rfl
  | _, _, .cons h t => by rw [h, paired_eq t]
theorem assign_comp_ne {x y z : Str} {px py pz pe pi pos spos : Pos} {scope : Scope} {Q : Flow → Shared → Prop} {m : Str → Option Value} {news : List (Addr × Obj)} {S : Addr} {sv : List Value} {cS : Nat} (ne : Value → Bool)
    (hsw : swapsWith (.ListComp (.Name x pe) [⟨.Name x px, .Name z pz, [.Name x pi], 0⟩] scope pos) (some (.Name y py)) spos.line env = pure true)
    (hfree : ∀ v ∈ scope.names, v.2 ≠ .free) (hcell : ∀ v ∈ scope.names, v.2 ≠ .cell) (hkind : scope.kind = .function)
    (hnames : ∀ v ∈ scope.names, v.2 = .local → scope.names.lookup v.1 = some .local) (hx : scope.names.lookup x = some .local)
    (hy : env.kindOf y = some .local) (hp : (env.scope.kind == .class || (env.scope.kind == .module && env.locals != env.globals)) = false) (hek : env.scope.kind = .function) (hzl : env.kindOf z = some .local) (hzd : (z == ("__debug__" : Str)) = false) (hxd : (x == ("__debug__" : Str)) = false)
    (hh : A.handled = none) (F : Fr h₀ env.locals s.heap m) (N : News h₀ env.locals s.heap news) (hz : m z = some (.ref S)) (hS : (S, listOf sv.toArray cS) ∈ news) (hsz : sv.length ≤ 100)
    (hel : ∀ v ∈ sv, ∃ a vs c, v = .ref a ∧ (a, listOf vs c) ∈ news ∧ vs.size ≤ 100 ∧ ne v = !vs.isEmpty)
    (h : ∀ D c' h' tk, Fr h₀ env.locals h' (fun v => if v = y then some (.ref D) else m v) → News h₀ env.locals h' ((D, listOf (sv.filter ne).toArray c') :: news) → AllNe D news → Q .next { s with heap := h', toks := tk })
    (hs : ∀ x, foldedSetIterable (.Name z pz) env x = pure x)
    (hit : ∀ c : Addr, isTrue (.Name x pi) (compEnv scope c env) (eval (.Name x pi) (compEnv scope c env)) = (do let v ← eval (.Name x pi) (compEnv scope c env); standAt (Expr.Name x pi).pos; holding [v] (truthy v))) :
    wpAny (model prog w) A (exec (.Assign [.Name y py] (.ListComp (.Name x pe) [⟨.Name x px, .Name z pz, [.Name x pi], 0⟩] scope pos) spos) env) Q E s := by
  refine wpAny_Assign_ListComp_walk ne (fun v y => y = v) hsw hfree hcell hkind hnames hx hy hp ?_ hs
  refine wpAny_Name (wpAny_loadName_local hek hzl F.ns hz ?_) hzd
  have hls : s.heap.IsList S sv.toArray := ⟨_, (N _ hS).1, rfl, cS, rfl⟩
  have hSlt : S < s.heap.objs.size := Heap.lt_size (N _ hS).1
  refine wpAny_pyIter_list hls ?_
  have W := Walks.list (prog := prog) (w := w) hh s.heap.objs.size S (Nat.ne_of_lt hSlt) sv.toArray
  have hLs : env.locals < s.heap.objs.size := F.ns.lt
  refine ⟨s.heap.objs.size, _, _, _, _, _, m, rfl, W, ?_, ⟨⟨_, Heap.get?_push_size _ rfl, rfl, rfl⟩, hls.at fun o e => Heap.get?_push_of_some _ e⟩, ?_, ?_, F.ns.push _, ⟨?_, ?_⟩, ?_⟩
  · rw [List.size_toArray, sizeLine_eq]; omega
  · intro b hb
    simp only [List.mem_cons, List.not_mem_nil, or_false] at hb
    rcases hb with rfl | rfl
    · show _ < (s.heap.push _).objs.size; rw [Heap.size_push]; omega
    · show _ < (s.heap.push _).objs.size; rw [Heap.size_push]; exact Nat.lt_succ_of_lt hSlt
  · intro hm
    exact Nat.ne_of_lt hLs (List.mem_singleton.mp hm)
  · intro C i v s₃ m₃ E' hv hn hm hk htk
    have hv' : sv[i]? = some v := by simpa using hv
    obtain ⟨a, vs, c, rfl, hma, hsa, hne⟩ := hel v (List.mem_of_getElem? hv')
    have hla : s₃.heap.IsList a vs := ⟨_, hk _ _ (fun hb => Nat.ne_of_lt (Heap.lt_size (N _ hma).1) (List.mem_singleton.mp hb)) (Heap.get?_push_of_some _ (N _ hma).1), rfl, c, rfl⟩
    rw [List.forIn_cons]
    simp only [if_true]
    refine wpAny_bind (wpAny_bind ?_)
    rw [hit]
    refine wpAny_bind (wpAny_Name (wpAny_loadName_local (env := compEnv scope C env) hkind (by show (compEnv scope C env).scope.names.lookup x = _; exact hx) hn hm ?_) hxd)
    refine wpAny_bind (wpAny_standAt (wpAny_holding (wpAny_truthy_list hla (by omega) ?_)))
    refine wpAny_pure (wpAny_pure ?_)
    exact ⟨hne.symm, s₃.heap, _, rfl, fun _ _ e => e⟩
  · intro C i v s₃ m₃ E' hv _ hn hm hk htk
    refine wpAny_Name (wpAny_loadName_local (env := compEnv scope C env) hkind (by show (compEnv scope C env).scope.names.lookup x = _; exact hx) hn hm ?_) hxd
    exact ⟨rfl, s₃.heap, s₃.toks, rfl, fun _ _ e => e⟩
  · intro D h' tk ys vs hD hl hpl hlen hP hF hns hk
    have hvs : vs = sv := by
      refine List.ext_getElem? fun j => ?_
      by_cases hj : j < vs.length
      · have h1 : vs[j]? = some vs[j] := by simp [hj]
        have h2 := hP j _ h1
        have h3 : sv[j]? = some vs[j] := by simpa using h2
        rw [h1, h3]
      · have h1 : vs[j]? = none := by simp; omega
        have h2 : sv[j]? = none := by
          rw [List.getElem?_eq_none]
          have : vs.length = sv.length := by simpa using hlen
          omega
        rw [h1, h2]
    subst hvs
    have hys : ys = (vs.filter ne).toArray := by
      have := paired_eq hF
      rw [← this]
    obtain ⟨c', hD'⟩ := hpl
    have kp : ∀ b o, b ≠ env.locals → s.heap.get? b = some o → h'.get? b = some o := fun b o hb e => hk b o hb (fun hm => Nat.ne_of_lt (Heap.lt_size e) (List.mem_singleton.mp hm)) (Heap.get?_push_of_some _ e)
    have hDn : ∀ p ∈ news, p.1 ≠ D := fun p hp' e => by
      have h1 : (s.heap.push { cls := .type "list_iterator", data := .fields #[.ref S, .int 0 0] }).get? p.1 = some p.2 := Heap.get?_push_of_some _ (N p hp').1
      rw [e, hD] at h1; cases h1
    have hLD : D ≠ env.locals := fun e => by
      obtain ⟨o, _, _, ho, _⟩ := F.ns
      have h1 : (s.heap.push { cls := .type "list_iterator", data := .fields #[.ref S, .int 0 0] }).get? env.locals = some o := Heap.get?_push_of_some _ ho
      rw [← e, hD] at h1; cases h1
    have hD0 : h₀.get? D = none := by
      cases q : h₀.get? D with
      | none => rfl
      | some o =>
        have h1 : (s.heap.push { cls := .type "list_iterator", data := .fields #[.ref S, .int 0 0] }).get? D = some o := Heap.get?_push_of_some _ (F.keep _ _ q)
        rw [hD] at h1; cases h1
    refine h D c' h' tk ⟨hns, fun b o e => kp b o (fun z => Nat.lt_irrefl _ (Nat.lt_of_lt_of_le (Heap.lt_size (z ▸ e)) F.above)) (F.keep b o e), F.above⟩ (fun p hp' => ?_) (allNe_of hDn)
    rcases List.mem_cons.mp hp' with rfl | hp'
    · refine ⟨?_, hLD, hD0⟩
      rw [← hys]; exact hD'
    · exact ⟨kp _ _ (N p hp').2.1 (N p hp').1, (N p hp').2⟩
end
end

section
open PySem PySem.W PyProof.Rows PySem.Calls
set_option maxRecDepth 100000
set_option maxHeartbeats 0
set_option linter.unusedSimpArgs false
inductive Pick where
  | done | blocked | take (c : Int)
def pick : List Int → List Int → Pick
  | [], [] => .done
  | x :: xs, [] => if x ∈ xs then .blocked else .take x
  | [], y :: ys => if y ∈ ys then .blocked else .take y
  | x :: xs, y :: ys => if x ∉ xs ∧ x ∉ ys then .take x else if y ∉ xs ∧ y ∉ ys then .take y else .blocked
def dropc (c : Int) : List Int → List Int
  | [] => []
  | x :: xs => if x = c then xs else x :: xs
/-- the merge of two rows -/
def c3 : Nat → List Int → List Int → Option (List Int)
  | 0, _, _ => none
  | n + 1, xs, ys => match pick xs ys with
    | .done => some []
    | .blocked => none
    | .take c => (c3 n (dropc c xs) (dropc c ys)).map (c :: ·)
def liveOf (a1 a2 : Addr) (x1 x2 : List Value) : List Value := (if x1 = [] then [] else [Value.ref a1]) ++ (if x2 = [] then [] else [Value.ref a2])

structure St3 where
  S : Nat
  sv : List Value
  cS : Nat
  rv : List Value
  cR : Nat
  x1 : List Value
  c1 : Nat
  x2 : List Value
  c2 : Nat
  xs : List Int
  ys : List Int
  acc : List Int
def Shape (a1 a2 : Addr) (c : St3) : Prop := c.sv = [.ref a1, .ref a2] ∨ (c.sv = [.ref a1] ∧ c.x2 = []) ∨ (c.sv = [.ref a2] ∧ c.x1 = [])
def neOf (a1 : Addr) (x1 x2 : List Value) (v : Value) : Bool := if v = .ref a1 then !x1.toArray.isEmpty else !x2.toArray.isEmpty
theorem filter_shape {a1 a2 : Addr} (h12 : @Ne Nat a1 a2) {c : St3} (h : Shape a1 a2 c) : c.sv.filter (neOf a1 c.x1 c.x2) = liveOf a1 a2 c.x1 c.x2 := by
  have e1 : neOf a1 c.x1 c.x2 (.ref a1) = !c.x1.toArray.isEmpty := by simp [neOf]
  have e2 : neOf a1 c.x1 c.x2 (.ref a2) = !c.x2.toArray.isEmpty := by
    have : (Value.ref a2) ≠ Value.ref a1 := fun e => h12 (Value.ref.inj e).symm
    simp [neOf, this]
  rcases h with h | ⟨h, h'⟩ | ⟨h, h'⟩
  · simp only [h, List.filter_cons, List.filter_nil, e1, e2, liveOf]
    cases c.x1 <;> cases c.x2 <;> simp
  · simp only [h, List.filter_cons, List.filter_nil, e1, liveOf]
    rw [h']
    cases c.x1 <;> simp
  · simp only [h, List.filter_cons, List.filter_nil, e2, liveOf]
    rw [h']
    cases c.x2 <;> simp
def P3 (xs0 ys0 : List Int) (a1 a2 R : Addr) (c : St3) : Prop :=
  IntsAre c.x1 c.xs ∧ IntsAre c.x2 c.ys ∧ IntsAre c.rv c.acc ∧ Shape a1 a2 c ∧ c3 (xs0.length + ys0.length + 1) xs0 ys0 = (c3 (c.xs.length + c.ys.length + 1) c.xs c.ys).map (c.acc ++ ·) ∧ c.acc.length + c.xs.length + c.ys.length ≤ 24 ∧ @Ne Nat c.S R ∧ @Ne Nat c.S a1 ∧ @Ne Nat c.S a2

def headOf (a1 : Addr) (xs ys : List Int) (v : Value) : Int := if v = .ref a1 then xs.headD 0 else ys.headD 0
def tailOf (a1 : Addr) (xs ys : List Int) (v : Value) : List Int := if v = .ref a1 then xs.tail else ys.tail
theorem ref_ne {a1 a2 : Addr} (h12 : @Ne Nat a1 a2) : (Value.ref a2) ≠ Value.ref a1 := fun e => h12 (Value.ref.inj e).symm
theorem pick_take {a1 a2 : Addr} (h12 : @Ne Nat a1 a2) {x1 x2 : List Value} {xs ys : List Int} (hx : IntsAre x1 xs) (hy : IntsAre x2 ys) {i : Nat} {v : Value} (hv : (liveOf a1 a2 x1 x2)[i]? = some v)
    (hprev : ∀ (k : Nat), k < i → ∀ u, (liveOf a1 a2 x1 x2)[k]? = some u → ∃ u' ∈ liveOf a1 a2 x1 x2, headOf a1 xs ys u ∈ tailOf a1 xs ys u')
    (hfree : ∀ u' ∈ liveOf a1 a2 x1 x2, headOf a1 xs ys v ∉ tailOf a1 xs ys u') : pick xs ys = .take (headOf a1 xs ys v) := by
  have hne := ref_ne h12
  cases hx with
  | nil =>
    cases hy with
    | nil => simp [liveOf] at hv
    | cons y ty hy' =>
      rcases i with _ | i
      · simp [liveOf] at hv; subst hv
        simp [liveOf, headOf, tailOf, hne, pick] at hfree ⊢
        exact hfree
      · simp [liveOf] at hv
  | cons x tx hx' =>
    cases hy with
    | nil =>
      rcases i with _ | i
      · simp [liveOf] at hv; subst hv
        simp [liveOf, headOf, tailOf, hne, pick] at hfree ⊢
        exact hfree
      · simp [liveOf] at hv
    | cons y ty hy' =>
      rcases i with _ | _ | i
      · simp [liveOf] at hv; subst hv
        simp only [liveOf, headOf, tailOf, hne, reduceCtorEq, if_false, if_true, List.cons_append, List.nil_append, List.mem_cons, List.not_mem_nil, or_false, forall_eq_or_imp, forall_eq, List.headD_cons, List.tail_cons] at hfree ⊢
        rw [pick, if_pos hfree]
      · simp [liveOf] at hv; subst hv
        have hp := hprev 0 (by omega) (.ref a1) (by simp [liveOf])
        simp only [liveOf, headOf, tailOf, hne, reduceCtorEq, if_false, if_true, List.cons_append, List.nil_append, List.mem_cons, List.not_mem_nil, or_false, forall_eq_or_imp, forall_eq, exists_eq_or_imp, exists_eq_left, List.headD_cons, List.tail_cons] at hfree hp ⊢
        rw [pick, if_neg (by rintro ⟨h1, h2⟩; exact hp.elim h1 h2), if_pos hfree]
      · simp [liveOf] at hv
theorem pick_blocked {a1 a2 : Addr} (h12 : @Ne Nat a1 a2) {x1 x2 : List Value} {xs ys : List Int} (hx : IntsAre x1 xs) (hy : IntsAre x2 ys) (h0 : liveOf a1 a2 x1 x2 ≠ [])
    (hprev : ∀ (k : Nat) u, (liveOf a1 a2 x1 x2)[k]? = some u → ∃ u' ∈ liveOf a1 a2 x1 x2, headOf a1 xs ys u ∈ tailOf a1 xs ys u') : pick xs ys = .blocked := by
  have hne := ref_ne h12
  cases hx with
  | nil =>
    cases hy with
    | nil => exact absurd rfl h0
    | cons y ty hy' =>
      have hp := hprev 0 (.ref a2) (by simp [liveOf])
      simp [liveOf, headOf, tailOf, hne, pick] at hp ⊢
      exact hp
  | cons x tx hx' =>
    cases hy with
    | nil =>
      have hp := hprev 0 (.ref a1) (by simp [liveOf])
      simp [liveOf, headOf, tailOf, hne, pick] at hp ⊢
      exact hp
    | cons y ty hy' =>
      have hp := hprev 0 (.ref a1) (by simp [liveOf])
      have hq := hprev 1 (.ref a2) (by simp [liveOf])
      simp only [liveOf, headOf, tailOf, hne, reduceCtorEq, if_false, if_true, List.cons_append, List.nil_append, List.mem_cons, List.not_mem_nil, or_false, exists_eq_or_imp, exists_eq_left, List.headD_cons, List.tail_cons] at hp hq ⊢
      rw [pick, if_neg (by rintro ⟨h1, h2⟩; exact hp.elim h1 h2), if_neg (by rintro ⟨h1, h2⟩; exact hq.elim h1 h2)]
theorem TurnToW.ret {σ : Type} {h₀ : Heap} {L : Addr} {own : List (Addr × Obj)} {Led : σ → List (Addr × Obj)} {news : List (Addr × Obj)} {ps : σ → List (Str × Value)} {stored : List Str} {m₀ : Str → Option Value} {P : σ → Prop} {s₁ s₂ : Shared} {Q : Flow → Shared → Prop} {v : Value}
    (h : Q (.ret v) s₂) : TurnToW h₀ L own Led news ps stored m₀ P s₁ Q (.ret v) s₂ := h
theorem loopMap_opt (cc : Option Value) (x y z : Str) (v : Option Value) (u m₀ : Str → Option Value) : ∃ u', loopMap x v (match (generalizing := false) cc with | none => [] | some q => [(y, q)]) [y, z] u m₀ = loopMap x v [] [y, z] u' m₀ := by
  cases cc with
  | none => exact ⟨u, rfl⟩
  | some q =>
    refine ⟨fun k => if k = y then some q else u k, ?_⟩
    funext k
    simp only [loopMap, kstB]
    by_cases h1 : k = x
    · simp [h1]
    · by_cases h2 : k = y
      · subst h2; simp [h1]
      · simp [h1, h2]
theorem raisedK_sub {base : Heap} {l : List Env} {e t : Addr} {cls : Value} {vs : List Value} {news news' : List (Addr × Obj)} {h : Heap} (R : RaisedK base l e cls t vs news h) (hs : ∀ q ∈ news', q ∈ news) : RaisedK base l e cls t vs news' h :=
  let ⟨⟨B, h1, h2, h3, h4⟩, h5⟩ := R
  ⟨⟨B, h1, fun q hq => h2 q (hs q hq), h3, h4⟩, h5⟩
structure St4 where
  x1 : List Value
  c1 : Nat
  x2 : List Value
  c2 : Nat
  xs : List Int
  ys : List Int
def P4 (a1 a2 : Addr) (live : List Value) (n : Int) (xs ys : List Int) (i : Nat) (c : St4) : Prop :=
  IntsAre c.x1 c.xs ∧ IntsAre c.x2 c.ys ∧ c.xs = (if Value.ref a1 ∈ live.take i then dropc n xs else xs) ∧ c.ys = (if Value.ref a2 ∈ live.take i then dropc n ys else ys)
theorem live_at {a1 a2 : Addr} (h12 : @Ne Nat a1 a2) {x1 x2 : List Value} {i : Nat} {v : Value} (hv : (liveOf a1 a2 x1 x2)[i]? = some v) :
    (v = .ref a1 ∧ x1 ≠ [] ∧ Value.ref a1 ∉ (liveOf a1 a2 x1 x2).take i) ∨ (v = .ref a2 ∧ x2 ≠ [] ∧ Value.ref a2 ∉ (liveOf a1 a2 x1 x2).take i) := by
  have hne := ref_ne h12
  cases x1 with
  | nil =>
    cases x2 with
    | nil => simp [liveOf] at hv
    | cons y ys =>
      rcases i with _ | i
      · simp [liveOf] at hv; exact .inr ⟨hv.symm, by simp, by simp⟩
      · simp [liveOf] at hv
  | cons x xs =>
    cases x2 with
    | nil =>
      rcases i with _ | i
      · simp [liveOf] at hv; exact .inl ⟨hv.symm, by simp, by simp⟩
      · simp [liveOf] at hv
    | cons y ys =>
      rcases i with _ | _ | i
      · simp [liveOf] at hv; exact .inl ⟨hv.symm, by simp, by simp⟩
      · simp [liveOf] at hv; exact .inr ⟨hv.symm, by simp, by simpa [liveOf] using fun e => h12 e.symm⟩
      · simp [liveOf] at hv
theorem live_all {a1 a2 : Addr} {x1 x2 : List Value} : (x1 = [] ∨ Value.ref a1 ∈ liveOf a1 a2 x1 x2) ∧ (x2 = [] ∨ Value.ref a2 ∈ liveOf a1 a2 x1 x2) := by
  refine ⟨?_, ?_⟩
  · by_cases h : x1 = []
    · exact .inl h
    · refine .inr ?_; simp [liveOf, h]
  · by_cases h : x2 = []
    · exact .inl h
    · refine .inr ?_; simp [liveOf, h]
theorem dropc_len (c : Int) (xs : List Int) : (dropc c xs).length ≤ xs.length := by
  cases xs with
  | nil => simp [dropc]
  | cons x xs => simp only [dropc]; split <;> simp
theorem pick_len {xs ys : List Int} {c : Int} (h : pick xs ys = .take c) : (dropc c xs).length + (dropc c ys).length < xs.length + ys.length := by
  have h1 := dropc_len c xs
  have h2 := dropc_len c ys
  match xs, ys, h with
  | [], [], h => simp [pick] at h
  | x :: xs, [], h =>
    simp only [pick] at h
    split at h
    · cases h
    · cases h; simp [dropc]
  | [], y :: ys, h =>
    simp only [pick] at h
    split at h
    · cases h
    · cases h; simp [dropc]
  | x :: xs, y :: ys, h =>
    simp only [pick] at h
    split at h
    · have e := Pick.take.inj h
      subst e
      have : (dropc x (x :: xs)).length = xs.length := by simp [dropc]
      simp only [List.length_cons] at *
      omega
    · split at h
      · have e := Pick.take.inj h
        subst e
        have : (dropc y (y :: ys)).length = ys.length := by simp [dropc]
        simp only [List.length_cons] at *
        omega
      · cases h
theorem c3_fuel : ∀ (f f' : Nat) (xs ys : List Int), xs.length + ys.length < f → xs.length + ys.length < f' → c3 f xs ys = c3 f' xs ys
  | 0, _, _, _, h, _ => absurd h (Nat.not_lt_zero _)
  | _ + 1, 0, _, _, _, h => absurd h (Nat.not_lt_zero _)
  | f + 1, f' + 1, xs, ys, h, h' => by
    simp only [c3]
    cases hp : pick xs ys with
    | done => rfl
    | blocked => rfl
    | take c =>
      have hl := pick_len hp
      dsimp only
      rw [c3_fuel f f' _ _ (by omega) (by omega)]
theorem live_ok {a1 a2 : Addr} (h12 : @Ne Nat a1 a2) {x1 x2 : List Value} {xs ys : List Int} {c1 c2 : Nat} (hx : IntsAre x1 xs) (hy : IntsAre x2 ys) :
    ∀ v ∈ liveOf a1 a2 x1 x2, ∃ a n t vt ns c, v = .ref a ∧ (a, listOf (Value.int n t :: vt).toArray c) ∈ [(a1, listOf x1.toArray c1), (a2, listOf x2.toArray c2)] ∧ IntsAre vt ns ∧ headOf a1 xs ys v = n ∧ tailOf a1 xs ys v = ns ∧ vt.length + 1 ≤ xs.length + ys.length := by
  have hne := ref_ne h12
  have hl1 := hx.length
  have hl2 := hy.length
  intro v hv
  unfold liveOf at hv
  rcases List.mem_append.mp hv with hv | hv
  · cases hx with
    | nil => simp at hv
    | cons x tx hx' =>
      simp at hv; subst hv
      exact ⟨a1, x, tx, _, _, c1, rfl, List.mem_cons_self .., hx', by simp [headOf], by simp [tailOf], by simp at hl1 ⊢; omega⟩
  · cases hy with
    | nil => simp at hv
    | cons y ty hy' =>
      simp at hv; subst hv
      exact ⟨a2, y, ty, _, _, c2, rfl, List.mem_cons_of_mem _ (List.mem_cons_self ..), hy', by simp [headOf, hne], by simp [tailOf, hne], by simp at hl2 ⊢; omega⟩


theorem c3_tell (w : World) {a1 a2 a3 : Addr} {v1 v2 : List Value} {xs0 ys0 : List Int} {d1 d2 d3 : Nat} {rest : List (Addr × Obj)} (hi1 : IntsAre v1 xs0) (hi2 : IntsAre v2 ys0) (hz1 : xs0.length ≤ 12) (hz2 : ys0.length ≤ 12)
    (h12 : @Ne Nat a1 a2) (h13 : @Ne Nat a1 a3) (h23 : @Ne Nat a2 a3) (hr1 : AllNe a1 rest) (hr2 : AllNe a2 rest) :
    TellX w 3 (.ref 28) [.ref a3] [(a1, listOf v1.toArray d1), (a2, listOf v2.toArray d2)] ((a3, listOf #[.ref a1, .ref a2] d3) :: rest)
      (fun r tl => ∃ R rv cR e1 e2 res, r = .ref R ∧ tl = [(R, listOf rv.toArray cR), (a1, listOf #[] e1), (a2, listOf #[] e2)] ∧ IntsAre rv res ∧ c3 (xs0.length + ys0.length + 1) xs0 ys0 = some res ∧ AllLt R ((a1, listOf v1.toArray d1) :: (a2, listOf v2.toArray d2) :: (a3, listOf #[.ref a1, .ref a2] d3) :: rest))
      (Str.ofString "Inconsistent hierarchy") (c3 (xs0.length + ys0.length + 1) xs0 ys0 = none) := by
  w_top off
  k_with_none
  (k_with "exec For Name Name cons nil" => (k_here; refine wpAny_ForA ?_))
  (k_with "exec For Name Call cons nil" => (k_here; refine wpAny_ForA ?_))
  (k_with "exec For Name List cons nil" => (k_here; refine wpAny_ForA ?_))
  (k_with "exec For Tuple Call cons nil" => (k_here; refine wpAny_ForA ?_))
  (k_with "exec For Tuple Name cons cons" => (k_here; refine wpAny_ForA ?_))
  (k_with "exec For Name Name cons cons" => (k_here; refine wpAny_ForA ?_))
  (k_with "exec Assign cons ListComp" => (k_here; refine hold_it ?_))
  (k_with "exec While Constant cons nil" => (k_here; refine hold_it ?_))
  (k_with "exec Raise some none" => (k_here; refine hold_it ?_))
  (k_with "exec While" => (k_here; refine hold_it ?_))
  have hfill : (Mine.hd.heap_39 w.params).In default → Challenge.rw_oy0162_01 = Challenge.rw_oy0162_01 := by
    k_fill
    intro _; rfl
  clear hfill
  k_dflt (refine enterX [(Str.ofString "sequences", .ref a3)] (by k_is) (by k_is) (fun s _ => BindsTo.of_eq rfl) (locs rfl) ?_ rfl rfl rfl (by decide))
  intro p loose mean mg mb dp un gd cn cs L a ccd cl outer base g L' s E hdp hun hcs F N B X T lt hrz
  replace lt := allLt_of lt
  simp only [List.cons_append, List.nil_append, AllLt] at N lt
  try dsimp only
  try k_fold
  k_steps
  unfold Hold
  rename_i R h1 q1 h2 F' N'
  refine while_true (σ := St3) (news := (a3, listOf #[.ref a1, .ref a2] d3) :: rest) (fun c => [(c.S, listOf c.sv.toArray c.cS), (R, listOf c.rv.toArray c.cR), (a1, listOf c.x1.toArray c.c1), (a2, listOf c.x2.toArray c.c2)])
    (fun c => [(Str.ofString "sequences", .ref c.S)]) [Str.ofString "s1", Str.ofString "candidate", Str.ofString "s2", Str.ofString "seq"] (P3 xs0 ys0 a1 a2 R) (fun c => c.xs.length + c.ys.length)
    ⟨a3, [.ref a1, .ref a2], d3, [], 0, v1, d1, v2, d2, xs0, ys0, []⟩ ?ht F' (kst_newsOf N' (by kcf_all)) (by kst_all) ?hP ?turn ?hE
  case ht =>
    intro s Q E h
    exact isTrue_plain (wpAny_Constant_bool (wpAny_truthy_bool h))
  case hE => passes_own
  case hP => exact ⟨hi1, hi2, .nil, .inl rfl, by simp, by show 0 + xs0.length + ys0.length ≤ 24; omega, by show @Ne Nat a3 R; omega, h13.symm, h23.symm⟩
  case turn =>
    intro c u h tk hP F1 N1
    have hP' := hP
    obtain ⟨hx, hy, hr, hsh, hc, hsz, n1, n2, n3⟩ := hP
    simp only [List.cons_append, List.nil_append] at N1
    clear F' N'
    have hl1 := hx.length
    have hl2 := hy.length
    have hl3 := hr.length
    k_steps
    unfold Hold
    refine assign_comp_ne (neOf a1 c.x1 c.x2) (by with_unfolding_all rfl) (by decide) (by decide) rfl (by decide) rfl rfl rfl rfl rfl (by decide) (by decide) rfl F1 N1 rfl (by kcf_m) ?hsz ?hel ?h (by intro _; with_unfolding_all rfl) (by intro _; rfl)
    case hsz => rcases hsh with h | ⟨h, -⟩ | ⟨h, -⟩ <;> rw [h] <;> simp
    case hel =>
      have e1 : neOf a1 c.x1 c.x2 (.ref a1) = !c.x1.toArray.isEmpty := by simp [neOf]
      have e2 : neOf a1 c.x1 c.x2 (.ref a2) = !c.x2.toArray.isEmpty := by
        have : (Value.ref a2) ≠ Value.ref a1 := fun e => h12 (Value.ref.inj e).symm
        simp [neOf, this]
      have g1 : ∃ a vs c', Value.ref a1 = .ref a ∧ (a, listOf vs c') ∈ (c.S, listOf c.sv.toArray c.cS) :: (R, listOf c.rv.toArray c.cR) :: (a1, listOf c.x1.toArray c.c1) :: (a2, listOf c.x2.toArray c.c2) :: (a3, listOf #[.ref a1, .ref a2] d3) :: rest ∧ vs.size ≤ 100 ∧ neOf a1 c.x1 c.x2 (.ref a1) = !vs.isEmpty := ⟨a1, c.x1.toArray, c.c1, rfl, by kcf_m, by rw [List.size_toArray]; omega, e1⟩
      have g2 : ∃ a vs c', Value.ref a2 = .ref a ∧ (a, listOf vs c') ∈ (c.S, listOf c.sv.toArray c.cS) :: (R, listOf c.rv.toArray c.cR) :: (a1, listOf c.x1.toArray c.c1) :: (a2, listOf c.x2.toArray c.c2) :: (a3, listOf #[.ref a1, .ref a2] d3) :: rest ∧ vs.size ≤ 100 ∧ neOf a1 c.x1 c.x2 (.ref a2) = !vs.isEmpty := ⟨a2, c.x2.toArray, c.c2, rfl, by kcf_m, by rw [List.size_toArray]; omega, e2⟩
      intro v hv
      rcases hsh with h | ⟨h, -⟩ | ⟨h, -⟩ <;> rw [h] at hv <;> simp only [List.mem_cons, List.not_mem_nil, or_false] at hv
      · rcases hv with rfl | rfl
        · exact g1
        · exact g2
      · rw [hv]; exact g1
      · rw [hv]; exact g2
    case h =>
      intro D cD h5 tk5 F5 N5 hD
      rw [filter_shape h12 hsh] at N5
      simp only [AllNe] at hD
      obtain ⟨-, m1, m2, m3, m4, m5⟩ := hD
      clear F1 N1
      have N6 := kst_newsOf (l' := (D, listOf (liveOf a1 a2 c.x1 c.x2).toArray cD) :: (R, listOf c.rv.toArray c.cR) :: (a1, listOf c.x1.toArray c.c1) :: (a2, listOf c.x2.toArray c.c2) :: (a3, listOf #[.ref a1, .ref a2] d3) :: rest) N5 (by kcf_all)
      clear N5 hP' n1 n2 n3 hsh
      obtain ⟨S, sv, cS, rv, cR, x1, c1, x2, c2, xs, ys, acc⟩ := c
      dsimp only at hx hy hr hc hsz hl1 hl2 hl3 N6 F5 ⊢
      have hok := live_ok (c1 := c1) (c2 := c2) h12 hx hy
      by_cases h0 : x1 = [] ∧ x2 = []
      · obtain ⟨rfl, rfl⟩ := h0
        cases hx
        cases hy
        simp only [liveOf, if_true, List.append_nil, List.nil_append] at N6
        k_steps
        dsimp only
        refine TurnToW.ret ?_
        show Ends g L' _ _ s _ _
        refine Ends.intro [(R, listOf rv.toArray cR), (a1, listOf #[] c1), (a2, listOf #[] c2)] (by assumption) N6 (by kcf_all) (by kcf_all) ⟨R, rv, cR, c1, c2, acc, rfl, rfl, hr, ?_, ?_⟩
        · rw [hc]; simp [c3, pick]
        · simp only [AllLt]; exact q1
      · have h0' : liveOf a1 a2 x1 x2 ≠ [] := by
          intro e
          simp only [liveOf, List.append_eq_nil_iff] at e
          refine h0 ⟨?_, ?_⟩
          · have := e.1; split at this <;> simp_all
          · have := e.2; split at this <;> simp_all
        obtain ⟨v0, lv', elv⟩ := List.exists_cons_of_ne_nil h0'
        have hlvlen : (liveOf a1 a2 x1 x2).length ≤ 2 := by
          unfold liveOf
          split <;> split <;> simp
        generalize hlv : liveOf a1 a2 x1 x2 = live at *
        subst elv
        k_steps
        have hblk : True := trivial
        refine for_list (σ := Option Value) (vs := v0 :: lv') (news := (D, listOf (v0 :: lv').toArray cD) :: (R, listOf rv.toArray cR) :: (a1, listOf x1.toArray c1) :: (a2, listOf x2.toArray c2) :: (a3, listOf #[.ref a1, .ref a2] d3) :: rest) (fun _ => [])
          (fun c => match c with | none => [] | some v => [(Str.ofString "candidate", v)]) [Str.ofString "candidate", Str.ofString "s2"]
          (fun i c => (i = 0 → c = none) ∧ (0 < i → c = some .none) ∧ ∀ k, k < i → ∀ u, (v0 :: lv')[k]? = some u → ∃ u' ∈ v0 :: lv', headOf a1 xs ys u ∈ tailOf a1 xs ys u') none rfl (by kcf_m) ?hclsB rfl rfl (by assumption) N6 (by kst_all) ⟨fun _ => rfl, fun h => absurd h (Nat.lt_irrefl _), fun k h => absurd h (Nat.not_lt_zero _)⟩ ?turnB ?doneB
        case hclsB => intro _ c _ p hp; cases hp
        case turnB =>
          rintro cc i v u2 I oI h7 tk7 hi' hv ⟨hQ1, hQ2, hQ3⟩ hoI lI F7 N7 -
          simp only [List.nil_append] at N7
          replace lI := allLt_of lI
          simp only [AllLt] at lI
          clear N6
          have hvm : v ∈ v0 :: lv' := List.mem_of_getElem? hv
          obtain ⟨b, n, t, vt, ns, cb, rfl, hb, hvt, hhead, -, hvl⟩ := hok v hvm
          have N8 := kst_newsOf (l' := (b, listOf (Value.int n t :: vt).toArray cb) :: (I, oI) :: (D, listOf (v0 :: lv').toArray cD) :: (R, listOf rv.toArray cR) :: (a1, listOf x1.toArray c1) :: (a2, listOf x2.toArray c2) :: (a3, listOf #[.ref a1, .ref a2] d3) :: rest) N7 (by
            intro p hp
            rcases List.mem_cons.mp hp with rfl | hp
            · rcases List.mem_cons.mp hb with e | hb
              · rw [e]; kcf_m
              · rw [List.mem_singleton.mp hb]; kcf_m
            · exact hp)
          clear N7
          obtain ⟨u3, e3⟩ := loopMap_opt cc (Str.ofString "s1") (Str.ofString "candidate") (Str.ofString "s2") (some (.ref b)) u2 _
          have F8 := F7
          rw [e3] at F8
          clear F7
          k_steps
          rename_i tc h8 F9 N9
          simp only [Int.toNat_zero, List.getD_cons_zero] at F9
          clear F8 N8
          refine for_list (σ := Unit) (vs := v0 :: lv') (news := (b, listOf (Value.int n t :: vt).toArray cb) :: (I, oI) :: (D, listOf (v0 :: lv').toArray cD) :: (R, listOf rv.toArray cR) :: (a1, listOf x1.toArray c1) :: (a2, listOf x2.toArray c2) :: (a3, listOf #[.ref a1, .ref a2] d3) :: rest) (fun _ => [])
            (fun _ => [(Str.ofString "candidate", .int n tc)]) []
            (fun j _ => ∀ k, k < j → ∀ u, (v0 :: lv')[k]? = some u → n ∉ tailOf a1 xs ys u) () rfl (by kcf_m) ?hclsC rfl rfl F9 N9 (by kst_all) (fun k h => absurd h (Nat.not_lt_zero _)) ?turnC ?doneC
          case hclsC => intro _ c _ p hp; cases hp
          case turnC =>
            rintro ⟨⟩ j v2 u4 J oJ h10 tk10 hj' hv2 hPj hoJ lJ F10 N10 -
            simp only [List.nil_append] at N10
            clear F9 N9
            have hvm2 : v2 ∈ v0 :: lv' := List.mem_of_getElem? hv2
            obtain ⟨b2, n2, t2, vt2, ns2, cb2, rfl, hb2, hvt2, -, htail2, hvl2⟩ := hok v2 hvm2
            have N11 := kst_newsOf (l' := (b2, listOf (Value.int n2 t2 :: vt2).toArray cb2) :: (J, oJ) :: (b, listOf (Value.int n t :: vt).toArray cb) :: (I, oI) :: (D, listOf (v0 :: lv').toArray cD) :: (R, listOf rv.toArray cR) :: (a1, listOf x1.toArray c1) :: (a2, listOf x2.toArray c2) :: (a3, listOf #[.ref a1, .ref a2] d3) :: rest) N10 (by
              intro p hp
              rcases List.mem_cons.mp hp with rfl | hp
              · rcases List.mem_cons.mp hb2 with e | hb2
                · rw [e]; kcf_m
                · rw [List.mem_singleton.mp hb2]; kcf_m
              · exact hp)
            clear N10
            k_steps
            · dsimp only
              refine TurnTo.brk ?_
              dsimp only
              k_steps
              refine TurnTo.next (TurnAt.intro (some .none) (by assumption) (by assumption) (by kcf_m) (by kcf_all) (by kcf_all) (by kst_all) (by intro z h1 h2 h3; have h3' := h3; simp only [List.contains_cons, List.contains_nil, Bool.or_false, Bool.or_eq_false_iff, beq_eq_false_iff_ne, ne_eq] at h3'; (try simp only [List.forall_mem_cons, List.not_mem_nil, false_implies, implies_true, and_true, ne_eq] at h2); simp [loopMap, kstB, h1, h2, h3', h3]) ⟨fun h => absurd h (Nat.succ_ne_zero _), fun _ => rfl, ?_⟩)
              intro k hk u hu
              rcases Nat.lt_succ_iff_lt_or_eq.mp hk with hk | rfl
              · exact hQ3 k hk u hu
              · rw [hv] at hu
                cases hu
                refine ⟨_, hvm2, ?_⟩
                rename (List.any _ _ = true) => hany
                rw [hhead, htail2]
                simpa using hany
            · refine TurnTo.next (TurnAt.intro () (by assumption) (by assumption) (by kcf_m) (by kcf_all) (by kcf_all) (by kst_all) (by intro z h1 h2 h3; have h3' := h3; simp only [List.contains_cons, List.contains_nil, Bool.or_false, Bool.or_eq_false_iff, beq_eq_false_iff_ne, ne_eq] at h3'; (try simp only [List.forall_mem_cons, List.not_mem_nil, false_implies, implies_true, and_true, ne_eq] at h2); simp [loopMap, kstB, h1, h2, h3', h3]) ?_)
              intro k hk u hu
              rcases Nat.lt_succ_iff_lt_or_eq.mp hk with hk | rfl
              · exact hPj k hk u hu
              · rw [hv2] at hu
                cases hu
                rename (List.any _ _ = false) => hany
                rw [htail2]
                rw [List.any_eq_false] at hany
                intro hm
                exact hany n (by simpa using hm) (by simp)
          case doneC =>
            rintro ⟨⟩ u4 h10 tk10 hPj F10 N10
            simp only [List.nil_append] at N10
            clear F9 N9
            k_steps
            dsimp only
            refine TurnTo.brk ?_
            dsimp only
            have N11 := kst_newsOf (l' := (D, listOf (v0 :: lv').toArray cD) :: (R, listOf rv.toArray cR) :: (a1, listOf x1.toArray c1) :: (a2, listOf x2.toArray c2) :: (a3, listOf #[.ref a1, .ref a2] d3) :: rest) N10 (by kcf_all)
            clear N10
            k_steps
            rename_i h11 F11 N12
            try clear F10
            try clear N11
            have hpk : pick xs ys = .take n := by
              rw [← hhead]
              refine pick_take h12 hx hy (by rw [hlv]; exact hv) (by rw [hlv]; exact hQ3) (by
                rw [hlv]
                intro u' hu'
                obtain ⟨k, hk, e⟩ := List.mem_iff_getElem.mp hu'
                rw [hhead]
                exact hPj k hk u' (by rw [List.getElem?_eq_getElem hk, e]))
            refine for_list (σ := St4) (vs := v0 :: lv') (news := (D, listOf (v0 :: lv').toArray cD) :: (R, listOf (rv ++ [Value.int n tc]).toArray (cR + 1)) :: (a3, listOf #[.ref a1, .ref a2] d3) :: rest) (fun c => [(a1, listOf c.x1.toArray c.c1), (a2, listOf c.x2.toArray c.c2)])
              (fun _ => []) [] (P4 a1 a2 (v0 :: lv') n xs ys) ⟨x1, c1, x2, c2, xs, ys⟩ rfl (by kcf_m) ?hclsE rfl rfl F11 (kst_newsOf N12 (by (try simp only [List.push_toArray] at *); kcf_all)) (by kst_all) ⟨hx, hy, by simp, by simp⟩ ?turnE ?doneE
            case hclsE => intro _ c _ p hp; simp only [List.mem_cons, List.not_mem_nil, or_false] at hp; rcases hp with rfl | rfl <;> simp
            case turnE =>
              rintro ⟨y1, e1, y2, e2, zs, ws⟩ j v2 u4 J oJ h12' tk12 hj' hv2 ⟨hz1, hz2, hz3, hz4⟩ hoJ lJ F13 N13 hoff
              dsimp only at hz1 hz2 hz3 hz4 F13 N13 hoff
              simp only [List.cons_append, List.nil_append] at N13
              clear F11 N12
              replace lJ := allLt_of lJ
              simp only [AllLt] at lJ
              simp only [AllNe] at hoff
              have hsz1 := hz1.length
              have hsz2 := hz2.length
              have hoff1 : (J, oJ).1 ≠ a1 := fun e => hoff.1 e.symm
              have hoff2 : (J, oJ).1 ≠ a2 := fun e => hoff.2.1 e.symm
              have RN1 : @Ne Nat R a1 := by omega
              have RN2 : @Ne Nat R a2 := by omega
              rcases live_at h12 (by rw [hlv]; exact hv2) with ⟨rfl, hne1, hnot⟩ | ⟨rfl, hne1, hnot⟩
              · rw [hlv] at hnot
                have ez : zs = xs := by rw [hz3, if_neg hnot]
                subst ez
                cases hx with
                | nil => exact absurd rfl hne1
                | cons x tx hx' =>
                  cases hz1 with
                  | cons _ ty1 hz1' =>
                    rename_i xl xn zl
                    have tk1 : (v0 :: lv').take (j + 1) = (v0 :: lv').take j ++ [.ref a1] := by rw [List.take_add_one, hv2]; rfl
                    k_steps
                    · rename (List.getD _ _ _ = n) => heq
                      simp only [Int.toNat_zero, List.getD_cons_zero] at heq
                      subst heq
                      refine ki_del (n := e1) (its := (Value.int x ty1 :: zl).toArray) (q := zl) (k := 0) F13 N13 (by decide) (by simp [seqIndex?]) rfl (.tail hoff1 (.head (allNe_to ⟨h12.symm, Ne.symm m2, RN1, h13.symm, hr1⟩))) (by rw [PySem.sizeLine_eq]; simp only [List.length_cons] at *; omega) ?_
                      intro h14 F14 N14
                      dsimp only
                      k_steps
                      refine TurnTo.next (TurnAt.intro ⟨zl, e1 + 1, y2, e2, xn, ws⟩ F14 N14 (by kcf_m) (by kcf_all) (by kcf_all) (by kst_all) (by intro z h1 h2 h3; have h3' := h3; simp only [List.contains_cons, List.contains_nil, Bool.or_false, Bool.or_eq_false_iff, beq_eq_false_iff_ne, ne_eq] at h3'; (try simp only [List.forall_mem_cons, List.not_mem_nil, false_implies, implies_true, and_true, ne_eq] at h2); simp [loopMap, kstB, h1, h2, h3', h3]) ?_)
                      unfold P4
                      dsimp only
                      rw [tk1]
                      refine ⟨hz1', hz2, ?own, ?oth⟩
                      case own => rw [if_pos (by simp)]; simp [dropc]
                      case oth => rw [hz4]; simp [ref_ne h12]
                    · refine TurnTo.next (TurnAt.intro ⟨.int x ty1 :: zl, e1, y2, e2, x :: xn, ws⟩ F13 N13 (by kcf_m) (by kcf_all) (by kcf_all) (by kst_all) (by intro z h1 h2 h3; have h3' := h3; simp only [List.contains_cons, List.contains_nil, Bool.or_false, Bool.or_eq_false_iff, beq_eq_false_iff_ne, ne_eq] at h3'; (try simp only [List.forall_mem_cons, List.not_mem_nil, false_implies, implies_true, and_true, ne_eq] at h2); simp [loopMap, kstB, h1, h2, h3', h3]) ?_)
                      unfold P4
                      dsimp only
                      rw [tk1]
                      refine ⟨(.cons x ty1 hz1'), hz2, ?own, ?oth⟩
                      case own =>
                        rename (List.getD _ _ _ ≠ n) => hne
                        simp only [Int.toNat_zero, List.getD_cons_zero] at hne
                        rw [if_pos (by simp)]; simp [dropc, hne]
                      case oth => rw [hz4]; simp [ref_ne h12]
              · rw [hlv] at hnot
                have ez : ws = ys := by rw [hz4, if_neg hnot]
                subst ez
                cases hy with
                | nil => exact absurd rfl hne1
                | cons x tx hx' =>
                  cases hz2 with
                  | cons _ ty1 hz1' =>
                    rename_i xl xn zl
                    have tk1 : (v0 :: lv').take (j + 1) = (v0 :: lv').take j ++ [.ref a2] := by rw [List.take_add_one, hv2]; rfl
                    k_steps
                    · rename (List.getD _ _ _ = n) => heq
                      simp only [Int.toNat_zero, List.getD_cons_zero] at heq
                      subst heq
                      refine ki_del (n := e2) (its := (Value.int x ty1 :: zl).toArray) (q := zl) (k := 0) F13 N13 (by decide) (by simp [seqIndex?]) rfl (.tail hoff2 (.tail h12 (.head (allNe_to ⟨Ne.symm m3, RN2, h23.symm, hr2⟩)))) (by rw [PySem.sizeLine_eq]; simp only [List.length_cons] at *; omega) ?_
                      intro h14 F14 N14
                      dsimp only
                      k_steps
                      refine TurnTo.next (TurnAt.intro ⟨y1, e1, zl, e2 + 1, zs, xn⟩ F14 N14 (by kcf_m) (by kcf_all) (by kcf_all) (by kst_all) (by intro z h1 h2 h3; have h3' := h3; simp only [List.contains_cons, List.contains_nil, Bool.or_false, Bool.or_eq_false_iff, beq_eq_false_iff_ne, ne_eq] at h3'; (try simp only [List.forall_mem_cons, List.not_mem_nil, false_implies, implies_true, and_true, ne_eq] at h2); simp [loopMap, kstB, h1, h2, h3', h3]) ?_)
                      unfold P4
                      dsimp only
                      rw [tk1]
                      refine ⟨hz1, hz1', ?oth, ?own⟩
                      case own => rw [if_pos (by simp)]; simp [dropc]
                      case oth => rw [hz3]; simp [(ref_ne h12).symm]
                    · refine TurnTo.next (TurnAt.intro ⟨y1, e1, .int x ty1 :: zl, e2, zs, x :: xn⟩ F13 N13 (by kcf_m) (by kcf_all) (by kcf_all) (by kst_all) (by intro z h1 h2 h3; have h3' := h3; simp only [List.contains_cons, List.contains_nil, Bool.or_false, Bool.or_eq_false_iff, beq_eq_false_iff_ne, ne_eq] at h3'; (try simp only [List.forall_mem_cons, List.not_mem_nil, false_implies, implies_true, and_true, ne_eq] at h2); simp [loopMap, kstB, h1, h2, h3', h3]) ?_)
                      unfold P4
                      dsimp only
                      rw [tk1]
                      refine ⟨hz1, (.cons x ty1 hz1'), ?oth, ?own⟩
                      case own =>
                        rename (List.getD _ _ _ ≠ n) => hne
                        simp only [Int.toNat_zero, List.getD_cons_zero] at hne
                        rw [if_pos (by simp)]; simp [dropc, hne]
                      case oth => rw [hz3]; simp [(ref_ne h12).symm]
            case doneE =>
              rintro ⟨y1, e1, y2, e2, zs, ws⟩ u4 h12' tk12 ⟨hz1, hz2, hz3, hz4⟩ F13 N13
              dsimp only at hz1 hz2 hz3 hz4 F13 N13
              simp only [List.cons_append, List.nil_append] at N13
              clear F11 N12
              k_steps
              rw [List.take_length, ← hlv] at hz3 hz4
              have ez : zs = dropc n xs := by
                rw [hz3]
                rcases (live_all (a1 := a1) (a2 := a2) (x1 := x1) (x2 := x2)).1 with e | e
                · subst e; cases hx; simp [dropc]
                · rw [if_pos e]
              have ew : ws = dropc n ys := by
                rw [hz4]
                rcases (live_all (a1 := a1) (a2 := a2) (x1 := x1) (x2 := x2)).2 with e | e
                · subst e; cases hy; simp [dropc]
                · rw [if_pos e]
              have hpl := pick_len hpk
              rw [← ez, ← ew] at hpl
              refine TurnToW.next (TurnAtW.intro ⟨D, v0 :: lv', cD, rv ++ [.int n tc], cR + 1, y1, e1, y2, e2, zs, ws, acc ++ [n]⟩ F13 N13 (by kcf_all) (by kcf_all) (by kcf_all) (by kst_all) (by intro z h2 h3; have h3' := h3; simp only [List.contains_cons, List.contains_nil, Bool.or_false, Bool.or_eq_false_iff, beq_eq_false_iff_ne, ne_eq] at h3'; (try simp only [List.forall_mem_cons, List.not_mem_nil, false_implies, implies_true, and_true, ne_eq] at h2); simp [loopMap, kstB, h2, h3', h3]) ⟨⟨hz1, hz2, intsAre_push hr, ?_, ?_, ?_, ?_, ?_, ?_⟩, hpl⟩)
              · show Shape a1 a2 _
                unfold Shape
                dsimp only
                rw [← hlv]
                by_cases h1 : x1 = []
                · subst h1
                  cases hx
                  have : zs = [] := by rw [ez]; rfl
                  subst this
                  cases hz1
                  by_cases h2 : x2 = []
                  · exact absurd ⟨rfl, h2⟩ h0
                  · exact .inr (.inr ⟨by simp [liveOf, h2], rfl⟩)
                · by_cases h2 : x2 = []
                  · subst h2
                    cases hy
                    have : ws = [] := by rw [ew]; rfl
                    subst this
                    cases hz2
                    exact .inr (.inl ⟨by simp [liveOf, h1], rfl⟩)
                  · exact .inl (by simp [liveOf, h1, h2])
              · dsimp only
                rw [hc, c3, hpk]
                dsimp only
                rw [← ez, ← ew, c3_fuel _ (zs.length + ws.length + 1) zs ws (by omega) (by omega)]
                cases c3 (zs.length + ws.length + 1) zs ws <;> simp
              · dsimp only
                rw [List.length_append]
                simp only [List.length_cons, List.length_nil]
                omega
              · exact Ne.symm m1
              · exact Ne.symm m2
              · exact Ne.symm m3
        case doneB =>
          rintro cc u2 h7 tk7 ⟨hQ1, hQ2, hQ3⟩ F7 N7
          simp only [List.nil_append] at N7
          clear N6
          have ecc := hQ2 (by simp)
          subst ecc
          dsimp only at F7
          k_steps
          unfold Hold
          refine Raise_madeB PySem.F.excCall_RuntimeError PySem.F.excRaise_RuntimeError rfl ?_
          k_steps
          rename (RaisedK _ _ _ _ _ _ _ _) => R8
          refine hrz _ _ _ _ _ (raisedK_sub R8 (by kcf_all)) (by assumption) ?_
          rw [hc, c3, pick_blocked h12 hx hy (by rw [hlv]; exact List.cons_ne_nil _ _) (by
            rw [hlv]
            intro k u hu
            refine hQ3 k ?_ u hu
            exact (List.getElem?_eq_some_iff.mp hu).1)]
          rfl
end

section
open PySem PySem.W PyProof.Rows PySem.Calls
set_option maxRecDepth 100000
section
variable {prog : Program} {w : World} {A : Around} {E : Value → Shared → Prop} {s : Shared} {h₀ : Heap} {L : Addr} {m : Str → Option Value} {env : Env}
/-- the turns of a comprehension without a test -/
theorem rest_all {elt : Expr} {x : Str} {scope : Scope} {cl : List (Str × Addr)} {S : List (Addr × Obj) → Prop} {P : Nat → Value → Prop} {Fin : List Value → List (Addr × Obj) → Prop} {n : Nat} {news : List (Addr × Obj)} (G : Nat → List Value → Prop)
    (hS : S news) (h0 : G 0 [])
    (h : ∀ i ys v I oI C oC D m₂ h tk (E' : Value → Shared → Prop), i < n → G i ys → P i v → LCg.NsObj oC m₂ → m₂ x = some v → Fr h₀ L h m → News h₀ L h ((I, oI) :: (C, oC) :: (D, LCg.lst ys) :: news) → LCg.Off3 I C D news → ((@Ne Nat I C) ∧ (@Ne Nat I D) ∧ (@Ne Nat C D)) →
      wpAny (model prog w) A (eval elt (compEnvC scope cl C env)) (LCg.CompEnd h₀ L m { s with heap := h, toks := tk } I oI C oC D (LCg.lst ys) S (fun y news' => news' = news ∧ G (i + 1) (ys ++ [y]))) E' { s with heap := h, toks := tk })
    (fin : ∀ ys, G n ys → Fin ys news) : LCg.CompRest prog w A h₀ L m env elt x scope cl s S P Fin n 0 [] news := by
  have main : ∀ k i ys, i + k = n → G i ys → LCg.CompRest prog w A h₀ L m env elt x scope cl s S P Fin k i ys news := by
    intro k
    induction k with
    | zero => intro i ys e g; exact fin ys (by rw [← e]; exact g)
    | succ k ih =>
      intro i ys e g
      refine LCg.CompRest.succ ?_
      intro v I oI C oC D m₂ h' tk E' hP hC hx F N off ne
      refine wpAny_mono (h i ys v I oI C oC D m₂ h' tk E' (by omega) g hP hC hx F N off ne) ?_ fun _ _ e => e
      rintro y s₂ ⟨h₃, tk₃, news', rfl, F₃, N₃, off₃, S₃, rfl, g₃⟩
      exact ⟨h₃, tk₃, news', rfl, F₃, N₃, off₃, S₃, ih (i + 1) _ (by omega) g₃⟩
  exact main n 0 [] (by omega) h0
/-- the turns of a comprehension with a test -/
theorem restT_all {ct elt : Expr} {x : Str} {scope : Scope} {cl : List (Str × Addr)} {S : List (Addr × Obj) → Prop} {P : Nat → Value → Prop} {Fin : List Value → List (Addr × Obj) → Prop} {n : Nat} {news : List (Addr × Obj)} (G : Nat → List Value → Prop)
    (hS : S news) (h0 : G 0 [])
    (h : ∀ i ys v I oI C oC D m₂ h tk (E' : Value → Shared → Prop), i < n → G i ys → P i v → LCg.NsObj oC m₂ → m₂ x = some v → Fr h₀ L h m → News h₀ L h ((I, oI) :: (C, oC) :: (D, LCg.lst ys) :: news) → LCg.Off3 I C D news → ((@Ne Nat I C) ∧ (@Ne Nat I D) ∧ (@Ne Nat C D)) →
      wpAny (model prog w) A (isTrue ct (compEnvC scope cl C env) (eval ct (compEnvC scope cl C env))) (fun ok s' => if ok = true then
        wpAny (model prog w) A (eval elt (compEnvC scope cl C env)) (LCg.CompEnd h₀ L m { s with heap := h, toks := tk } I oI C oC D (LCg.lst ys) S (fun y news' => news' = news ∧ G (i + 1) (ys ++ [y]))) E' s'
        else LCg.CompEnd h₀ L m { s with heap := h, toks := tk } I oI C oC D (LCg.lst ys) S (fun _ news' => news' = news ∧ G (i + 1) ys) Value.none s') E' { s with heap := h, toks := tk })
    (fin : ∀ ys, G n ys → Fin ys news) : LCt.CompRestT prog w A h₀ L m env ct elt x scope cl s S P Fin n 0 [] news := by
  have main : ∀ k i ys, i + k = n → G i ys → LCt.CompRestT prog w A h₀ L m env ct elt x scope cl s S P Fin k i ys news := by
    intro k
    induction k with
    | zero => intro i ys e g; exact fin ys (by rw [← e]; exact g)
    | succ k ih =>
      intro i ys e g
      refine LCt.CompRestT.succ ?_
      intro v I oI C oC D m₂ h' tk E' hP hC hx F N off ne
      refine wpAny_mono (h i ys v I oI C oC D m₂ h' tk E' (by omega) g hP hC hx F N off ne) ?_ fun _ _ e => e
      intro ok s₂ hok
      cases ok with
      | true =>
        simp only [if_true] at hok ⊢
        refine wpAny_mono hok ?_ fun _ _ e => e
        rintro y s₂ ⟨h₃, tk₃, news', rfl, F₃, N₃, off₃, S₃, rfl, g₃⟩
        exact ⟨h₃, tk₃, news', rfl, F₃, N₃, off₃, S₃, ih (i + 1) _ (by omega) g₃⟩
      | false =>
        simp only [Bool.false_eq_true, if_false] at hok ⊢
        obtain ⟨h₃, tk₃, news', rfl, F₃, N₃, off₃, S₃, rfl, g₃⟩ := hok
        exact ⟨h₃, tk₃, news', rfl, F₃, N₃, off₃, S₃, ih (i + 1) _ (by omega) g₃⟩
  exact main n 0 [] (by omega) h0
theorem sum_ledger {l : Addr} {arr : Array Value} {c : Nat} {ns : List Int} {news : List (Addr × Obj)} {Q : Value → Shared → Prop} (hh : A.handled = none) (F : Fr h₀ L s.heap m) (N : News h₀ L s.heap news) (hm : (l, listOf arr c) ∈ news) (hi : IntsAre arr.toList ns)
    (h : ∀ h' tk t', Fr h₀ L h' m → News h₀ L h' news → Q (.int ns.sum t') { s with heap := h', toks := tk }) :
    wpAny (model prog w) A (call (.builtin "sum") [.ref l]) Q E s := by
  have hl : s.heap.IsList l arr := ⟨_, (N _ hm).1, rfl, c, rfl⟩
  have ha : arr = arr.toList.toArray := by simp
  have hall : AllInts arr := by rw [ha]; exact hi.allInts
  obtain ⟨xs, hx⟩ := hall.items
  have hn : numsOf arr.toList = ns := hi.numsOf
  rw [hx] at hl hn
  rw [nums_intItems] at hn
  refine sum_intListG hh hl fun h' tk t' hk => ?_
  have := h h' tk t' (F.keeps hk) (N.grown hk)
  rw [preSum_eq, List.take_of_length_le (by simp), hn]
  exact this
/-- a turn's end -/
theorem comp_end {I C D : Addr} {s₁ : Shared} {oI oC oD : Obj} {S : List (Addr × Obj) → Prop} {news : List (Addr × Obj)} {R : Value → Prop} {y : Value} {h' : Heap} {tk : Nat} {all : List (Addr × Obj)}
    (F : Fr h₀ L h' m) (N : News h₀ L h' all) (off : LCg.Off3 I C D news) (hS : S news) (sub : ∀ p ∈ (I, oI) :: (C, oC) :: (D, oD) :: news, p ∈ all) (r : R y) :
    LCg.CompEnd h₀ L m s₁ I oI C oC D oD S (fun y news' => news' = news ∧ R y) y { s₁ with heap := h', toks := tk } :=
  LCg.CompEnd.intro F N news sub off hS ⟨rfl, r⟩
end
end

section
open PySem PySem.W PyProof.Rows PySem.Calls
set_option maxRecDepth 100000
section
variable {prog : Program} {w : World} {A : Around} {E : Value → Shared → Prop} {s : Shared} {h₀ : Heap} {L : Addr} {m : Str → Option Value}
def ByteAt (b : Array UInt8) (i : Nat) (v : Value) : Prop := ∃ c u, b[i]? = some c ∧ v = .int ((c : UInt8).toNat : Int) u
theorem extend_bytes {R : Result → Shared → Prop} (hh : A.handled = none) (x : Array UInt8) (t : Tok) (S : Addr) (res : Value) (c₀ : Nat) (hS : s.heap.get? S = some { cls := .type "list", data := .seq #[] c₀ })
    (hR : ∀ h' tk acc' c', (∀ b o, b ≠ S → s.heap.get? b = some o → h'.get? b = some o) → h'.get? S = some { cls := .type "list", dict := none, data := .seq acc' c', slots := #[] } →
      ItemsOf (ByteAt x) acc' x.size → R (.ok (.ret res)) { s with heap := h', toks := tk }) (hn : x.size ≤ sizeLine) :
    wpAny (model prog w) A.in1 (Builtin.List.listExtendWith (.ref S) (.bytes x t) res)
      (fun fin s' => match fin with | .done f => R (.ok f) s' | .again c' => c'.quiet = true ∧ codeAny (model prog w) A c' R s') (fun e s' => R (.error e) s') s := by
  have hSI : S ≠ s.heap.objs.size := Nat.ne_of_lt (Heap.lt_size hS)
  have hSf : S ∉ [s.heap.objs.size] := fun hm => hSI (List.mem_singleton.mp hm)
  unfold Builtin.List.listExtendWith
  refine wpAny_bind (wpAny_typeOf (T := "bytes") (v := .bytes x t) rfl ?_)
  have h1 : Builtin.List.listSameRef (.ref S) (.bytes x t) = false := rfl
  have h2 : (Value.type "bytes" == Value.type "list") = false := by decide
  have h3 : (Value.type "bytes" == Value.type "tuple") = false := by decide
  simp only [h1, h2, h3, Bool.or_false, Bool.false_eq_true, if_false]
  refine wpAny_bind (KBw.pyIter_bytes ?_)
  refine wpAny_bind (wpAny_holding ?_)
  unfold Builtin.List.listLengthHint
  refine wpAny_bind (wpAny_specialOf (T := "bytes") (v := .bytes x t) rfl FB.slot_bytes_len.lookup ?_)
  wp_delta
  refine wpAny_bind (wpAny_isInstance (T := "bytes") (v := .bytes x t) (b := true) rfl (by rw [isSubtype_type]; kernel_rfl) ?_)
  show wpAny _ _ (typeOf (Value.bytes x t) >>= _) _ _ _
  refine wpAny_bind (wpAny_typeOf (T := "bytes") (v := .bytes x t) rfl ?_)
  refine wpAny_pure ?_
  rw [if_neg (by decide)]
  have W : Walks prog w A.in1 s.heap.objs.size [s.heap.objs.size] [s.heap.objs.size] x.size (ByteAt x) (fun i h => KBw.IsBytesIter h s.heap.objs.size x t i) := KBw.walks (A := A.in1) hh _ x t
  refine wpAny_pure ⟨plainId_quiet F.plain_extend_loop _, codeAny_extend_loopS W.toS hn _ hSf _ x.size 0 _ _ _ rfl (Nat.zero_le _) ⟨_, Heap.get?_push_size _ rfl, rfl, rfl⟩ (Heap.get?_push_of_some _ hS) (ItemsOf.nil _) fun s' acc' c' hm hS' hacc => ?_⟩
  rw [Moved.eq_with hm]
  refine hR s'.heap s'.toks acc' c' (fun b ob hb e => hm.heap b ob (fun hmem => ?_) (Heap.get?_push_of_some _ e)) hS' hacc
  rcases List.mem_cons.mp hmem with e' | hmem
  · exact hb e'
  · exact absurd (Heap.lt_size e) (by rw [List.mem_singleton.mp hmem]; exact Nat.lt_irrefl _)
theorem list_init_bytes {R : Result → Shared → Prop} (hh : A.handled = none) (x : Array UInt8) (t : Tok) (S : Addr) (hS : s.heap.get? S = some { cls := .type "list", data := .seq #[] })
    (hR : ∀ h' tk acc' c', (∀ b o, b ≠ S → s.heap.get? b = some o → h'.get? b = some o) → h'.get? S = some { cls := .type "list", dict := none, data := .seq acc' c', slots := #[] } →
      ItemsOf (ByteAt x) acc' x.size → R (.ok (.ret .none)) { s with heap := h', toks := tk }) (hn : x.size ≤ sizeLine) :
    wpAny (model prog w) A.in1 (Builtin.«list.__init__» ⟨[.ref S, .bytes x t], []⟩)
      (fun fin s' => match fin with | .done f => R (.ok f) s' | .again c' => c'.quiet = true ∧ codeAny (model prog w) A c' R s') (fun e s' => R (.error e) s') s := by
  show wpAny _ _ (do let old ← Builtin.List.listItems (.ref S); Builtin.List.listUpdate (.ref S) (fun _ => #[]); letGo old.toList.reverse; Builtin.List.listExtendWith (.ref S) (.bytes x t) .none) _ _ s
  refine wpAny_bind ?_
  unfold Builtin.List.listItems
  refine wpAny_bind (wpAny_seqItems hS rfl (wpAny_pure ?_))
  show wpAny _ _ (updateSeq S (fun _ => #[]) >>= fun _ => letGo (#[] : Array Value).toList.reverse >>= fun _ => Builtin.List.listExtendWith (.ref S) (.bytes x t) .none) _ _ s
  refine wpAny_bind (wpAny_updateSeq hS rfl ?_)
  have hS₂ := Heap.get?_update_self (Obj.mapSeq (fun _ => (#[] : Array Value))) hS rfl
  have oth : ∀ b o, b ≠ S → s.heap.get? b = some o → (s.heap.update S (Obj.mapSeq (fun _ => (#[] : Array Value)))).get? b = some o :=
    fun b o hb e => (Heap.get?_update_other _ _ (Ne.symm hb)).trans e
  refine wpAny_bind (wpAny_letGo ?_)
  refine extend_bytes (hn := hn) hh x t S .none _ hS₂ fun h' tk acc' c' hk hS' hacc => ?_
  exact hR h' tk acc' c' (fun b o hb e => hk b o hb (oth b o hb e)) hS' hacc
theorem intsAre_of_get : ∀ (vs : List Value) (ns : List Int), vs.length = ns.length → (∀ (j : Nat) (v : Value), vs[j]? = some v → ∃ n u, ns[j]? = some n ∧ v = .int n u) → IntsAre vs ns
  | [], [], _, _ => .nil
  | [], _ :: _, h, _ => by cases h
  | _ :: _, [], h, _ => by cases h
  | v :: vs, a :: as, hl, hg => by
    obtain ⟨n, u, ha', rfl⟩ := hg 0 v rfl
    simp only [List.getElem?_cons_zero, Option.some.injEq] at ha'
    subst ha'
    exact .cons _ _ (intsAre_of_get vs as (by simpa using hl) fun j z hz => by simpa using hg (j + 1) z (by simpa using hz))
/-- list(bytes) -/
theorem list_bytes {x : Array UInt8} {t : Tok} {ks : List Int} {news : List (Addr × Obj)} {Q : Value → Shared → Prop} (hh : A.handled = none) (Fh : Fr h₀ L s.heap m) (N : News h₀ L s.heap news) (hk : KBw.bInts x = ks) (hn : ks.length ≤ 1000)
    (hQ : ∀ D vs c h' tk, Fr h₀ L h' m → News h₀ L h' ((D, listOf vs.toArray c) :: news) → IntsAre vs ks → (∀ q ∈ news, q.1 < D) → Q (.ref D) { s with heap := h', toks := tk }) :
    wpAny (model prog w) A (call (.type "list") [.bytes x t]) Q E s := by
  have hsz : x.size ≤ 1000 := by rw [← KBw.ints_length, hk]; exact hn
  refine callType_codes (Q₁ := fun obj s₁ => obj = .ref s.heap.objs.size ∧ s₁ = { s with heap := s.heap.push { cls := .type "list", data := .seq #[] } }) F.called_list (F.typeCall_list_1 _) F.entry_list_init
    (code_list_new _ ⟨rfl, rfl⟩) fun obj s₁ h₁ => ?_
  obtain ⟨rfl, rfl⟩ := h₁
  have hS : (s.heap.push { cls := .type "list", data := .seq #[] }).get? s.heap.objs.size = some { cls := .type "list", data := .seq #[] } := Heap.get?_push_size _ rfl
  refine ⟨⟨_, hS, rfl⟩, F.args_list_init_2 _ _, list_init_bytes (A := A.in1) (hn := by rw [sizeLine_eq]; omega) hh x t _ hS fun h' tk acc' c' hk' hS' hacc => ?_⟩
  have up : ∀ b o, s.heap.get? b = some o → h'.get? b = some o := fun b o e => hk' b o (Nat.ne_of_lt (Heap.lt_size e)) (Heap.get?_push_of_some _ e)
  refine ⟨rfl, hQ s.heap.objs.size acc'.toList c' h' tk (Fh.keeps up) (fun p hp => ?_) (intsAre_of_get _ _ ?_ fun j v hv => ?_) fun q hq => Heap.lt_size (N q hq).1⟩
  · rcases List.mem_cons.mp hp with rfl | hp
    · exact ⟨by simpa using hS', Ne.symm (Nat.ne_of_lt Fh.ns.lt), next_is_new Fh⟩
    · exact ⟨up _ _ (N p hp).1, (N p hp).2⟩
  · rw [← hk, KBw.ints_length]; simpa using hacc.1
  · obtain ⟨c, u, hc, rfl⟩ := hacc.2 j v (by simpa using hv)
    exact ⟨_, u, by rw [← hk]; exact KBw.ints_get hc, rfl⟩
end
end

section
open PySem PySem.W PyProof.Rows PySem.Calls PyProof.Rows.LCg
set_option maxRecDepth 100000
section
variable {prog : Program} {w : World} {A : Around} {E : Value → Shared → Prop} {s : Shared} {h₀ : Heap} {L : Addr} {m : Str → Option Value} {env : Env}
theorem iter_strX {x : Str} {t : Tok} {Q : Value → Shared → Prop}
    (hQ : ∀ (o : Obj) (ty : String), (∀ A' : Around, A'.handled = none → Walks prog w A' s.heap.objs.size [s.heap.objs.size] [s.heap.objs.size] x.cps.size (SignAt x) (fun i h => h.IsStrIter s.heap.objs.size ty x t i)) → (s.heap.push o).IsStrIter s.heap.objs.size ty x t 0 →
      Q (.ref s.heap.objs.size) { s with heap := s.heap.push o }) : wpAny (model prog w) A (pyIter (.str x t)) Q E s := by
  cases ha : x.cps.all (· < 128)
  · exact wpAny_pyIter_wide ha (hQ _ _ (fun A' hA => Walks.strWide hA _ x t) ⟨_, Heap.get?_push_size _ rfl, rfl, rfl⟩)
  · exact wpAny_pyIter_ascii ha (hQ _ _ (fun A' hA => Walks.strAscii hA _ x t) ⟨_, Heap.get?_push_size _ rfl, rfl, rfl⟩)
/-- a comprehension over a text -/
theorem ListComp_str {elt iter : Expr} {x : Str} {px : Pos} {scope : Scope} {cl : List (Str × Addr)} {pos : Pos} {Q : Value → Shared → Prop} (_F₀ : Fr h₀ L s.heap m)
    (hclos : closureFor scope env = pure cl) (hcell : ∀ y ∈ scope.names, y.2 ≠ .cell) (hkind : scope.kind = .function)
    (hnames : ∀ y ∈ scope.names, y.2 = .local → scope.names.lookup y.1 = some .local) (hx : scope.names.lookup x = some .local)
    (h : wpAny (model prog w) A (eval iter env) (fun xv s₁ => ∃ y t news, xv = .str y t ∧ A.handled = none ∧ Fr h₀ L s₁.heap m ∧ News h₀ L s₁.heap news ∧ y.cps.size ≤ sizeLine ∧
      ∀ g, CompRest prog w A h₀ L m env elt x scope cl { s₁ with heap := g } (fun _ => True) (SignAt y) (FinE h₀ L m { s₁ with heap := g } Q) y.cps.size 0 [] news) E s)
    (hs : ∀ x, foldedSetIterable iter env x = pure x) :
    wpAny (model prog w) A (eval (.ListComp elt [⟨.Name x px, iter, [], 0⟩] scope pos) env) Q E s := by
  rw [eval_ListComp]
  refine wpAny_comprehension_free (use := none) rfl hs hclos hkind hnames (wpAny_mono h (fun xv s₁ h₁ => ?_) fun _ _ e => e)
  obtain ⟨y, t, news, rfl, hh, F, N, hsz, R⟩ := h₁
  refine iter_strX fun o ty W hst => ?_
  have up : ∀ b o', s₁.heap.get? b = some o' → (s₁.heap.push o).get? b = some o' := fun b o' e => Heap.get?_push_of_some _ e
  refine block_U (W A hh) hsz (fun i h st => by obtain ⟨o, e, _⟩ := st; exact ⟨o, e⟩) (fun i h h' o nw st e e' _ _ _ => by obtain ⟨o', q, r⟩ := st; rw [e] at q; cases q; exact ⟨o, e', r⟩) hcell hkind hx hst (fun b hb => ?_)
    (F.keeps up) (N.grown up) (Nat.ne_of_lt F.ns.lt) (next_is_new F) (fun p hp => Nat.ne_of_lt (Heap.lt_size (N p hp).1)) trivial (R _) ?_
  · rw [List.mem_singleton.mp hb]
    show s₁.heap.objs.size < (s₁.heap.push _).objs.size
    rw [Heap.size_push]; exact Nat.lt_succ_self _
  · intro D C h tk m' ys news' F' N' o1 hn hC₀ hD₀ hCL hDL hCD offC fin
    refine ⟨m', hn, fun h'' hs'' => fin D h'' tk (F'.change hs'' hCL hC₀) (fun p hp => ?_) o1⟩
    refine ⟨hs''.extBut _ _ ?_ (N' p hp).1, (N' p hp).2⟩
    rcases List.mem_cons.mp hp with rfl | hp
    · exact Ne.symm hCD
    · exact offC p hp
end
end

section
def bbOf (hn tn : List Int) (cb : Int) : List Int := [(hn.length : Int)] ++ hn ++ [(tn.length : Int)] ++ tn ++ [cb]
theorem bb_split (hn tn : List Int) (cb : Int) : [(hn.length : Int)] ++ hn ++ [(tn.length : Int)] ++ tn ++ [cb] = ((hn.length : Int) :: hn) ++ ((tn.length : Int) :: (tn ++ [cb])) := by simp
theorem bb_at (hn tn : List Int) (cb : Int) : ([(hn.length : Int)] ++ hn ++ [(tn.length : Int)] ++ tn ++ [cb])[0 + 1 + hn.length]? = some (tn.length : Int) := by
  rw [bb_split, List.getElem?_append_right (by simp only [List.length_cons]; omega)]
  rw [show 0 + 1 + hn.length - ((hn.length : Int) :: hn).length = 0 by simp only [List.length_cons]; omega]
  rfl
theorem bb_drop (hn tn : List Int) (cb : Int) : (([(hn.length : Int)] ++ hn ++ [(tn.length : Int)] ++ tn ++ [cb]).drop (0 + 1 + hn.length + 1)).take tn.length = tn := by
  rw [bb_split, List.drop_append]
  have h1 : ((hn.length : Int) :: hn).drop (0 + 1 + hn.length + 1) = [] := List.drop_eq_nil_of_le (by simp only [List.length_cons]; omega)
  have h2 : 0 + 1 + hn.length + 1 - ((hn.length : Int) :: hn).length = 1 := by simp only [List.length_cons]; omega
  rw [h1, h2]
  simp
theorem bb_last (hn tn : List Int) (cb : Int) : (([(hn.length : Int)] ++ hn ++ [(tn.length : Int)] ++ tn ++ [cb]).drop (0 + 1 + hn.length + 1 + tn.length)).take 2 = [cb] := by
  rw [bb_split, List.drop_append]
  have h1 : ((hn.length : Int) :: hn).drop (0 + 1 + hn.length + 1 + tn.length) = [] := List.drop_eq_nil_of_le (by simp only [List.length_cons]; omega)
  have h2 : 0 + 1 + hn.length + 1 + tn.length - ((hn.length : Int) :: hn).length = tn.length + 1 := by simp only [List.length_cons]; omega
  rw [h1, h2]
  simp
end

section
/-- the plain table -/
def lcsT (one other : List Int) : Nat → Nat → Int
  | 0, _ => 0
  | _ + 1, 0 => 0
  | k + 1, j + 1 => if one.getD k 0 = other.getD j 0 then lcsT one other k j + 1 else max (lcsT one other (k + 1) j) (lcsT one other k (j + 1))
termination_by k j => (k, j)
theorem lcsT_zero (one other : List Int) (j : Nat) : lcsT one other 0 j = 0 := by rw [lcsT]
theorem lcsT_zero' (one other : List Int) (k : Nat) : lcsT one other k 0 = 0 := by cases k <;> rw [lcsT]
theorem lcsT_succ (one other : List Int) (k j : Nat) : lcsT one other (k + 1) (j + 1) = if one.getD k 0 = other.getD j 0 then lcsT one other k j + 1 else max (lcsT one other (k + 1) j) (lcsT one other k (j + 1)) := by rw [lcsT]
theorem lcsT_mono (one other : List Int) : ∀ s k j : Nat, k + j ≤ s → (lcsT one other k j ≤ lcsT one other (k + 1) j ∧ lcsT one other (k + 1) j ≤ lcsT one other k j + 1) ∧ (lcsT one other k j ≤ lcsT one other k (j + 1) ∧ lcsT one other k (j + 1) ≤ lcsT one other k j + 1) := by
  intro s
  induction s with
  | zero =>
    intro k j h
    have hk : k = 0 := by omega
    have hj : j = 0 := by omega
    subst hk; subst hj
    simp [lcsT_zero, lcsT_zero']
  | succ s ih =>
    intro k j h
    constructor
    · cases j with
      | zero => simp [lcsT_zero']
      | succ j =>
        have a := ih k j (by omega)
        rw [lcsT_succ]
        split <;> omega
    · cases k with
      | zero => simp [lcsT_zero]
      | succ k =>
        have a := ih k j (by omega)
        rw [lcsT_succ]
        split <;> omega
theorem lcsT_h (one other : List Int) (k j : Nat) : lcsT one other k j ≤ lcsT one other (k + 1) j ∧ lcsT one other (k + 1) j ≤ lcsT one other k j + 1 := (lcsT_mono one other (k + j) k j (Nat.le_refl _)).1
theorem lcsT_v (one other : List Int) (k j : Nat) : lcsT one other k j ≤ lcsT one other k (j + 1) ∧ lcsT one other k (j + 1) ≤ lcsT one other k j + 1 := (lcsT_mono one other (k + j) k j (Nat.le_refl _)).2
theorem lcsT_symm (one other : List Int) : ∀ s k j : Nat, k + j ≤ s → lcsT one other k j = lcsT other one j k := by
  intro s
  induction s with
  | zero =>
    intro k j h
    have hk : k = 0 := by omega
    have hj : j = 0 := by omega
    subst hk; subst hj
    simp [lcsT_zero]
  | succ s ih =>
    intro k j h
    cases k with
    | zero => rw [lcsT_zero, lcsT_zero']
    | succ k =>
      cases j with
      | zero => rw [lcsT_zero, lcsT_zero']
      | succ j =>
        have a := ih k j (by omega)
        have b := ih (k + 1) j (by omega)
        have c := ih k (j + 1) (by omega)
        rw [lcsT_succ, lcsT_succ, a, b, c, Int.max_comm]
        by_cases e : one.getD k 0 = other.getD j 0
        · rw [if_pos e, if_pos e.symm]
        · rw [if_neg e, if_neg (fun q => e q.symm)]
theorem lcsT_swap (one other : List Int) (k j : Nat) : lcsT one other k j = lcsT other one j k := lcsT_symm one other (k + j) k j (Nat.le_refl _)
theorem take_more {l : List Int} {k : Nat} (h : k < l.length) : l.take (k + 1) = l.take k ++ [l.getD k 0] := by
  rw [List.take_add_one, List.getElem?_eq_getElem h]
  simp [List.getD_eq_getElem?_getD, h]
theorem sub_snoc {z l : List Int} {a : Int} (h : z.Sublist (l ++ [a])) : z.Sublist l ∨ ∃ z', z = z' ++ [a] ∧ z'.Sublist l := by
  obtain ⟨z1, z2, rfl, h1, h2⟩ := List.sublist_append_iff.mp h
  cases h2 with
  | cons _ h2 => cases h2; exact .inl (by simpa using h1)
  | cons_cons _ h2 => cases h2; exact .inr ⟨z1, rfl, h1⟩
theorem lcsT_upper (one other : List Int) : ∀ s k j : Nat, k + j ≤ s → k ≤ one.length → j ≤ other.length → ∀ z : List Int, z.Sublist (one.take k) → z.Sublist (other.take j) → (z.length : Int) ≤ lcsT one other k j := by
  intro s
  induction s with
  | zero =>
    intro k j h hk hj z h1 h2
    have e : k = 0 := by omega
    subst e
    have := h1.length_le
    simp at this
    rw [lcsT_zero, this]
    simp
  | succ s ih =>
    intro k j h hk hj z h1 h2
    cases k with
    | zero =>
      have := h1.length_le
      simp at this
      rw [lcsT_zero, this]
      simp
    | succ k =>
      cases j with
      | zero =>
        have := h2.length_le
        simp at this
        rw [lcsT_zero', this]
        simp
      | succ j =>
        have a := ih k j (by omega) (by omega) (by omega)
        have b := ih (k + 1) j (by omega) hk (by omega)
        have c := ih k (j + 1) (by omega) (by omega) hj
        have m1 := lcsT_h one other k j
        have m2 := lcsT_v one other k j
        have t1 := h1
        have t2 := h2
        rw [take_more hk] at h1
        rw [take_more hj] at h2
        rw [lcsT_succ]
        rcases sub_snoc h1 with h1 | ⟨z1, rfl, k1⟩
        · have c' := c z h1 t2
          split
          · omega
          · omega
        · rcases sub_snoc h2 with h2 | ⟨z2, e, k2⟩
          · have b' := b _ t1 h2
            split
            · omega
            · omega
          · have e1 := List.append_inj_left' e rfl
            have e2 := List.append_inj_right' e rfl
            subst e1
            have e3 : one.getD k 0 = other.getD j 0 := by simpa using e2
            rw [if_pos e3]
            have a' := a _ k1 k2
            simp only [List.length_append, List.length_cons, List.length_nil]
            omega
theorem take_sub (l : List Int) (k : Nat) : (l.take k).Sublist (l.take (k + 1)) := by
  by_cases h : k < l.length
  · rw [take_more h]; exact List.sublist_append_left _ _
  · rw [List.take_of_length_le (by omega), List.take_of_length_le (by omega)]; exact List.Sublist.refl _
theorem lcsT_lower (one other : List Int) : ∀ s k j : Nat, k + j ≤ s → k ≤ one.length → j ≤ other.length → ∃ z : List Int, z.Sublist (one.take k) ∧ z.Sublist (other.take j) ∧ (z.length : Int) = lcsT one other k j := by
  intro s
  induction s with
  | zero =>
    intro k j h hk hj
    have e : k = 0 := by omega
    subst e
    exact ⟨[], List.nil_sublist _, List.nil_sublist _, by rw [lcsT_zero]; rfl⟩
  | succ s ih =>
    intro k j h hk hj
    cases k with
    | zero => exact ⟨[], List.nil_sublist _, List.nil_sublist _, by rw [lcsT_zero]; rfl⟩
    | succ k =>
      cases j with
      | zero => exact ⟨[], List.nil_sublist _, List.nil_sublist _, by rw [lcsT_zero']; rfl⟩
      | succ j =>
        obtain ⟨z1, a1, a2, a3⟩ := ih k j (by omega) (by omega) (by omega)
        obtain ⟨z2, b1, b2, b3⟩ := ih (k + 1) j (by omega) hk (by omega)
        obtain ⟨z3, c1, c2, c3⟩ := ih k (j + 1) (by omega) (by omega) hj
        rw [lcsT_succ]
        by_cases e : one.getD k 0 = other.getD j 0
        · rw [if_pos e]
          refine ⟨z1 ++ [one.getD k 0], ?_, ?_, ?_⟩
          · rw [take_more hk]; exact List.Sublist.append a1 (List.Sublist.refl _)
          · rw [take_more hj, ← e]; exact List.Sublist.append a2 (List.Sublist.refl _)
          · simp only [List.length_append, List.length_cons, List.length_nil]; omega
        · rw [if_neg e]
          rcases Int.le_total (lcsT one other (k + 1) j) (lcsT one other k (j + 1)) with q | q
          · rw [Int.max_eq_right q]
            exact ⟨z3, c1.trans (take_sub _ _), c2, c3⟩
          · rw [Int.max_eq_left q]
            exact ⟨z2, b1, b2.trans (take_sub _ _), b3⟩
/-- the longest row in both -/
def lcsLen (one other : List Int) : Int := lcsT one other one.length other.length
theorem lcsLen_upper {one other z : List Int} (h1 : z.Sublist one) (h2 : z.Sublist other) : (z.length : Int) ≤ lcsLen one other :=
  lcsT_upper one other _ _ _ (Nat.le_refl _) (Nat.le_refl _) (Nat.le_refl _) z (by rw [List.take_length]; exact h1) (by rw [List.take_length]; exact h2)
theorem lcsLen_lower (one other : List Int) : ∃ z : List Int, z.Sublist one ∧ z.Sublist other ∧ (z.length : Int) = lcsLen one other := by
  obtain ⟨z, h1, h2, h3⟩ := lcsT_lower one other _ _ _ (Nat.le_refl _) (Nat.le_refl _) (Nat.le_refl _)
  rw [List.take_length] at h1 h2
  exact ⟨z, h1, h2, h3⟩
end

section
open PySem PySem.W PyProof.Rows PySem.Calls
theorem getD_app_lt {l : List Int} {a : Int} {i : Nat} (h : i < l.length) : (l ++ [a]).getD i 0 = l.getD i 0 := by
  simp [List.getD_eq_getElem?_getD, List.getElem?_append_left h]
theorem getD_app_eq {l : List Int} {a : Int} {i : Nat} (h : i = l.length) : (l ++ [a]).getD i 0 = a := by
  subst h; simp [List.getD_eq_getElem?_getD]
theorem fresh_lcs {one other row : List Int} {letter : Int} {j : Nat} (hr : ∀ i, i ≤ one.length → row.getD i 0 = lcsT one other i j) (hl : other.getD j 0 = letter) :
    ∀ k, k ≤ one.length → ∀ i, i ≤ k → (freshOf one row letter k).getD i 0 = lcsT one other i (j + 1) := by
  intro k
  induction k with
  | zero =>
    intro _ i hi
    have e : i = 0 := by omega
    subst e
    rw [lcsT_zero]; rfl
  | succ k ih =>
    intro hk i hi
    have L := freshOf_len one row letter k
    rw [freshOf]
    by_cases h : i ≤ k
    · rw [getD_app_lt (by omega)]; exact ih (by omega) i h
    · have e : i = k + 1 := by omega
      subst e
      rw [getD_app_eq (by omega), cellOf, lcsT_succ, hr k (by omega), hr (k + 1) hk, ih (by omega) k (Nat.le_refl _), hl]
theorem tab_lcs (one other : List Int) : ∀ i, i ≤ other.length → (∀ k, k ≤ one.length → ((other.take i).foldl (tabStep one) (tabInit one)).1.getD k 0 = lcsT one other k i) ∧ (∀ j, j ≤ i → ((other.take i).foldl (tabStep one) (tabInit one)).2.getD j 0 = lcsT one other one.length j) ∧ ((other.take i).foldl (tabStep one) (tabInit one)).2.length = i + 1 := by
  intro i
  induction i with
  | zero =>
    intro _
    refine ⟨fun k hk => ?_, fun j hj => ?_, rfl⟩
    · rw [lcsT_zero']
      simp only [List.take_zero, List.foldl_nil, tabInit, List.getD_eq_getElem?_getD, List.getElem?_replicate]
      split <;> rfl
    · have e : j = 0 := by omega
      subst e
      rw [lcsT_zero']; rfl
  | succ i ih =>
    intro hi
    obtain ⟨h1, h2, h3⟩ := ih (by omega)
    have hg : other[i]? = some other[i] := List.getElem?_eq_getElem (by omega)
    have hl : other.getD i 0 = other[i] := by rw [List.getD_eq_getElem?_getD, hg]; rfl
    rw [tab_take hg]
    have F := fresh_lcs h1 hl one.length (Nat.le_refl _)
    refine ⟨F, fun j hj => ?_, ?_⟩
    · simp only [tabStep]
      by_cases h : j ≤ i
      · rw [getD_app_lt (by omega)]; exact h2 j h
      · have e : j = i + 1 := by omega
        subst e
        rw [getD_app_eq (by omega)]
        exact F _ (Nat.le_refl _)
    · simp only [tabStep, List.length_append, List.length_cons, List.length_nil]; omega
theorem list_by {l : List Int} {n : Nat} {f : Nat → Int} (hl : l.length = n) (h : ∀ k, k < n → l.getD k 0 = f k) : l = (List.range n).map f := by
  refine List.ext_getElem (by simp [hl]) fun i h1 h2 => ?_
  have := h i (by omega)
  rw [List.getD_eq_getElem?_getD, List.getElem?_eq_getElem h1] at this
  simpa using this
theorem tab_one (one other : List Int) : (tabOf one other).1 = (List.range (one.length + 1)).map fun k => lcsT one other k other.length := by
  have T := tab_lcs one other other.length (Nat.le_refl _)
  rw [List.take_length] at T
  exact list_by (tabFold_len one other (tabInit one) (by simp)).1 fun k hk => T.1 k (by omega)
theorem tab_two (one other : List Int) : (tabOf one other).2 = (List.range (other.length + 1)).map fun j => lcsT one other one.length j := by
  have T := tab_lcs one other other.length (Nat.le_refl _)
  rw [List.take_length] at T
  exact list_by T.2.2 fun k hk => T.2.1 k (by omega)
theorem tab_swap (one other : List Int) : (tabOf one other).2 = (tabOf other one).1 := by
  rw [tab_one, tab_two]
  refine List.map_congr_left fun j _ => ?_
  exact lcsT_swap _ _ _ _
theorem maskN_bit : ∀ (ns : List Int) (x : Int) (k : Nat), (maskN ns x).testBit k = (decide (k < ns.length) && decide (ns.getD k 0 = x))
  | [], x, k => by simp [maskN]
  | a :: r, x, 0 => by
    rw [maskN, Nat.testBit_zero]
    by_cases h : a = x
    · simp [h]
    · simp [h]
  | a :: r, x, k + 1 => by
    rw [maskN, Nat.testBit_succ]
    have e : ((if a = x then 1 else 0) + 2 * maskN r x) / 2 = maskN r x := by split <;> omega
    rw [e, maskN_bit r x k]
    simp
theorem maskN_lt : ∀ (ns : List Int) (x : Int), maskN ns x < 2 ^ ns.length
  | [], x => by simp [maskN]
  | a :: r, x => by
    have := maskN_lt r x
    rw [maskN, List.length_cons, Nat.pow_succ]
    split <;> omega
theorem bv_sub {w : Nat} (V M : BitVec w) : V.toNat - (V.toNat &&& M.toNat) = (V &&& ~~~M).toNat := by
  have h : (V &&& M) &&& (V &&& ~~~M) = 0#w := by
    ext i hi
    simp
    grind
  have h2 : (V &&& M) ||| (V &&& ~~~M) = V := by
    ext i hi
    simp
    grind
  have h3 := BitVec.toNat_add_of_and_eq_zero h
  rw [BitVec.add_eq_or_of_and_eq_zero _ _ h, h2, BitVec.toNat_and] at h3
  omega
theorem bitOr_nat (a b : Nat) : Builtin.bitOr (a : Int) (b : Int) = ((a ||| b : Nat) : Int) := by
  rw [bitOr_and, bitAnd_pp (by omega) (by omega)]
  have := nat_or_add_and a b
  simp only [Int.toNat_natCast]
  omega
theorem step_bv {ns : List Int} (hn : ns.length ≤ 12) (V : BitVec 12) (letter : Int) :
    stepOf ns (V.toNat : Int) letter = (((V + (V &&& BitVec.ofNat 12 (maskN ns letter))) ||| (V &&& ~~~ BitVec.ofNat 12 (maskN ns letter))).toNat : Int) := by
  have hM : maskN ns letter < 2 ^ 12 := Nat.lt_of_lt_of_le (maskN_lt ns letter) (Nat.pow_le_pow_right (by decide) hn)
  unfold stepOf
  dsimp only
  generalize maskN ns letter = M at hM
  have eM : (BitVec.ofNat 12 M).toNat = M := by rw [BitVec.toNat_ofNat, Nat.mod_eq_of_lt hM]
  have e1 : Builtin.bitAnd (V.toNat : Int) (M : Int) = ((V.toNat &&& M : Nat) : Int) := by
    rw [bitAnd_pp (by omega) (by omega)]; simp
  have hle : V.toNat &&& M ≤ V.toNat := Nat.and_le_left
  have e2 : (V.toNat : Int) - ((V.toNat &&& M : Nat) : Int) = (((V &&& ~~~ BitVec.ofNat 12 M).toNat : Nat) : Int) := by
    rw [← bv_sub, eM]; omega
  have e3 : ∀ x : Nat, Builtin.bitAnd (x : Int) 4095 = ((x % 2 ^ 12 : Nat) : Int) := by
    intro x
    rw [bitAnd_pp (by omega) (by decide)]
    have := Nat.and_two_pow_sub_one_eq_mod x 12
    exact congrArg Nat.cast this
  have e4 : (V &&& BitVec.ofNat 12 M).toNat = V.toNat &&& M := by rw [BitVec.toNat_and, eM]
  rw [e1, e2, ← Int.natCast_add, bitOr_nat, e3, Nat.or_mod_two_pow, BitVec.toNat_or, BitVec.toNat_add, e4, Nat.mod_eq_of_lt (BitVec.isLt (V &&& ~~~BitVec.ofNat 12 M))]
/-- the bit that the machine keeps at place k after j letters -/
def vbit (one other : List Int) (j k : Nat) : Bool := !(decide (k < one.length) && decide (lcsT one other (k + 1) j ≠ lcsT one other k j))
def hbit (one other : List Int) (j k : Nat) : Bool := decide (lcsT one other k (j + 1) ≠ lcsT one other k j)
theorem bits_step {one other : List Int} {j : Nat} {V : BitVec 12} (hV : ∀ k, k < 12 → V.getLsbD k = vbit one other j k) (hn : one.length ≤ 12) :
    ∀ k, k < 12 → ((V + (V &&& BitVec.ofNat 12 (maskN one (other.getD j 0)))) ||| (V &&& ~~~ BitVec.ofNat 12 (maskN one (other.getD j 0)))).getLsbD k = vbit one other (j + 1) k := by
  have hM : ∀ k, k < 12 → (BitVec.ofNat 12 (maskN one (other.getD j 0))).getLsbD k = (decide (k < one.length) && decide (one.getD k 0 = other.getD j 0)) := by
    intro k hk
    rw [BitVec.getLsbD_ofNat, maskN_bit]
    simp [hk]
  generalize BitVec.ofNat 12 (maskN one (other.getD j 0)) = M at hM
  have carry : ∀ k, k ≤ one.length → BitVec.carry k V (V &&& M) false = hbit one other j k := by
    intro k
    induction k with
    | zero => intro _; simp [hbit, lcsT_zero, BitVec.carry]; omega
    | succ k ih =>
      intro hk
      rw [BitVec.carry_succ, ih (by omega), BitVec.getLsbD_and, hV k (by omega), hM k (by omega)]
      have a := lcsT_h one other k j
      have b := lcsT_h one other k (j + 1)
      have c := lcsT_v one other k j
      have d := lcsT_v one other (k + 1) j
      have e := lcsT_succ one other k j
      have hkn : k < one.length := by omega
      simp only [vbit, hbit, hkn, decide_true, Bool.true_and]
      by_cases q : one.getD k 0 = other.getD j 0
      · rw [if_pos q] at e
        simp only [q, decide_true, Bool.and_true]
        by_cases r : lcsT one other (k + 1) j = lcsT one other k j
        · have : lcsT one other (k + 1) (j + 1) ≠ lcsT one other (k + 1) j := by omega
          simp [r, Bool.atLeastTwo]; omega
        · have : lcsT one other (k + 1) (j + 1) = lcsT one other (k + 1) j := by omega
          simp [r, this, Bool.atLeastTwo]
      · rw [if_neg q] at e
        simp only [q, decide_false, Bool.and_false]
        by_cases r : lcsT one other (k + 1) j = lcsT one other k j
        · by_cases t : lcsT one other k (j + 1) = lcsT one other k j
          · have : lcsT one other (k + 1) (j + 1) = lcsT one other k j := by omega
            simp [r, t, this, Bool.atLeastTwo]
          · have : lcsT one other (k + 1) (j + 1) ≠ lcsT one other k j := by omega
            simp [r, t, this, Bool.atLeastTwo]
        · have : lcsT one other (k + 1) (j + 1) = lcsT one other (k + 1) j := by omega
          simp [r, this, Bool.atLeastTwo]
  intro k hk
  rw [BitVec.getLsbD_or, BitVec.getLsbD_add hk, BitVec.getLsbD_and, BitVec.getLsbD_and, BitVec.getLsbD_not, hV k hk, hM k hk]
  by_cases hkn : k < one.length
  · rw [carry k (by omega)]
    have a := lcsT_h one other k j
    have b := lcsT_h one other k (j + 1)
    have c := lcsT_v one other k j
    have d := lcsT_v one other (k + 1) j
    have e := lcsT_succ one other k j
    simp only [vbit, hbit, hkn, hk, decide_true, Bool.true_and]
    by_cases q : one.getD k 0 = other.getD j 0
    · rw [if_pos q] at e
      rw [decide_eq_true q]
      by_cases t : lcsT one other k (j + 1) = lcsT one other k j
      · have : lcsT one other (k + 1) (j + 1) ≠ lcsT one other k (j + 1) := by omega
        simp [t] at this ⊢; omega
      · have : lcsT one other (k + 1) (j + 1) = lcsT one other k (j + 1) := by omega
        simp [t, this]
    · rw [if_neg q] at e
      rw [decide_eq_false q]
      by_cases r : lcsT one other (k + 1) j = lcsT one other k j
      · have : lcsT one other (k + 1) (j + 1) = lcsT one other k (j + 1) := by omega
        simp [r, this]
      · by_cases t : lcsT one other k (j + 1) = lcsT one other k j
        · have : lcsT one other (k + 1) (j + 1) ≠ lcsT one other k j := by omega
          simp [r, t, this]
        · have : lcsT one other (k + 1) (j + 1) = lcsT one other k (j + 1) := by omega
          simp [r, t, this]
  · simp [vbit, hkn, hk]
/-- the machine's rights after all letters -/
theorem bits_all {one other : List Int} (hn : one.length ≤ 12) : ∀ j, j ≤ other.length → ∃ V : BitVec 12, (other.take j).foldl (stepOf one) 4095 = (V.toNat : Int) ∧ ∀ k, k < 12 → V.getLsbD k = vbit one other j k := by
  intro j
  induction j with
  | zero =>
    intro _
    refine ⟨4095#12, rfl, fun k hk => ?_⟩
    have : (4095#12).getLsbD k = true := by
      have : k = 0 ∨ k = 1 ∨ k = 2 ∨ k = 3 ∨ k = 4 ∨ k = 5 ∨ k = 6 ∨ k = 7 ∨ k = 8 ∨ k = 9 ∨ k = 10 ∨ k = 11 := by omega
      rcases this with rfl | rfl | rfl | rfl | rfl | rfl | rfl | rfl | rfl | rfl | rfl | rfl <;> decide
    rw [this]
    simp [vbit, lcsT_zero']
  | succ j ih =>
    intro hj
    obtain ⟨V, h1, h2⟩ := ih (by omega)
    have hg : other[j]? = some other[j] := List.getElem?_eq_getElem (by omega)
    have hl : other.getD j 0 = other[j] := by rw [List.getD_eq_getElem?_getD, hg]; rfl
    refine ⟨_, ?_, bits_step h2 hn⟩
    rw [List.take_add_one, hg, Option.toList_some, List.foldl_append, h1, List.foldl_cons, List.foldl_nil, step_bv hn, hl]
theorem bits_end {one other : List Int} (hn : one.length ≤ 12) : ∃ V : BitVec 12, other.foldl (stepOf one) 4095 = (V.toNat : Int) ∧ ∀ k, k < 12 → V.getLsbD k = vbit one other other.length k := by
  have := bits_all (other := other) hn other.length (Nat.le_refl _)
  rwa [List.take_length] at this
end

section
open PySem PySem.W PyProof.Rows PySem.Calls
theorem tab_len1 (one other : List Int) : (tabOf one other).1.length = one.length + 1 := (tabFold_len one other (tabInit one) (by simp)).1
theorem tab_len2 (one other : List Int) : (tabOf one other).2.length = other.length + 1 := by rw [tab_swap, tab_len1]
theorem tab_at (one other : List Int) {k : Nat} (h : k ≤ one.length) : (tabOf one other).1.getD k 0 = lcsT one other k other.length := by
  rw [tab_one]
  simp [List.getD_eq_getElem?_getD, show k < one.length + 1 by omega]
theorem lacks_at {one other : List Int} (k : Nat) : (lacksOf (tabOf one other).1).getD k 0 = if k < one.length then lcsT one other (k + 1) other.length - lcsT one other k other.length else 0 := by
  have hl := tab_len1 one other
  unfold lacksOf
  rw [hl]
  by_cases h : k < one.length
  · rw [if_pos h, List.getD_eq_getElem?_getD, List.getElem?_append_left (by simp; omega)]
    simp only [Nat.add_sub_cancel, List.getElem?_map, List.getElem?_range h, Option.map_some, Option.getD_some]
    rw [tab_at one other (by omega), tab_at one other (by omega)]
  · rw [if_neg h, List.getD_eq_getElem?_getD, List.getElem?_append_right (by simp; omega), List.getElem?_replicate]
    split <;> rfl
theorem lacks_bit {one other : List Int} (k : Nat) : (lacksOf (tabOf one other).1).getD k 0 = if vbit one other other.length k = true then 0 else 1 := by
  rw [lacks_at, vbit]
  have := lcsT_h one other k other.length
  by_cases h : k < one.length
  · by_cases e : lcsT one other (k + 1) other.length = lcsT one other k other.length
    · simp [h, e]
    · simp [h, e]; omega
  · simp [h]
theorem lacks_01 {one other : List Int} (_hn : one.length ≤ 12) (k : Nat) : 0 ≤ (lacksOf (tabOf one other).1).getD k 0 ∧ (lacksOf (tabOf one other).1).getD k 0 ≤ 1 := by
  rw [lacks_bit]; split <;> decide
theorem lacks_02 {one other : List Int} (hn : other.length ≤ 12) (k : Nat) : 0 ≤ (lacksOf (tabOf one other).2).getD k 0 ∧ (lacksOf (tabOf one other).2).getD k 0 ≤ 1 := by
  rw [tab_swap]; exact lacks_01 hn k
/-- a mask of the low twelve bits -/
theorem mode_low {kd V m : Nat} (hV : V < 2 ^ 12) (hm : m < 2 ^ 12) : (4096 * kd + V) &&& m = V &&& m := by
  refine Nat.eq_of_testBit_eq fun i => ?_
  rw [Nat.testBit_and, Nat.testBit_and, show 4096 * kd + V = 2 ^ 12 * kd + V from rfl, Nat.testBit_two_pow_mul_add _ hV]
  by_cases h : i < 12
  · rw [if_pos h]
  · have : m.testBit i = false := Nat.testBit_lt_two_pow (Nat.lt_of_lt_of_le hm (Nat.pow_le_pow_right (by decide) (by omega)))
    rw [this]; simp
theorem mode_high {kd V : Nat} (hV : V < 2 ^ 12) (hk : kd < 16) : (4096 * kd + V) &&& 61440 = 4096 * kd := by
  refine Nat.eq_of_testBit_eq fun i => ?_
  rw [Nat.testBit_and, show 4096 * kd + V = 2 ^ 12 * kd + V from rfl, Nat.testBit_two_pow_mul_add _ hV, show 61440 = 2 ^ 12 * 15 + 0 from rfl, Nat.testBit_two_pow_mul_add _ (by decide), show 4096 * kd = 2 ^ 12 * kd + 0 from rfl, Nat.testBit_two_pow_mul_add _ (by decide)]
  by_cases h : i < 12
  · simp [h]
  · simp only [h, if_false]
    rw [show 15 = 2 ^ 4 - 1 from rfl, Nat.testBit_two_pow_sub_one]
    by_cases q : i - 12 < 4
    · simp [q]
    · have : kd.testBit (i - 12) = false := Nat.testBit_lt_two_pow (Nat.lt_of_lt_of_le hk (Nat.pow_le_pow_right (n := 2) (by decide) (show 4 ≤ i - 12 by omega)))
      simp [this]
theorem and_bit {V i : Nat} : (V &&& 2 ^ i == 2 ^ i) = V.testBit i := by
  cases h : V.testBit i with
  | true =>
    have : V &&& 2 ^ i = 2 ^ i := by
      refine Nat.eq_of_testBit_eq fun j => ?_
      rw [Nat.testBit_and, Nat.testBit_two_pow]
      by_cases e : i = j
      · subst e; simp [h]
      · simp [e]
    simp [this]
  | false =>
    have : (V &&& 2 ^ i).testBit i = false := by rw [Nat.testBit_and, h]; rfl
    cases q : (V &&& 2 ^ i == 2 ^ i) with
    | false => rfl
    | true =>
      rw [eq_of_beq q, Nat.testBit_two_pow] at this
      simp at this
theorem and_two {V m i j : Nat} (hm : m < 2 ^ 12) (hb : ∀ k, k < 12 → m.testBit k = (decide (k = i) || decide (k = j))) (hi : i < 12) (hj : j < 12) : (V &&& m == m) = (V.testBit i && V.testBit j) := by
  have bits : ∀ k, m.testBit k = (decide (k = i) || decide (k = j)) := by
    intro k
    by_cases h : k < 12
    · exact hb k h
    · rw [Nat.testBit_lt_two_pow (Nat.lt_of_lt_of_le hm (Nat.pow_le_pow_right (by decide) (by omega)))]
      have h1 : k ≠ i := by omega
      have h2 : k ≠ j := by omega
      simp [h1, h2]
  cases q : (V &&& m == m) with
  | true =>
    have e := eq_of_beq q
    have a := congrArg (·.testBit i) e
    have b := congrArg (·.testBit j) e
    simp only [Nat.testBit_and, bits] at a b
    simp at a b
    simp [a, b]
  | false =>
    cases a : V.testBit i with
    | false => rfl
    | true =>
      cases b : V.testBit j with
      | false => rfl
      | true =>
        exfalso
        have : V &&& m = m := by
          refine Nat.eq_of_testBit_eq fun k => ?_
          rw [Nat.testBit_and, bits]
          by_cases e1 : k = i
          · subst e1; simp [a]
          · by_cases e2 : k = j
            · subst e2; simp [b]
            · simp [e1, e2]
        rw [this] at q
        simp at q
theorem test_low {k V m : Nat} {i : Nat} {q : Bc} (hi : i ≠ 0) (hV : V < 2 ^ 12) (hq : q.bit = (m : Int)) (hm : m < 2 ^ 12) : bcTest i ((4096 * k + V : Nat) : Int) q = (V &&& m == m) := by
  unfold bcTest
  rw [if_neg hi, hq, bitAnd_pp (by omega) (by omega)]
  simp only [Int.toNat_natCast]
  rw [mode_low hV hm]
  cases h : (V &&& m == m) with
  | true => rw [eq_of_beq h]; simp
  | false =>
    rw [beq_eq_false_iff_ne] at h ⊢
    intro e
    exact h (by exact_mod_cast e)
/-- the character of a kind -/
def kindChar (k : Nat) : Str := bcPick 0 ((4096 * k : Nat) : Int) ((fmTab.getD 0 (0, [], [])).2.2)
theorem char_zero {k V : Nat} (hV : V < 2 ^ 12) (hk : k < 16) : fmChar ((4096 * k + V : Nat) : Int) 0 = kindChar k := by
  unfold fmChar kindChar bcPick
  have : bcTest 0 ((4096 * k + V : Nat) : Int) = bcTest 0 ((4096 * k : Nat) : Int) := by
    funext q
    unfold bcTest
    rw [if_pos rfl, if_pos rfl, bitAnd_pp (by omega) (by decide), bitAnd_pp (by omega) (by decide)]
    simp only [Int.toNat_natCast]
    rw [show (61440 : Int).toNat = 61440 from rfl, mode_high hV hk]
    have := mode_high (kd := k) (V := 0) (by decide) hk
    rw [Nat.add_zero] at this
    rw [this]
  rw [this]
theorem kind_char (k : Nat) (hk : k < 16) : Txt.item (Str.ofString "?pc?d?b?-?l?s???") (Int.fmod (k : Int) 16) = kindChar k := by
  have : ∀ j : Fin 16, Txt.item (Str.ofString "?pc?d?b?-?l?s???") (Int.fmod (j.val : Int) 16) = kindChar j.val := by decide +kernel
  exact this ⟨k, hk⟩
theorem pick_one {i : Nat} {mode : Int} {q : Bc} {b : Bool} (hi : i ≠ 0) (h : bcTest i mode q = b) : bcPick i mode [q] = if b = true then q.ch else Str.ofString "-" := by
  unfold bcPick
  rw [List.find?_cons, h]
  cases b <;> simp [hi]
theorem pick_three {i : Nat} {mode : Int} {p q r : Bc} {a b c : Bool} (hi : i ≠ 0) (h1 : bcTest i mode p = a) (h2 : bcTest i mode q = b) (h3 : bcTest i mode r = c) : bcPick i mode [p, q, r] = if a = true then p.ch else if b = true then q.ch else if c = true then r.ch else Str.ofString "-" := by
  unfold bcPick
  rw [List.find?_cons, h1, List.find?_cons, h2, List.find?_cons, h3]
  cases a <;> cases b <;> cases c <;> simp [hi]
theorem join_ten (c0 c1 c2 c3 c4 c5 c6 c7 c8 c9 : Str) : Txt.join (Str.ofString "") [c0, c1, c2, c3, c4, c5, c6, c7, c8, c9] = (((((c0 ++ (c1 ++ c2)) ++ c3) ++ (c4 ++ c5)) ++ c6) ++ (c7 ++ c8)) ++ c9 := by
  have e : ∀ a b : Str, a ++ b = ⟨a.cps ++ b.cps⟩ := fun _ _ => rfl
  have z : (Str.ofString "").cps = #[] := by decide +kernel
  simp only [Txt.join, Builtin.Str.glued, e, z]
  simp
theorem shown_one {one other : List Int} {kd : Int} (hn : one.length ≤ 12) (hk : 0 ≤ kd ∧ kd < 16) :
    Txt.join (Str.ofString "") ((List.range 10).map (fmChar (4096 * kd + other.foldl (stepOf one) 4095))) = listing kd (lacksOf (tabOf one other).1) := by
  obtain ⟨V, hV, hb⟩ := bits_end (other := other) hn
  obtain ⟨k, rfl⟩ : ∃ k : Nat, kd = (k : Int) := ⟨kd.toNat, by omega⟩
  have hk16 : k < 16 := by omega
  have hVl : V.toNat < 2 ^ 12 := V.isLt
  have hbit : ∀ i, i < 12 → V.toNat.testBit i = vbit one other other.length i := fun i hi => hb i hi
  rw [hV, show 4096 * (k : Int) + ((V.toNat : Nat) : Int) = ((4096 * k + V.toNat : Nat) : Int) by omega]
  generalize V.toNat = v at hVl hbit
  have T1 : ∀ (i j : Nat) (q : Bc), i ≠ 0 → j < 12 → q.bit = ((2 ^ j : Nat) : Int) → bcTest i ((4096 * k + v : Nat) : Int) q = vbit one other other.length j := by
    intro i j q hi hj hq
    rw [test_low hi hVl hq (Nat.pow_lt_pow_right (by decide) hj), and_bit, hbit j hj]
  have T2 : ∀ (i m a b : Nat) (q : Bc), i ≠ 0 → a < 12 → b < 12 → m < 2 ^ 12 → (∀ k, k < 12 → m.testBit k = (decide (k = a) || decide (k = b))) → q.bit = (m : Int) → bcTest i ((4096 * k + v : Nat) : Int) q = (vbit one other other.length a && vbit one other other.length b) := by
    intro i m a b q hi ha hb' hm hmb hq
    rw [test_low hi hVl hq hm, and_two hm hmb ha hb', hbit a ha, hbit b hb']
  show Txt.join (Str.ofString "") [fmChar _ 0, fmChar _ 1, fmChar _ 2, fmChar _ 3, fmChar _ 4, fmChar _ 5, fmChar _ 6, fmChar _ 7, fmChar _ 8, fmChar _ 9] = _
  rw [join_ten, char_zero hVl hk16, ← kind_char k hk16]
  have L := fun j => lacks_bit (one := one) (other := other) j
  have c1 : fmChar ((4096 * k + v : Nat) : Int) 1 = Txt.item (Str.ofString "r-") ((lacksOf (tabOf one other).1).getD 8 0) := by
    rw [L]
    refine (pick_one (by decide) (T1 1 8 _ (by decide) (by decide) rfl)).trans ?_
    cases vbit one other other.length 8 <;> decide +kernel
  have c2 : fmChar ((4096 * k + v : Nat) : Int) 2 = Txt.item (Str.ofString "w-") ((lacksOf (tabOf one other).1).getD 7 0) := by
    rw [L]
    refine (pick_one (by decide) (T1 2 7 _ (by decide) (by decide) rfl)).trans ?_
    cases vbit one other other.length 7 <;> decide +kernel
  have c4 : fmChar ((4096 * k + v : Nat) : Int) 4 = Txt.item (Str.ofString "r-") ((lacksOf (tabOf one other).1).getD 5 0) := by
    rw [L]
    refine (pick_one (by decide) (T1 4 5 _ (by decide) (by decide) rfl)).trans ?_
    cases vbit one other other.length 5 <;> decide +kernel
  have c5 : fmChar ((4096 * k + v : Nat) : Int) 5 = Txt.item (Str.ofString "w-") ((lacksOf (tabOf one other).1).getD 4 0) := by
    rw [L]
    refine (pick_one (by decide) (T1 5 4 _ (by decide) (by decide) rfl)).trans ?_
    cases vbit one other other.length 4 <;> decide +kernel
  have c7 : fmChar ((4096 * k + v : Nat) : Int) 7 = Txt.item (Str.ofString "r-") ((lacksOf (tabOf one other).1).getD 2 0) := by
    rw [L]
    refine (pick_one (by decide) (T1 7 2 _ (by decide) (by decide) rfl)).trans ?_
    cases vbit one other other.length 2 <;> decide +kernel
  have c8 : fmChar ((4096 * k + v : Nat) : Int) 8 = Txt.item (Str.ofString "w-") ((lacksOf (tabOf one other).1).getD 1 0) := by
    rw [L]
    refine (pick_one (by decide) (T1 8 1 _ (by decide) (by decide) rfl)).trans ?_
    cases vbit one other other.length 1 <;> decide +kernel
  have c3 : fmChar ((4096 * k + v : Nat) : Int) 3 = Txt.item (Str.ofString "sSx-") ((lacksOf (tabOf one other).1).getD 6 0 + 2 * (lacksOf (tabOf one other).1).getD 11 0) := by
    rw [L, L]
    refine (pick_three (by decide) (T2 3 2112 6 11 _ (by decide) (by decide) (by decide) (by decide) (by decide) rfl) (T1 3 11 _ (by decide) (by decide) rfl) (T1 3 6 _ (by decide) (by decide) rfl)).trans ?_
    cases vbit one other other.length 6 <;> cases vbit one other other.length 11 <;> decide +kernel
  have c6 : fmChar ((4096 * k + v : Nat) : Int) 6 = Txt.item (Str.ofString "sSx-") ((lacksOf (tabOf one other).1).getD 3 0 + 2 * (lacksOf (tabOf one other).1).getD 10 0) := by
    rw [L, L]
    refine (pick_three (by decide) (T2 6 1032 3 10 _ (by decide) (by decide) (by decide) (by decide) (by decide) rfl) (T1 6 10 _ (by decide) (by decide) rfl) (T1 6 3 _ (by decide) (by decide) rfl)).trans ?_
    cases vbit one other other.length 3 <;> cases vbit one other other.length 10 <;> decide +kernel
  have c9 : fmChar ((4096 * k + v : Nat) : Int) 9 = Txt.item (Str.ofString "tTx-") ((lacksOf (tabOf one other).1).getD 0 0 + 2 * (lacksOf (tabOf one other).1).getD 9 0) := by
    rw [L, L]
    refine (pick_three (by decide) (T2 9 513 0 9 _ (by decide) (by decide) (by decide) (by decide) (by decide) rfl) (T1 9 9 _ (by decide) (by decide) rfl) (T1 9 0 _ (by decide) (by decide) rfl)).trans ?_
    cases vbit one other other.length 0 <;> cases vbit one other other.length 9 <;> decide +kernel
  rw [c1, c2, c3, c4, c5, c6, c7, c8, c9]
  rfl
theorem shown_two {one other : List Int} {kd : Int} (hn : other.length ≤ 12) (hk : 0 ≤ kd ∧ kd < 16) :
    Txt.join (Str.ofString "") ((List.range 10).map (fmChar (4096 * kd + one.foldl (stepOf other) 4095))) = listing kd (lacksOf (tabOf one other).2) := by
  rw [tab_swap]; exact shown_one hn hk
end

section
/-- the places below k at which a row has a letter for the second time -/
def dblTo (row : List Int) (k : Nat) : List Int := ((List.range k).filter fun i => decide (row.getD i 0 ∈ row.take i)).map fun (i : Nat) => (i : Int)
theorem dblTo_zero (row : List Int) : dblTo row 0 = [] := rfl
theorem dblTo_yes {row : List Int} {k : Nat} (h : row.getD k 0 ∈ row.take k) : dblTo row (k + 1) = dblTo row k ++ [(k : Int)] := by
  simp only [dblTo, List.range_succ, List.filter_append, List.map_append, List.filter_cons, List.filter_nil, decide_eq_true h, if_true, List.map_cons, List.map_nil]
theorem dblTo_no {row : List Int} {k : Nat} (h : row.getD k 0 ∉ row.take k) : dblTo row (k + 1) = dblTo row k := by
  simp only [dblTo, List.range_succ, List.filter_append, List.map_append, List.filter_cons, List.filter_nil, decide_eq_false h, Bool.false_eq_true, if_false, List.map_nil, List.append_nil]
theorem dblTo_len (row : List Int) (k : Nat) : (dblTo row k).length ≤ k := by
  have := List.length_filter_le (fun i => decide (row.getD i 0 ∈ row.take i)) (List.range k)
  simp only [dblTo, List.length_map]
  rw [List.length_range] at this
  exact this
/-- the places of the first row's letters that the second has too, each letter once -/
def comTo (row other : List Int) (k : Nat) : List Int := ((List.range k).filter fun i => decide (row.getD i 0 ∈ other ∧ row.getD i 0 ∉ row.take i)).map fun (i : Nat) => (i : Int)
theorem comTo_zero (row other : List Int) : comTo row other 0 = [] := rfl
theorem comTo_yes {row other : List Int} {k : Nat} (h : row.getD k 0 ∈ other) (h2 : row.getD k 0 ∉ row.take k) : comTo row other (k + 1) = comTo row other k ++ [(k : Int)] := by
  simp only [comTo, List.range_succ, List.filter_append, List.map_append, List.filter_cons, List.filter_nil, decide_eq_true (And.intro h h2), if_true, List.map_cons, List.map_nil]
theorem comTo_no {row other : List Int} {k : Nat} (h : ¬ (row.getD k 0 ∈ other ∧ row.getD k 0 ∉ row.take k)) : comTo row other (k + 1) = comTo row other k := by
  simp only [comTo, List.range_succ, List.filter_append, List.map_append, List.filter_cons, List.filter_nil, decide_eq_false h, Bool.false_eq_true, if_false, List.map_nil, List.append_nil]
theorem comTo_len (row other : List Int) (k : Nat) : (comTo row other k).length ≤ k := by
  have := List.length_filter_le (fun i => decide (row.getD i 0 ∈ other ∧ row.getD i 0 ∉ row.take i)) (List.range k)
  simp only [comTo, List.length_map]
  rw [List.length_range] at this
  exact this
def dblAll (one other : List Int) : Nat → List Int
  | 0 => []
  | 1 => dblTo one one.length
  | _ => dblTo one one.length ++ dblTo other other.length
theorem dblAll_len {one other : List Int} (h1 : one.length ≤ 12) (h2 : other.length ≤ 12) (i : Nat) : (dblAll one other i).length ≤ 24 := by
  have a := dblTo_len one one.length
  have b := dblTo_len other other.length
  rcases i with _ | _ | i
  · exact Nat.zero_le _
  · simp only [dblAll]; omega
  · simp only [dblAll, List.length_append]; omega
theorem any_mem {l : List Int} {x : Int} (h : (l.any fun y => y == x) = true) : x ∈ l := by
  obtain ⟨y, hy, e⟩ := List.any_eq_true.mp h
  rw [← of_decide_eq_true (by simpa using e : decide (y = x) = true)]; exact hy
theorem any_not_mem {l : List Int} {x : Int} (h : (l.any fun y => y == x) = false) : x ∉ l := fun hm => by
  rw [List.any_eq_false] at h
  exact h x hm (by simp)
theorem len_24 {a b c : Nat} {d : Int} (h : (a : Int) = b + c - d) (hd : 0 ≤ d) (hb : b ≤ 12) (hc : c ≤ 12) : a ≤ 24 := by omega
end

section
theorem dropc_spec {c : Int} : ∀ {xs : List Int}, c ∉ xs.tail → (xs = c :: dropc c xs ∧ c ∉ dropc c xs) ∨ (dropc c xs = xs ∧ c ∉ xs)
  | [], _ => .inr ⟨rfl, by simp⟩
  | x :: t, h => by
    by_cases e : x = c
    · subst e
      left
      simp only [dropc, if_true]
      exact ⟨trivial, h⟩
    · right
      simp only [dropc, e, if_false]
      refine ⟨trivial, ?_⟩
      intro hm
      rcases List.mem_cons.mp hm with q | q
      · exact e q.symm
      · exact h q
theorem dropc_mem {c x : Int} {xs : List Int} (h : x ∈ dropc c xs) : x ∈ xs := by
  cases xs with
  | nil => exact h
  | cons y t =>
    simp only [dropc] at h
    split at h
    · exact List.mem_cons_of_mem _ h
    · exact h
theorem pick_done {xs ys : List Int} (h : pick xs ys = .done) : xs = [] ∧ ys = [] := by
  match xs, ys, h with
  | [], [], _ => exact ⟨rfl, rfl⟩
  | x :: xs, [], h => simp only [pick] at h; split at h <;> cases h
  | [], y :: ys, h => simp only [pick] at h; split at h <;> cases h
  | x :: xs, y :: ys, h =>
    simp only [pick] at h
    split at h
    · cases h
    · split at h <;> cases h
theorem pick_facts {xs ys : List Int} {c : Int} (h : pick xs ys = .take c) : c ∉ xs.tail ∧ c ∉ ys.tail ∧ (xs.head? = some c ∨ ys.head? = some c) := by
  match xs, ys, h with
  | [], [], h => simp [pick] at h
  | x :: xs, [], h =>
    simp only [pick] at h
    split at h
    · cases h
    · cases h; refine ⟨by assumption, by simp, .inl rfl⟩
  | [], y :: ys, h =>
    simp only [pick] at h
    split at h
    · cases h
    · cases h; refine ⟨by simp, by assumption, .inr rfl⟩
  | x :: xs, y :: ys, h =>
    simp only [pick] at h
    split at h
    · rename_i q; cases h; exact ⟨q.1, q.2, .inl rfl⟩
    · split at h
      · rename_i q; cases h; exact ⟨q.1, q.2, .inr rfl⟩
      · cases h
theorem filter_cons_not {c : Int} {l m : List Int} (h : c ∉ l) : (l.filter fun x => decide (x ∈ c :: m)) = l.filter fun x => decide (x ∈ m) := by
  refine List.filter_congr fun x hx => ?_
  have : x ≠ c := fun e => h (e ▸ hx)
  simp [this]
theorem c3_good : ∀ (n : Nat) (xs ys res : List Int), c3 n xs ys = some res → xs.Nodup ∧ ys.Nodup ∧ (res.filter fun x => decide (x ∈ xs)) = xs ∧ (res.filter fun x => decide (x ∈ ys)) = ys ∧ (∀ x ∈ res, x ∈ xs ∨ x ∈ ys) ∧
    (∀ k, k + 1 < res.length → res.getD k 0 ∉ xs → res.getD (k + 1) 0 ∉ ys → False) := by
  intro n
  induction n with
  | zero => intro xs ys res h; simp [c3] at h
  | succ n ih =>
    intro xs ys res h
    rw [c3] at h
    cases hp : pick xs ys with
    | done =>
      rw [hp] at h
      obtain ⟨rfl, rfl⟩ := pick_done hp
      cases h
      simp
    | blocked => rw [hp] at h; cases h
    | take c =>
      rw [hp] at h
      dsimp only at h
      cases hr : c3 n (dropc c xs) (dropc c ys) with
      | none => rw [hr] at h; cases h
      | some r =>
        rw [hr] at h
        cases h
        obtain ⟨nx, ny, fx, fy, hm, ha⟩ := ih _ _ _ hr
        obtain ⟨h1, h2, h3⟩ := pick_facts hp
        have cx := dropc_spec h1
        have cy := dropc_spec h2
        have cr : c ∉ r := by
          intro q
          rcases hm c q with q | q
          · rcases cx with ⟨_, e⟩ | ⟨e, e'⟩
            · exact e q
            · exact e' (dropc_mem q)
          · rcases cy with ⟨_, e⟩ | ⟨e, e'⟩
            · exact e q
            · exact e' (dropc_mem q)
        have side : ∀ zs : List Int, ((zs = c :: dropc c zs ∧ c ∉ dropc c zs) ∨ (dropc c zs = zs ∧ c ∉ zs)) → (dropc c zs).Nodup → (r.filter fun x => decide (x ∈ dropc c zs)) = dropc c zs → zs.Nodup ∧ ((c :: r).filter fun x => decide (x ∈ zs)) = zs := by
          intro zs hz hn hf
          rcases hz with ⟨e, e'⟩ | ⟨e, e'⟩
          · generalize dropc c zs = t at *
            subst e
            refine ⟨List.nodup_cons.mpr ⟨e', hn⟩, ?_⟩
            rw [List.filter_cons, if_pos (by simp), filter_cons_not cr, hf]
          · rw [e] at hn hf
            refine ⟨hn, ?_⟩
            rw [List.filter_cons, if_neg (by simpa using e'), hf]
        have sx := side xs cx nx fx
        have sy := side ys cy ny fy
        refine ⟨sx.1, sy.1, sx.2, sy.2, ?_, ?_⟩
        · intro x hx
          rcases List.mem_cons.mp hx with rfl | hx
          · rcases h3 with q | q
            · left; exact List.mem_of_mem_head? (by rw [q]; rfl)
            · right; exact List.mem_of_mem_head? (by rw [q]; rfl)
          · rcases hm x hx with q | q
            · exact .inl (dropc_mem q)
            · exact .inr (dropc_mem q)
        · intro k hk a1 a2
          rcases k with _ | k
          · have a1' : c ∉ xs := a1
            have ex : dropc c xs = xs := by
              rcases cx with ⟨e, _⟩ | ⟨e, _⟩
              · exact absurd (by rw [e]; simp) a1'
              · exact e
            have hyc : c ∈ ys := by
              rcases h3 with q | q
              · exact absurd (List.mem_of_mem_head? (by rw [q]; rfl)) a1'
              · exact List.mem_of_mem_head? (by rw [q]; rfl)
            have ey : ys = c :: dropc c ys := by
              rcases cy with ⟨e, _⟩ | ⟨_, e⟩
              · exact e
              · exact absurd hyc e
            cases r with
            | nil => simp at hk
            | cons c' r' =>
              have a2' : c' ∉ ys := a2
              cases n with
              | zero => simp [c3] at hr
              | succ n =>
                rw [c3] at hr
                cases hp2 : pick (dropc c xs) (dropc c ys) with
                | done => rw [hp2] at hr; cases hr
                | blocked => rw [hp2] at hr; cases hr
                | take d =>
                  rw [hp2] at hr
                  dsimp only at hr
                  have ed : d = c' := by
                    cases hq : c3 n (dropc d (dropc c xs)) (dropc d (dropc c ys)) with
                    | none => rw [hq] at hr; cases hr
                    | some r2 => rw [hq] at hr; simp at hr; exact hr.1
                  subst ed
                  obtain ⟨g1, g2, g3⟩ := pick_facts hp2
                  rw [ex] at g1 g3
                  have ny' : d ∉ dropc c ys := fun q => a2' (dropc_mem q)
                  have hx : xs.head? = some d := by
                    rcases g3 with q | q
                    · exact q
                    · exact absurd (List.mem_of_mem_head? (by rw [q]; rfl)) ny'
                  cases xs with
                  | nil => simp at hx
                  | cons x t =>
                    simp at hx
                    subst hx
                    generalize dropc c ys = u at *
                    subst ey
                    rw [pick, if_pos ⟨g1, ny'⟩] at hp
                    cases hp
                    exact a2' (by simp)
          · refine ha k (by simpa using hk) (fun q => a1 ?_) (fun q => a2 ?_)
            · simpa using dropc_mem q
            · simpa using dropc_mem q
theorem c3_some : ∀ (n : Nat) (xs ys : List Int), xs.length + ys.length < n → xs.Nodup → ys.Nodup → (xs.filter fun x => decide (x ∈ ys)) = (ys.filter fun x => decide (x ∈ xs)) → c3 n xs ys ≠ none := by
  intro n
  induction n with
  | zero => intro xs ys h; omega
  | succ n ih =>
    intro xs ys hl nx ny hf
    rw [c3]
    cases hp : pick xs ys with
    | done => simp
    | blocked =>
      exfalso
      match xs, ys, hp with
      | [], [], hp => simp [pick] at hp
      | x :: xs, [], hp => simp [pick] at hp; exact (List.nodup_cons.mp nx).1 hp
      | [], y :: ys, hp => simp [pick] at hp; exact (List.nodup_cons.mp ny).1 hp
      | x :: xs, y :: ys, hp =>
        have hx := (List.nodup_cons.mp nx).1
        have hy := (List.nodup_cons.mp ny).1
        simp only [pick] at hp
        split at hp
        · cases hp
        · split at hp
          · cases hp
          · rename_i q1 q2
            have m1 : x ∈ ys := by
              by_cases q : x ∈ ys
              · exact q
              · exact absurd ⟨hx, q⟩ q1
            have m2 : y ∈ xs := by
              by_cases q : y ∈ xs
              · exact q
              · exact absurd ⟨q, hy⟩ q2
            rw [List.filter_cons, if_pos (by simp [m1]), List.filter_cons, if_pos (by simp [m2])] at hf
            have e := (List.cons.inj hf).1
            subst e
            exact hy m1
    | take c =>
      dsimp only
      obtain ⟨h1, h2, h3⟩ := pick_facts hp
      have hlen := pick_len hp
      have cx := dropc_spec h1
      have cy := dropc_spec h2
      have main : c3 n (dropc c xs) (dropc c ys) ≠ none := by
        refine ih _ _ (by omega) ?_ ?_ ?_
        · rcases cx with ⟨e, _⟩ | ⟨e, _⟩
          · rw [e] at nx; exact (List.nodup_cons.mp nx).2
          · rw [e]; exact nx
        · rcases cy with ⟨e, _⟩ | ⟨e, _⟩
          · rw [e] at ny; exact (List.nodup_cons.mp ny).2
          · rw [e]; exact ny
        · rcases cx with ⟨e, e'⟩ | ⟨e, e'⟩
          · generalize dropc c xs = t at *
            subst e
            rcases cy with ⟨d, d'⟩ | ⟨d, d'⟩
            · generalize dropc c ys = u at *
              subst d
              rw [List.filter_cons, if_pos (by simp), List.filter_cons, if_pos (by simp), filter_cons_not e', filter_cons_not d'] at hf
              exact (List.cons.inj hf).2
            · rw [d]
              rw [List.filter_cons, if_neg (by simpa using d'), filter_cons_not d'] at hf
              exact hf
          · rw [e]
            rcases cy with ⟨d, d'⟩ | ⟨d, d'⟩
            · generalize dropc c ys = u at *
              subst d
              rw [List.filter_cons (x := c) (xs := u), if_neg (by simpa using e'), filter_cons_not e'] at hf
              exact hf
            · rw [d]; exact hf
      cases hq : c3 n (dropc c xs) (dropc c ys) with
      | none => exact absurd hq main
      | some r => simp
theorem len_of_sub : ∀ {l m : List Int}, l.Nodup → (∀ x ∈ l, x ∈ m) → l.length ≤ m.length
  | [], _, _, _ => Nat.zero_le _
  | x :: l, m, h, hs => by
    have hx := List.nodup_cons.mp h
    have hm : x ∈ m := hs x (by simp)
    have := len_of_sub (l := l) (m := m.erase x) hx.2 fun y hy => by
      have : y ≠ x := fun e => hx.1 (e ▸ hy)
      exact (List.mem_erase_of_ne this).mpr (hs y (List.mem_cons_of_mem _ hy))
    rw [List.length_erase_of_mem hm] at this
    have := List.length_pos_of_mem hm
    simp only [List.length_cons]
    omega
theorem count_both (p q : Int → Bool) : ∀ l : List Int, (∀ x ∈ l, p x = true ∨ q x = true) → l.length + ((l.filter p).filter q).length = (l.filter p).length + (l.filter q).length
  | [], _ => rfl
  | x :: l, h => by
    have ih := count_both p q l fun y hy => h y (List.mem_cons_of_mem _ hy)
    have hx := h x (by simp)
    rw [List.filter_filter] at ih ⊢
    cases hp : p x <;> cases hq : q x <;> simp [hp, hq] at hx ⊢ <;> omega
theorem dbl_nodup (row : List Int) : ∀ k, k ≤ row.length → (dblTo row k = [] ↔ (row.take k).Nodup) := by
  intro k
  induction k with
  | zero => intro _; simp [dblTo_zero]
  | succ k ih =>
    intro hk
    rw [take_more hk, List.nodup_append]
    by_cases h : row.getD k 0 ∈ row.take k
    · rw [dblTo_yes h]
      constructor
      · intro q; simp at q
      · rintro ⟨_, _, q⟩; exact absurd rfl (q _ h _ (by simp))
    · rw [dblTo_no h, ih (by omega)]
      constructor
      · intro q
        refine ⟨q, by simp, ?_⟩
        intro a ha b hb e
        rw [List.mem_singleton.mp hb] at e
        exact h (e ▸ ha)
      · intro q; exact q.1
theorem dblAll_nodup (one other : List Int) : dblAll one other 2 = [] ↔ one.Nodup ∧ other.Nodup := by
  have a := dbl_nodup one one.length (Nat.le_refl _)
  have b := dbl_nodup other other.length (Nat.le_refl _)
  rw [List.take_length] at a b
  rw [← a, ← b]
  simp [dblAll]
theorem com_len {one other : List Int} (h : one.Nodup) : ∀ k, k ≤ one.length → (comTo one other k).length = ((one.take k).filter fun x => decide (x ∈ other)).length := by
  intro k
  induction k with
  | zero => intro _; simp [comTo_zero]
  | succ k ih =>
    intro hk
    have hn : one.getD k 0 ∉ one.take k := by
      have h2 := h
      rw [← List.take_append_drop (k + 1) one, take_more hk] at h2
      have h3 := (List.nodup_append.mp h2).1
      intro q
      exact (List.nodup_append.mp h3).2.2 _ q _ (by simp) rfl
    rw [take_more hk, List.filter_append]
    by_cases q : one.getD k 0 ∈ other
    · rw [comTo_yes q hn, List.length_append, List.length_append, ih (by omega)]
      simp only [List.filter_cons, decide_eq_true q, if_true, List.filter_nil, List.length_cons, List.length_nil]
    · rw [comTo_no (fun z => q z.1), List.length_append, ih (by omega)]
      simp only [List.filter_cons, decide_eq_false q, Bool.false_eq_true, if_false, List.filter_nil, List.length_nil, Nat.add_zero]
theorem both_sub {z one other : List Int} (h1 : z.Sublist one) (h2 : z.Sublist other) : z.Sublist (one.filter fun x => decide (x ∈ other)) := by
  have := h1.filter (fun x => decide (x ∈ other))
  rwa [List.filter_eq_self.mpr (fun x hx => by simpa using h2.subset hx)] at this
theorem op_last (one other : List Int) : (tabOf one other).1.getD one.length 0 = lcsLen one other := by
  rw [tab_one, lcsLen]
  simp [List.getD_eq_getElem?_getD]
theorem lcs_range {one other : List Int} (h : one.length ≤ 12) : 0 ≤ lcsLen one other ∧ lcsLen one other ≤ 12 := by
  obtain ⟨z, h1, _, h3⟩ := lcsLen_lower one other
  have := h1.length_le
  omega
/-- the merge of two rows that is not refused -/
theorem merge_good {hn tn res : List Int} (h : c3 (hn.length + tn.length + 1) hn tn = some res) :
    (!decide (dblAll hn tn 2 = []) || decide ((tabOf hn tn).1.getD hn.length 0 < ((comTo hn tn hn.length).length : Int))) = false ∧ (res.length : Int) = hn.length + tn.length - (tabOf hn tn).1.getD hn.length 0 ∧
    (res.filter fun x => decide (x ∈ hn)) = hn ∧ (res.filter fun x => decide (x ∈ tn)) = tn ∧ (∀ k, k + 1 < res.length → res.getD k 0 ∉ hn → res.getD (k + 1) 0 ∉ tn → False) := by
  obtain ⟨nh, nt, fh, ft, hm, ha⟩ := c3_good _ _ _ _ h
  have hc := com_len (other := tn) nh hn.length (Nat.le_refl _)
  rw [List.take_length] at hc
  have e1 : (hn.filter fun x => decide (x ∈ tn)) = (tn.filter fun x => decide (x ∈ hn)) := by
    have a := congrArg (List.filter fun x => decide (x ∈ tn)) fh
    have b := congrArg (List.filter fun x => decide (x ∈ hn)) ft
    rw [← a, ← b, List.filter_filter, List.filter_filter]
    refine List.filter_congr fun x _ => Bool.and_comm _ _
  have s1 : (hn.filter fun x => decide (x ∈ tn)).Sublist hn := List.filter_sublist
  have s2 : (hn.filter fun x => decide (x ∈ tn)).Sublist tn := by rw [e1]; exact List.filter_sublist
  have up := lcsLen_upper s1 s2
  obtain ⟨z, z1, z2, z3⟩ := lcsLen_lower hn tn
  have zl := (both_sub z1 z2).length_le
  have cb := count_both (fun x => decide (x ∈ hn)) (fun x => decide (x ∈ tn)) res (fun x hx => by
    rcases hm x hx with q | q
    · left; simpa using q
    · right; simpa using q)
  rw [fh, ft] at cb
  rw [op_last]
  refine ⟨?_, by omega, fh, ft, ha⟩
  rw [decide_eq_true ((dblAll_nodup hn tn).mpr ⟨nh, nt⟩), decide_eq_false (by omega)]
  rfl
/-- the merge of two rows that is refused -/
theorem merge_bad {hn tn : List Int} (h : c3 (hn.length + tn.length + 1) hn tn = none) :
    (!decide (dblAll hn tn 2 = []) || decide ((tabOf hn tn).1.getD hn.length 0 < ((comTo hn tn hn.length).length : Int))) = true := by
  by_cases hd : dblAll hn tn 2 = []
  · obtain ⟨nh, nt⟩ := (dblAll_nodup hn tn).mp hd
    have hc := com_len (other := tn) nh hn.length (Nat.le_refl _)
    rw [List.take_length] at hc
    rw [op_last]
    by_cases hl : lcsLen hn tn < ((comTo hn tn hn.length).length : Int)
    · rw [decide_eq_true hl, Bool.or_true]
    · exfalso
      obtain ⟨z, z1, z2, z3⟩ := lcsLen_lower hn tn
      have b1 := both_sub z1 z2
      have b2 := both_sub z2 z1
      have e1 := b1.eq_of_length_le (by omega)
      have l2 : (tn.filter fun x => decide (x ∈ hn)).length ≤ (hn.filter fun x => decide (x ∈ tn)).length := by
        refine len_of_sub (nt.sublist List.filter_sublist) fun x hx => ?_
        have := List.mem_filter.mp hx
        exact List.mem_filter.mpr ⟨by simpa using this.2, by simpa using this.1⟩
      have e2 := b2.eq_of_length_le (by rw [e1]; exact l2)
      exact c3_some _ _ _ (Nat.lt_succ_self _) nh nt (by rw [← e1, ← e2]) h
  · rw [decide_eq_false hd]; rfl
end

section
open PySem PySem.W PyProof.Rows PySem.Calls PyProof.Rows.LCg
set_option maxRecDepth 100000
theorem compTurn_two (elt t0 i0 t1 i1 ct : Expr) (scope : Scope) (pos : Pos) (it acc : Value) (env : Env) :
    compTurn (.ListComp elt [⟨t0, i0, [], 0⟩, ⟨t1, i1, [ct], 0⟩] scope pos) 0 it acc env = (do
      standAt i0.pos
      match ← pyNext it with
      | none => pure (.done .next)
      | some v =>
        letOwnedTupleGo t0 it v
        assign t0 env v
        let mut ok := true
        for c in ([] : List Expr) do
          if ok then ok ← isTrue c env (eval c env)
        if ok then
          let x ← eval i1 env
          standAt i1.pos
          let x ← foldedSetIterable i1 env x
          let _ ← runOwn (.compStart (.ListComp elt [⟨t0, i0, [], 0⟩, ⟨t1, i1, [ct], 0⟩] scope pos) 1 (← holding [x] (pyIter x)) acc env) env
        again (.compLoop (.ListComp elt [⟨t0, i0, [], 0⟩, ⟨t1, i1, [ct], 0⟩] scope pos) 0 it acc env)) := by rfl
theorem compTurn_two1 (elt t0 i0 t1 i1 ct : Expr) (scope : Scope) (pos : Pos) (it acc : Value) (env : Env) :
    compTurn (.ListComp elt [⟨t0, i0, [], 0⟩, ⟨t1, i1, [ct], 0⟩] scope pos) 1 it acc env = (do
      standAt i1.pos
      match ← pyNext it with
      | none => pure (.done .next)
      | some v =>
        letOwnedTupleGo t1 it v
        assign t1 env v
        let mut ok := true
        for c in [ct] do
          if ok then ok ← isTrue c env (eval c env)
        if ok then
          (do let _ ← call (.builtin "list.append") [acc, ← eval elt env])
        again (.compLoop (.ListComp elt [⟨t0, i0, [], 0⟩, ⟨t1, i1, [ct], 0⟩] scope pos) 1 it acc env)) := by rfl
section
variable {prog : Program} {w : World} {A : Around} {E : Value → Shared → Prop} {R : Result → Shared → Prop} {s : Shared}
theorem loop_in {elt t0 i0 t1 i1 ct : Expr} {scope : Scope} {pos : Pos} {it acc : Value} {env : Env} (I : Nat → Shared → Prop)
    (turn : ∀ n s, I n s → ∀ E', wpAny (model prog w) A (pyNext it) (fun r s₁ => match r with
      | none => R (.ok .next) s₁
      | some v => wpAny (model prog w) A (assign t1 env v) (fun _ s₂ =>
          wpAny (model prog w) A (isTrue ct env (eval ct env)) (fun ok s₃ =>
            if ok = true then wpAny (model prog w) A (eval elt env) (fun x s₄ =>
              wpAny (model prog w) A (call (.builtin "list.append") [acc, x]) (fun _ s₅ => ∃ m, m < n ∧ I m s₅) E' s₄) E' s₃
            else ∃ m, m < n ∧ I m s₃) E' s₂) E' s₁) E' s)
    (n : Nat) (h : I n s) (ht : ∀ v, letOwnedTupleGo t1 it v = pure () := by intro _; rfl) :
    codeAny (model prog w) A (.compLoop (.ListComp elt [⟨t0, i0, [], 0⟩, ⟨t1, i1, [ct], 0⟩] scope pos) 1 it acc env) R s := by
  refine codeAny_loop rfl I (fun n s hI => ?_) n h
  show wpAny _ A ((compTurn (.ListComp elt [⟨t0, i0, [], 0⟩, ⟨t1, i1, [ct], 0⟩] scope pos) 1 it acc env).onRaise (fun x => do noteFrame x env; theTreesLotGoes x)) _ _ s
  refine wpAny_noted ?_
  rw [compTurn_two1]
  refine wpAny_bind (wpAny_standAt (wpAny_bind (wpAny_mono (turn n s hI _) (fun r s₁ h₁ => ?_) fun _ _ h' => h')))
  cases r with
  | none => exact wpAny_pure h₁
  | some v =>
    refine wpAny_bind (wpAny_of_eq (ht v) ?_)
    refine wpAny_bind (wpAny_mono h₁ (fun _ s₂ h₂ => wpAny_bind (wpAny_tests_one (wpAny_mono h₂ (fun ok s₃ h₃ => ?_) fun _ _ h' => h'))) fun _ _ h' => h')
    cases ok with
    | false => exact wpAny_pure ⟨rfl, h₃⟩
    | true =>
      exact wpAny_bind (wpAny_bind (wpAny_mono h₃ (fun x s₄ h₄ => wpAny_bind (wpAny_mono h₄ (fun _ s₅ h₅ => wpAny_pure (wpAny_pure ⟨rfl, h₅⟩)) fun _ _ h' => h')) fun _ _ h' => h'))
theorem start_in {elt t0 i0 t1 i1 ct : Expr} {scope : Scope} {pos : Pos} {it acc : Value} {env : Env}
    (h0 : codeAny (model prog w) A (.compLoop (.ListComp elt [⟨t0, i0, [], 0⟩, ⟨t1, i1, [ct], 0⟩] scope pos) 1 it acc env) R s)
    (h : wpAny (model prog w) A (pyIter it) (fun it' s' => codeAny (model prog w) A (.compLoop (.ListComp elt [⟨t0, i0, [], 0⟩, ⟨t1, i1, [ct], 0⟩] scope pos) 1 it' acc env) R s')
      (notedBy (model prog w) A env fun x s' => R (.error x) s') s) :
    codeAny (model prog w) A (.compStart (.ListComp elt [⟨t0, i0, [], 0⟩, ⟨t1, i1, [ct], 0⟩] scope pos) 1 it acc env) R s := by
  refine codeAny_of_tree ?_
  show wpAny _ _ ((compStart (.ListComp elt [⟨t0, i0, [], 0⟩, ⟨t1, i1, [ct], 0⟩] scope pos) 1 it acc env).onRaise (fun x => do noteFrame x env; standAt theWindowsPlace)) _ _ s
  refine wpAny_notedAt ?_
  unfold compStart
  show wpAny _ _ (ask >>= _) _ _ s
  refine wpAny_bind (wpAny_askSetting (wpAny_ite ?_))
  split
  · first
      | exact wpAny_bind (wpAny_pure (wpAny_pure (And.intro rfl h0)))
      | exact wpAny_pure (And.intro rfl h0)
  · first
      | exact wpAny_bind (wpAny_rule (wpAny_bind (wpAny_standAt (wpAny_bind (wpAny_mono h (fun it' s' h' => wpAny_pure (And.intro rfl h')) fun _ _ x => x)))))
      | (refine wpAny_bind (wpAny_rule ?_); show wpAny _ _ (standAt i1.pos >>= _) _ _ s; exact wpAny_bind (wpAny_standAt (wpAny_bind (wpAny_mono h (fun it' s' h' => wpAny_pure (And.intro rfl h')) fun _ _ x => x))))
theorem loop_out {elt t0 i0 t1 i1 ct : Expr} {scope : Scope} {pos : Pos} {it acc : Value} {env : Env} (I : Nat → Shared → Prop)
    (turn : ∀ n s, I n s → ∀ E', wpAny (model prog w) A (pyNext it) (fun r s₁ => match r with
      | none => R (.ok .next) s₁
      | some v => wpAny (model prog w) A (assign t0 env v) (fun _ s₂ =>
          wpAny (model prog w) A (eval i1 env) (fun x s₃ => wpAny (model prog w) A (pyIter x) (fun it' s₄ =>
            ∃ R', codeAny (model prog w) A (.compStart (.ListComp elt [⟨t0, i0, [], 0⟩, ⟨t1, i1, [ct], 0⟩] scope pos) 1 it' acc env) R' s₄ ∧ ∀ r s₅, R' r s₅ → r = .ok .next ∧ ∃ m, m < n ∧ I m s₅) E' s₃) E' s₂) E' s₁) E' s)
    (n : Nat) (h : I n s) (ht : ∀ v, letOwnedTupleGo t0 it v = pure () := by intro _; rfl) (hs : ∀ x, foldedSetIterable i1 env x = pure x := by intro _; rfl) :
    codeAny (model prog w) A (.compLoop (.ListComp elt [⟨t0, i0, [], 0⟩, ⟨t1, i1, [ct], 0⟩] scope pos) 0 it acc env) R s := by
  refine codeAny_loop rfl I (fun n s hI => ?_) n h
  show wpAny _ A ((compTurn (.ListComp elt [⟨t0, i0, [], 0⟩, ⟨t1, i1, [ct], 0⟩] scope pos) 0 it acc env).onRaise (fun x => do noteFrame x env; theTreesLotGoes x)) _ _ s
  refine wpAny_noted ?_
  rw [compTurn_two]
  refine wpAny_bind (wpAny_standAt (wpAny_bind (wpAny_mono (turn n s hI _) (fun r s₁ h₁ => ?_) fun _ _ h' => h')))
  cases r with
  | none => exact wpAny_pure h₁
  | some v =>
    refine wpAny_bind (wpAny_of_eq (ht v) ?_)
    refine wpAny_bind (wpAny_mono h₁ (fun _ s₂ h₂ => wpAny_bind (wpAny_tests_nil ?_)) fun _ _ h' => h')
    simp only [if_true]
    refine wpAny_bind (wpAny_mono h₂ (fun x s₃ h₃ => wpAny_bind (wpAny_standAt (wpAny_bind (wpAny_of_eq (hs x) (wpAny_bind (wpAny_holding (wpAny_mono h₃ (fun it' s₄ h₄ => ?_) fun _ _ h' => h'))))))) fun _ _ h' => h')
    obtain ⟨R', hc, hR⟩ := h₄
    refine wpAny_bind (wpAny_runOwn (codeAny_mono hc (fun r s₅ hr => ?_)))
    obtain ⟨rfl, hm⟩ := hR r s₅ hr
    exact wpAny_pure ⟨rfl, hm⟩
end
end
section
open PySem PySem.W PyProof.Rows PySem.Calls PyProof.Rows.LCg
set_option maxRecDepth 100000
section
variable {prog : Program} {w : World} {A : Around} {E : Value → Shared → Prop} {s : Shared} {h₀ : Heap} {L : Addr} {m : Str → Option Value} {env : Env}
/-- a turn of the inner clause -/
def Turn2 (prog : Program) (w : World) (A : Around) (h₀ : Heap) (L : Addr) (m : Str → Option Value) (env : Env) (ct elt : Expr) (x : Str) (scope : Scope) (cl : List (Str × Addr)) (s : Shared) (a : Int) (n : Nat) (m₁ : Str → Option Value) (news : List (Addr × Obj)) (G : Nat → List Value → Prop) : Prop :=
  ∀ i ys t J oJ C oC D m₂ h tk (E' : Value → Shared → Prop), i < n → G i ys → NsObj oC m₂ → m₂ x = some (.int (a + (i : Int)) t) → (∀ z, z ≠ x → m₂ z = m₁ z) → Fr h₀ L h m → News h₀ L h ((J, oJ) :: (C, oC) :: (D, lst ys) :: news) → Off3 J C D news → ((@Ne Nat J C) ∧ (@Ne Nat J D) ∧ (@Ne Nat C D)) →
    wpAny (model prog w) A (isTrue ct (compEnvC scope cl C env) (eval ct (compEnvC scope cl C env))) (fun ok s' => if ok = true then
      wpAny (model prog w) A (eval elt (compEnvC scope cl C env)) (CompEnd h₀ L m { s with heap := h, toks := tk } J oJ C oC D (lst ys) (fun _ => True) (fun y news' => news' = news ∧ G (i + 1) (ys ++ [y]))) E' s'
      else CompEnd h₀ L m { s with heap := h, toks := tk } J oJ C oC D (lst ys) (fun _ => True) (fun _ news' => news' = news ∧ G (i + 1) ys) Value.none s') E' { s with heap := h, toks := tk }
/-- the inner clause's source -/
def Src2 (prog : Program) (w : World) (A : Around) (h₀ : Heap) (L : Addr) (m : Str → Option Value) (env : Env) (ct elt : Expr) (x : Str) (scope : Scope) (cl : List (Str × Addr)) (s : Shared) (I : Addr) (oI : Obj) (C : Addr) (oC : Obj) (D : Addr) (ys : List Value) (m₁ : Str → Option Value) (news : List (Addr × Obj)) (K : List Value → Prop) (xv : Value) (s₁ : Shared) : Prop :=
  ∃ h' tk r a b t u v, ∃ (n : Nat) (G : Nat → List Value → Prop), s₁ = { s with heap := h', toks := tk } ∧ xv = .ref r ∧ Fr h₀ L h' m ∧ News h₀ L h' ((I, oI) :: (C, oC) :: (D, lst ys) :: news) ∧ IsRange h' r a b 1 t u v ∧ Builtin.Range.small a b 1 = true ∧ Builtin.Range.rangeSize a b 1 = ((n : Nat) : Int) ∧
    G 0 ys ∧ (∀ i ys', G i ys' → ys'.length ≤ sizeLine) ∧ (∀ ys', G n ys' → K ys') ∧ Turn2 prog w A h₀ L m env ct elt x scope cl s a n m₁ ((I, oI) :: news) G
/-- a turn of the outer clause -/
def Outer2 (prog : Program) (w : World) (A : Around) (h₀ : Heap) (L : Addr) (m : Str → Option Value) (env : Env) (i1 ct elt : Expr) (x0 x1 : Str) (scope : Scope) (cl : List (Str × Addr)) (s : Shared) (its : Array Value) (news : List (Addr × Obj)) (G : Nat → List Value → Prop) : Prop :=
  ∀ (i : Nat) ys v I oI C oC D m₂ h tk (E' : Value → Shared → Prop), its[i]? = some v → G i ys → NsObj oC m₂ → m₂ x0 = some v → Fr h₀ L h m → News h₀ L h ((I, oI) :: (C, oC) :: (D, lst ys) :: news) → Off3 I C D news → ((@Ne Nat I C) ∧ (@Ne Nat I D) ∧ (@Ne Nat C D)) →
    wpAny (model prog w) A (eval i1 (compEnvC scope cl C env)) (fun xv s₁ => Hold (Src2 prog w A h₀ L m env ct elt x1 scope cl s I oI C oC D ys m₂ news (G (i + 1)) xv s₁)) E' { s with heap := h, toks := tk }
theorem block_two {elt t0 i0 i1 ct : Expr} {x0 x1 : Str} {px0 px1 : Pos} {scope : Scope} {cl : List (Str × Addr)} {pos : Pos} {s₂ : Shared} {I ax : Addr} {its : Array Value} {kk : Nat} {news : List (Addr × Obj)}
    {RR : Value → Addr → Result → Shared → Prop} (G : Nat → List Value → Prop) (ht0 : t0 = .Name x0 px0) (hh : A.handled = none) (hax : (ax, ({ cls := .type "list", data := .seq its kk } : Obj)) ∈ news)
    (hcell : ∀ y ∈ scope.names, y.2 ≠ .cell) (hkind : scope.kind = .function) (hx0 : scope.names.lookup x0 = some .local) (hx1 : scope.names.lookup x1 = some .local) (hit : s₂.heap.IsListIter I ax 0)
    (F : Fr h₀ L s₂.heap m) (N : News h₀ L s₂.heap news) (hIL : L ≠ I) (hI₀ : h₀.get? I = none) (off : ∀ p ∈ news, p.1 ≠ I)
    (h0 : G 0 []) (R : Outer2 prog w A h₀ L m env i1 ct elt x0 x1 scope cl s₂ its news G)
    (hRR : ∀ D C h tk m' ys, Fr h₀ L h m → News h₀ L h ((D, lst ys) :: news) → Off1 D news → h.Ns C m' → h₀.get? C = none → h₀.get? D = none → C ≠ L → D ≠ L → C ≠ D → (∀ p ∈ news, p.1 ≠ C) → G its.size ys → RR (.ref D) C (.ok .next) { s₂ with heap := h, toks := tk })
    (hs : ∀ C x, foldedSetIterable i1 (compEnvC scope cl C env) x = pure x := by intro _ _; rfl) :
    wpAny (model prog w) A (newList []) (fun acc s₃ => wpAny (model prog w) A (newFunctionEnv scope env.globals cl [] env.qual none .none (some env)) (fun cenv s₄ =>
      codeAny (model prog w) A (.compStart (.ListComp elt [⟨t0, i0, [], 0⟩, ⟨.Name x1 px1, i1, [ct], 0⟩] scope pos) 0 (.ref I) acc { cenv with scope := relabel scope env }) (RR acc cenv.locals) s₄) E s₃) E s₂ := by
  subst ht0
  refine wpAny_newObj_type (wpAny_newFunctionEnv hcell (by intro y hy; simp at hy) (fun h₁ hns₁ hsb₁ => ?_) hkind)
  dsimp only at hns₁ hsb₁ ⊢
  generalize hH2 : s₂.heap.push { cls := .type "list", dict := none, data := .seq ([] : List Value).toArray } = H2 at hns₁ hsb₁ ⊢
  have hC : H2.objs.size = s₂.heap.objs.size + 1 := by rw [← hH2, Heap.size_push]
  have hDC : s₂.heap.objs.size ≠ H2.objs.size := by rw [hC]; exact Nat.ne_of_lt (Nat.lt_succ_self _)
  have below : ∀ b, b < s₂.heap.objs.size → b ≠ H2.objs.size ∧ b ≠ s₂.heap.objs.size := fun b hb => ⟨by rw [hC]; exact Nat.ne_of_lt (Nat.lt_succ_of_lt hb), Nat.ne_of_lt hb⟩
  have hls : s₂.heap.IsList ax its := ⟨_, (N _ hax).1, rfl, kk, rfl⟩
  have hIlt : I < s₂.heap.objs.size := by obtain ⟨o, e, _⟩ := hit; exact Heap.lt_size e
  have haI : ax ≠ I := off _ hax
  have W := Walks.list (prog := prog) (w := w) hh I ax haI its
  have old : ∀ b o, s₂.heap.get? b = some o → h₁.get? b = some o := fun b o e => hsb₁.extBut b o (below b (Heap.lt_size e)).1 (Heap.get?_push_of_some _ (hH2 ▸ Heap.get?_push_of_some _ e))
  have hacc : h₁.get? s₂.heap.objs.size = some (lst []) := hsb₁.extBut _ _ hDC (Heap.get?_push_of_some _ (hH2 ▸ Heap.get?_push_size _ rfl))
  have fresh : ∀ a, s₂.heap.objs.size ≤ a → s₂.heap.get? a = none := fun a ha => by
    cases e : s₂.heap.get? a with
    | none => rfl
    | some o' => exact absurd (Heap.lt_size e) (Nat.not_lt.mpr ha)
  have fresh₀ : ∀ a, s₂.heap.objs.size ≤ a → h₀.get? a = none := fun a ha => by
    cases e : h₀.get? a with
    | none => rfl
    | some o' => have := F.keep a o' e; rw [fresh a ha] at this; cases this
  have hD₀ : h₀.get? s₂.heap.objs.size = none := fresh₀ _ (Nat.le_refl _)
  have hC₀ : h₀.get? H2.objs.size = none := fresh₀ _ (by rw [hC]; exact Nat.le_succ _)
  have hLlt : L < s₂.heap.objs.size := F.ns.lt
  have hDL : s₂.heap.objs.size ≠ L := Ne.symm (below L hLlt).2
  have hCL : H2.objs.size ≠ L := Ne.symm (below L hLlt).1
  have hCI : I ≠ H2.objs.size := (below I hIlt).1
  have hDI : I ≠ s₂.heap.objs.size := (below I hIlt).2
  have off3 : ∀ p ∈ news, p.1 ≠ I ∧ p.1 ≠ H2.objs.size ∧ p.1 ≠ s₂.heap.objs.size := fun p hp => ⟨off p hp, (below _ (Heap.lt_size (N p hp).1)).1, (below _ (Heap.lt_size (N p hp).1)).2⟩
  have off₀ : Off3 I H2.objs.size s₂.heap.objs.size news := Off3.of off3
  have hst₁ : h₁.IsListIter I ax 0 ∧ h₁.IsList ax its := ⟨hit.at fun o e => old _ _ e, hls.at fun o e => old _ _ e⟩
  have loop : ∀ s₃ : Shared, s₃ = { s₂ with heap := h₁, toks := s₂.toks + ([] : List (Str × Value)).length } →
      codeAny (model prog w) A (.compLoop (.ListComp elt [⟨.Name x0 px0, i0, [], 0⟩, ⟨.Name x1 px1, i1, [ct], 0⟩] scope pos) 0 (.ref I) (.ref s₂.heap.objs.size) (compEnvC scope cl H2.objs.size env))
        (RR (.ref s₂.heap.objs.size) H2.objs.size) s₃ := by
    rintro s₃ rfl
    refine loop_out
      (fun k s' => ∃ h' tk i ys m', s' = { s₂ with heap := h', toks := tk } ∧ i ≤ its.size ∧ k = its.size + 1 - i ∧ (h'.IsListIter I ax i ∧ h'.IsList ax its) ∧ Fr h₀ L h' m ∧ h'.Ns H2.objs.size m' ∧ News h₀ L h' ((s₂.heap.objs.size, lst ys) :: news) ∧ G i ys) ?_ (its.size + 1)
      ⟨h₁, _, 0, [], _, rfl, Nat.zero_le _, rfl, hst₁, F.keeps old, hns₁, fun p hp => ?_, h0⟩ (hs := hs _)
    · rintro k s' ⟨h', tk, i, ys, m', rfl, hi, rfl, hst', F', hn', N', g'⟩ E'
      by_cases hlt : i < its.size
      · refine W.item i _ _ _ hlt hst' fun v h₂ tk₂ hPv hst₂ hk₂ => ?_
        refine wpAny_assign_Name (wpAny_storeName_local (lookup_relabel_local hx0) (hn'.at' fun o e => hk₂ _ o (by simpa using Ne.symm hCI) e) (fun h₃ hn₃ hs₃ => ?_) (by simp [compEnvC, relabel, hkind]))
        have hst₃ := W.frame _ _ h₃ hst₂ fun b hb o e => hs₃.extBut b o (by
          rcases List.mem_cons.mp hb with rfl | hb
          · exact hCI
          · rw [List.mem_singleton.mp hb]; exact (off3 _ hax).2.1) e
        obtain ⟨oI, heI⟩ : ∃ o, h₃.get? I = some o := by obtain ⟨o, e, _⟩ := hst₃.1; exact ⟨o, e⟩
        obtain ⟨oC, heC, hoC⟩ := ns_obj hn₃
        have F₃ : Fr h₀ L h₃ m := (fr_but F' hk₂ hIL hI₀).change hs₃ hCL hC₀
        have N₂ : News h₀ L h₂ ((s₂.heap.objs.size, lst ys) :: news) := news_but N' hk₂ fun p hp => by
          rcases List.mem_cons.mp hp with rfl | hp
          · exact Ne.symm hDI
          · exact (off3 p hp).1
        have N₃ : News h₀ L h₃ ((I, oI) :: (H2.objs.size, oC) :: (s₂.heap.objs.size, lst ys) :: news) := fun p hp => by
          rcases List.mem_cons.mp hp with rfl | hp
          · exact ⟨heI, Ne.symm hIL, hI₀⟩
          · rcases List.mem_cons.mp hp with rfl | hp
            · exact ⟨heC, hCL, hC₀⟩
            · have z := N₂ p hp
              refine ⟨hs₃.extBut _ _ ?_ z.1, z.2⟩
              rcases List.mem_cons.mp hp with rfl | hp
              · exact hDC
              · exact (off3 p hp).2.1
        have hRi := R i ys v I oI H2.objs.size oC s₂.heap.objs.size _ h₃ (tk₂ + 1) E' hPv g' hoC (by simp) F₃ N₃ off₀ ⟨hCI, hDI, Ne.symm hDC⟩
        refine wpAny_mono hRi (fun xv s₁ hsrc => ?_) fun _ _ e => e
        obtain ⟨h₄, tk₄, r, a, b, t, u, v', n1, G1, rfl, rfl, F₄, N₄, hr, hsm, hn1, g0, gl, gK, T2⟩ := hsrc
        refine wpAny_pyIter_range hr hsm ?_
        have ltN : ∀ p ∈ (I, oI) :: (H2.objs.size, oC) :: (s₂.heap.objs.size, lst ys) :: news, p.1 ≠ h₄.objs.size := fun p hp => Nat.ne_of_lt (Heap.lt_size (N₄ p hp).1)
        have JI : I ≠ h₄.objs.size := ltN (I, oI) List.mem_cons_self
        have JC : H2.objs.size ≠ h₄.objs.size := ltN (H2.objs.size, oC) (List.mem_cons_of_mem _ List.mem_cons_self)
        have JD : s₂.heap.objs.size ≠ h₄.objs.size := ltN (s₂.heap.objs.size, lst ys) (List.mem_cons_of_mem _ (List.mem_cons_of_mem _ List.mem_cons_self))
        have JN : ∀ p ∈ news, p.1 ≠ h₄.objs.size := fun p hp => ltN p (List.mem_cons_of_mem _ (List.mem_cons_of_mem _ (List.mem_cons_of_mem _ hp)))
        have JL : L ≠ h₄.objs.size := Nat.ne_of_lt F₄.ns.lt
        have J₀ : h₀.get? h₄.objs.size = none := next_is_new F₄
        generalize hJ : h₄.objs.size = J at *
        have W1 := range_walks (prog := prog) (w := w) (A := A) (I := J) hh a n1
        rw [hn1]
        generalize hH5 : h₄.push { cls := .type "range_iterator", data := .fields #[rawInt a, rawInt (n1 : Int), rawInt 1] } = h₅
        have up : ∀ b o, h₄.get? b = some o → h₅.get? b = some o := fun b o e => hH5 ▸ Heap.get?_push_of_some _ e
        have st1 : IsRangeIter h₅ J (a + ((0 : Nat) : Int) * 1) ((n1 : Int) - ((0 : Nat) : Int)) 1 := by
          show Heap.get? _ _ = _
          rw [← hJ, ← hH5]
          simpa using Heap.get?_push_size _ rfl
        have F₅ : Fr h₀ L h₅ m := F₄.keeps up
        have N₅ : News h₀ L h₅ ((s₂.heap.objs.size, lst ys) :: (I, oI) :: news) := fun p hp => by
          have hp' : p ∈ (I, oI) :: (H2.objs.size, oC) :: (s₂.heap.objs.size, lst ys) :: news := by
            simp only [List.mem_cons] at hp ⊢
            rcases hp with h | h | h
            · exact .inr (.inr (.inl h))
            · exact .inl h
            · exact .inr (.inr (.inr h))
          exact ⟨up _ _ (N₄ p hp').1, (N₄ p hp').2⟩
        have hn₅ : h₅.Ns H2.objs.size (fun z => if z = x0 then some v else m' z) := (hoC.ns (N₄ (H2.objs.size, oC) (List.mem_cons_of_mem _ List.mem_cons_self)).1).at' fun o e => up _ _ e
        have offI : ∀ p ∈ (I, oI) :: news, p.1 ≠ J ∧ p.1 ≠ H2.objs.size ∧ p.1 ≠ s₂.heap.objs.size := fun p hp => by
          rcases List.mem_cons.mp hp with rfl | hp
          · exact ⟨JI, hCI, hDI⟩
          · exact ⟨JN p hp, (off3 p hp).2⟩
        have offI3 : Off3 J H2.objs.size s₂.heap.objs.size ((I, oI) :: news) := Off3.of offI
        let Inv : Nat → Shared → Prop := fun k s' => ∃ h' tk i ys m', s' = { s₂ with heap := h', toks := tk } ∧ i ≤ its.size ∧ k = its.size + 1 - i ∧ (h'.IsListIter I ax i ∧ h'.IsList ax its) ∧ Fr h₀ L h' m ∧ h'.Ns H2.objs.size m' ∧ News h₀ L h' ((s₂.heap.objs.size, lst ys) :: news) ∧ G i ys
        have inner : ∀ s₆ : Shared, s₆ = { s₂ with heap := h₅, toks := tk₄ } → codeAny (model prog w) A (.compLoop (.ListComp elt [⟨.Name x0 px0, i0, [], 0⟩, ⟨.Name x1 px1, i1, [ct], 0⟩] scope pos) 1 (.ref J) (.ref s₂.heap.objs.size) (compEnvC scope cl H2.objs.size env))
            (fun r s' => r = .ok .next ∧ ∃ k, k < its.size + 1 - i ∧ Inv k s') s₆ := by
          rintro s₆ rfl
          refine loop_in (fun k s' => ∃ h' tk j ys' m₁, s' = { s₂ with heap := h', toks := tk } ∧ j ≤ n1 ∧ k = n1 + 1 - j ∧ IsRangeIter h' J (a + (j : Nat) * 1) ((n1 : Int) - (j : Nat)) 1 ∧ Fr h₀ L h' m ∧ h'.Ns H2.objs.size m₁ ∧ (∀ z, z ≠ x1 → m₁ z = if z = x0 then some v else m' z) ∧
            News h₀ L h' ((s₂.heap.objs.size, lst ys') :: (I, oI) :: news) ∧ G1 j ys') ?_ (n1 + 1) ⟨h₅, _, 0, ys, _, rfl, Nat.zero_le _, rfl, st1, F₅, hn₅, fun _ _ => rfl, N₅, g0⟩
          rintro k s' ⟨h₆, tk₆, j, ys', m₁, rfl, hj, rfl, hst₆, F₆, hn₆, hm₆, N₆, g₆⟩ E''
          by_cases hlt' : j < n1
          · refine W1.item j _ _ _ hlt' hst₆ fun q h₇ tk₇ hPq hst₇ hk₇ => ?_
            obtain ⟨tq, rfl⟩ := hPq
            refine wpAny_assign_Name (wpAny_storeName_local (lookup_relabel_local hx1) (hn₆.at' fun o e => hk₇ _ o (by simpa using JC) e) (fun h₈ hn₈ hs₈ => ?_) (by simp [compEnvC, relabel, hkind]))
            have hst₈ := W1.frame _ _ h₈ hst₇ fun b hb o e => hs₈.extBut b o (by rw [List.mem_singleton.mp hb]; exact Ne.symm JC) e
            obtain ⟨oJ, heJ⟩ : ∃ o, h₈.get? J = some o := ⟨_, hst₈⟩
            obtain ⟨oC', heC', hoC'⟩ := ns_obj hn₈
            have F₈ : Fr h₀ L h₈ m := (fr_but F₆ hk₇ JL J₀).change hs₈ hCL hC₀
            have N₇ : News h₀ L h₇ ((s₂.heap.objs.size, lst ys') :: (I, oI) :: news) := news_but N₆ hk₇ fun p hp => by
              rcases List.mem_cons.mp hp with rfl | hp
              · exact JD
              · exact (offI p hp).1
            have N₈ : News h₀ L h₈ ((J, oJ) :: (H2.objs.size, oC') :: (s₂.heap.objs.size, lst ys') :: (I, oI) :: news) := fun p hp => by
              rcases List.mem_cons.mp hp with rfl | hp
              · exact ⟨heJ, Ne.symm JL, J₀⟩
              · rcases List.mem_cons.mp hp with rfl | hp
                · exact ⟨heC', hCL, hC₀⟩
                · have z := N₇ p hp
                  refine ⟨hs₈.extBut _ _ ?_ z.1, z.2⟩
                  rcases List.mem_cons.mp hp with rfl | hp
                  · exact hDC
                  · exact (offI p hp).2.1
            have T := T2 j ys' tq J oJ H2.objs.size oC' s₂.heap.objs.size _ h₈ (tk₇ + 1) E'' hlt' g₆ hoC' (by simp) (fun z hz => by simp only [hz, if_false]; exact hm₆ z hz) F₈ N₈ offI3 ⟨Ne.symm JC, Ne.symm JD, Ne.symm hDC⟩
            refine wpAny_mono T (fun ok s₄ h₄' => ?_) fun _ _ e => e
            cases ok with
            | true =>
              simp only [if_true] at h₄' ⊢
              refine wpAny_mono h₄' (fun y s₅ h₅' => ?_) fun _ _ e => e
              obtain ⟨h₉, tk₉, news₉, rfl, F₉, N₉, off₉, -, rfl, g₉⟩ := h₅'
              have zJ := (N₉ (J, oJ) List.mem_cons_self).1
              have zC := (N₉ (H2.objs.size, oC') (List.mem_cons_of_mem _ List.mem_cons_self)).1
              have zD := (N₉ (s₂.heap.objs.size, lst ys') (List.mem_cons_of_mem _ (List.mem_cons_of_mem _ List.mem_cons_self))).1
              refine append_at (hsz := by show ys'.toArray.size ≤ sizeLine; rw [List.size_toArray]; exact gl _ _ g₆) zD fun h₁₀ hs₁₀ hD₁₀ => ?_
              refine ⟨n1 + 1 - (j + 1), by omega, h₁₀, tk₉, j + 1, ys' ++ [y], _, rfl, hlt', rfl, ?_, F₉.change hs₁₀ hDL hD₀, (hoC'.ns zC).sameBut hs₁₀ (Ne.symm hDC), (fun z hz => by simp only [hz, if_false]; exact hm₆ z hz), fun p hp => ?_, g₉⟩
              · show Heap.get? _ _ = _
                have e : h₈.get? J = some _ := hst₈
                rw [heJ] at e
                rw [← e]
                exact hs₁₀.extBut _ _ (Ne.symm JD) zJ
              · rcases List.mem_cons.mp hp with rfl | hp
                · exact ⟨hD₁₀.trans (congrArg some (lst_snoc ys' y)), hDL, hD₀⟩
                · have z := N₉ p (List.mem_cons_of_mem _ (List.mem_cons_of_mem _ (List.mem_cons_of_mem _ hp)))
                  exact ⟨hs₁₀.extBut _ _ (offI p hp).2.2 z.1, z.2⟩
            | false =>
              simp only [Bool.false_eq_true, if_false] at h₄' ⊢
              obtain ⟨h₉, tk₉, news₉, rfl, F₉, N₉, off₉, -, rfl, g₉⟩ := h₄'
              have zJ := (N₉ (J, oJ) List.mem_cons_self).1
              have zC := (N₉ (H2.objs.size, oC') (List.mem_cons_of_mem _ List.mem_cons_self)).1
              refine ⟨n1 + 1 - (j + 1), by omega, h₉, tk₉, j + 1, ys', _, rfl, hlt', rfl, ?_, F₉, hoC'.ns zC, (fun z hz => by simp only [hz, if_false]; exact hm₆ z hz), fun p hp => ?_, g₉⟩
              · show Heap.get? _ _ = _
                have e : h₈.get? J = some _ := hst₈
                rw [heJ] at e
                rw [← e]
                exact zJ
              · exact N₉ p (List.mem_cons_of_mem _ (List.mem_cons_of_mem _ hp))
          · obtain rfl : j = n1 := Nat.le_antisymm hj (Nat.not_lt.mp hlt')
            refine W1.done _ _ _ hst₆ fun h₇ tk₇ hk₇ => ?_
            have N₇ : News h₀ L h₇ ((s₂.heap.objs.size, lst ys') :: (I, oI) :: news) := news_but N₆ hk₇ fun p hp => by
              rcases List.mem_cons.mp hp with rfl | hp
              · exact JD
              · exact (offI p hp).1
            refine ⟨rfl, its.size + 1 - (i + 1), by omega, h₇, tk₇, i + 1, ys', m₁, rfl, hlt, rfl, ⟨?_, ⟨_, (N₇ _ (List.mem_cons_of_mem _ (List.mem_cons_of_mem _ hax))).1, rfl, kk, rfl⟩⟩, fr_but F₆ hk₇ JL J₀, hn₆.at' fun o e => hk₇ _ o (by simpa using JC) e, fun p hp => ?_, gK _ g₆⟩
            · obtain ⟨o, e, r⟩ := hst₃.1
              rw [heI] at e
              cases e
              exact ⟨oI, (N₇ (I, oI) (List.mem_cons_of_mem _ List.mem_cons_self)).1, r⟩
            · rcases List.mem_cons.mp hp with rfl | hp
              · exact N₇ _ List.mem_cons_self
              · exact N₇ p (List.mem_cons_of_mem _ (List.mem_cons_of_mem _ hp))
        exact ⟨_, start_in (inner _ rfl) (W1.self 0 _ _ _ st1 (inner _ rfl)), fun r s₅ hr => hr⟩
      · obtain rfl : i = its.size := Nat.le_antisymm hi (Nat.not_lt.mp hlt)
        refine W.done _ _ _ hst' fun h₂ tk₂ hk₂ => ?_
        exact hRR _ _ h₂ tk₂ _ ys (fr_but F' hk₂ hIL hI₀) (news_but N' hk₂ fun p hp => by
          rcases List.mem_cons.mp hp with rfl | hp
          · exact Ne.symm hDI
          · exact (off3 p hp).1) off₀.one (hn'.at' fun o e => hk₂ _ o (by simpa using Ne.symm hCI) e) hC₀ hD₀ hCL hDL (Ne.symm hDC) (fun p hp => (off3 p hp).2.1) g'
    · rcases List.mem_cons.mp hp with rfl | hp
      · exact ⟨hacc, hDL, hD₀⟩
      · exact ⟨old _ _ (N p hp).1, (N p hp).2⟩
  exact codeAny_compStart_list (loop _ rfl) (W.self 0 _ _ _ hst₁ (loop _ rfl))
end
end
section
open PySem PySem.W PyProof.Rows PySem.Calls PyProof.Rows.LCg
set_option maxRecDepth 100000
section
variable {prog : Program} {w : World} {A : Around} {E : Value → Shared → Prop} {s : Shared} {h₀ : Heap} {L : Addr} {m : Str → Option Value} {env : Env}
def SrcTwo (prog : Program) (w : World) (A : Around) (h₀ : Heap) (L : Addr) (m : Str → Option Value) (env : Env) (i1 ct elt : Expr) (x0 x1 : Str) (scope : Scope) (cl : List (Str × Addr)) (y : Str) (Q : Flow → Shared → Prop) (xv : Value) (s₁ : Shared) : Prop :=
  ∃ ax its kk news, xv = .ref ax ∧ A.handled = none ∧ Fr h₀ L s₁.heap m ∧ News h₀ L s₁.heap news ∧ (ax, ({ cls := .type "list", data := .seq its kk } : Obj)) ∈ news ∧
    ∀ s₂ : Shared, (∃ h, s₂ = { s₁ with heap := h }) → ∃ G : Nat → List Value → Prop, G 0 [] ∧ Outer2 prog w A h₀ L m env i1 ct elt x0 x1 scope cl s₂ its news G ∧ ∀ ys, G its.size ys → FinA h₀ L m s₂ y Q ys news
theorem assign_two {elt i0 i1 ct : Expr} {x0 x1 y : Str} {px0 px1 py : Pos} {scope : Scope} {cl : List (Str × Addr)} {pos spos : Pos} {Q : Flow → Shared → Prop} (F₀ : Fr h₀ L s.heap m) (hLe : env.locals = L)
    (hsw : swapsWith (.ListComp elt [⟨.Name x0 px0, i0, [], 0⟩, ⟨.Name x1 px1, i1, [ct], 0⟩] scope pos) (some (.Name y py)) spos.line env = pure true)
    (hclos : closureFor scope env = pure cl) (hcell : ∀ z ∈ scope.names, z.2 ≠ .cell) (hkind : scope.kind = .function)
    (hnames : ∀ z ∈ scope.names, z.2 = .local → scope.names.lookup z.1 = some .local) (hx0 : scope.names.lookup x0 = some .local) (hx1 : scope.names.lookup x1 = some .local)
    (hy : env.kindOf y = some .local) (hp : (env.scope.kind == .class || (env.scope.kind == .module && env.locals != env.globals)) = false)
    (h : wpAny (model prog w) A (eval i0 env) (fun xv s₁ => Hold (SrcTwo prog w A h₀ L m env i1 ct elt x0 x1 scope cl y Q xv s₁)) E s)
    (hs0 : ∀ x, foldedSetIterable i0 env x = pure x := by intro _; rfl) (hs : ∀ C x, foldedSetIterable i1 (compEnvC scope cl C env) x = pure x := by intro _ _; rfl) :
    wpAny (model prog w) A (exec (.Assign [.Name y py] (.ListComp elt [⟨.Name x0 px0, i0, [], 0⟩, ⟨.Name x1 px1, i1, [ct], 0⟩] scope pos) spos) env) Q E s := by
  subst hLe
  rw [exec_Assign_Name_used _ _ _ _ hsw]
  refine wpAny_bind (wpAny_standAt (wpAny_bind ?_))
  show wpAny _ A (do let _ ← comprehension (.ListComp elt [⟨.Name x0 px0, i0, [], 0⟩, ⟨.Name x1 px1, i1, [ct], 0⟩] scope pos) scope env _ (newList []) false (eval i0 env) (some (assign (.Name y py) env))) _ _ s
  refine wpAny_bind (wpAny_mono (wpAny_comprehension_free (use := some (assign (.Name y py) env)) (Q := fun _ s' => Q .next s') rfl hs0 hclos hkind hnames
    (wpAny_mono h (fun xv s₁ h₁ => ?_) fun _ _ e => e)) (fun _ s' hq => wpAny_pure (wpAny_pure hq)) fun _ _ e => e)
  obtain ⟨ax, its, kk, news, rfl, hh, F, N, hax, R⟩ := h₁
  have hl : s₁.heap.IsList ax its := ⟨_, (N _ hax).1, rfl, kk, rfl⟩
  have hlt : ax < s₁.heap.objs.size := by obtain ⟨_, e, _⟩ := hl; exact Heap.lt_size e
  refine wpAny_pyIter_list hl ?_
  have up : ∀ b o, s₁.heap.get? b = some o → (s₁.heap.push { cls := .type "list_iterator", data := .fields #[.ref ax, .int 0 0] }).get? b = some o := fun b o e => Heap.get?_push_of_some _ e
  obtain ⟨G, g0, O, fin⟩ := R { s₁ with heap := s₁.heap.push { cls := .type "list_iterator", data := .fields #[.ref ax, .int 0 0] } } ⟨_, rfl⟩
  refine block_two G rfl hh hax hcell hkind hx0 hx1 ⟨_, Heap.get?_push_size _ rfl, rfl, rfl⟩ (F.keeps up) (N.grown up) (Nat.ne_of_lt F.ns.lt) (next_is_new F) (fun p hp => Nat.ne_of_lt (Heap.lt_size (N p hp).1)) g0 O ?_ hs
  intro D C h' tk m' ys F' N' o1 hn hC₀ hD₀ hCL hDL hCD offC gE
  show wpAny _ A (assign (.Name y py) env (.ref D)) _ _ _
  refine wpAny_assign_Name (wpAny_storeName_local hy F'.ns (fun h₂ hn₂ hs₂ => ?_) hp)
  have hL₀ : h₀.get? env.locals = none := Heap.get?_none_of_le F'.above
  have F₂ : Fr h₀ env.locals h₂ (fun z => if z = y then some (.ref D) else m z) := ⟨hn₂, fun b o e => hs₂.extBut b o (fun q => by rw [q, hL₀] at e; cases e) (F'.keep b o e), F'.above⟩
  refine ⟨m', hn.sameBut hs₂ hCL, fun h'' hs'' => fin ys gE D h'' _ (F₂.change hs'' hCL hC₀) (fun p hp => ?_) o1⟩
  have z : h₂.get? p.1 = some p.2 := hs₂.extBut _ _ (N' p hp).2.1 (N' p hp).1
  refine ⟨hs''.extBut _ _ ?_ z, (N' p hp).2⟩
  rcases List.mem_cons.mp hp with rfl | hp
  · exact Ne.symm hCD
  · exact offC p hp
end
end
section
open PySem PySem.W PyProof.Rows PySem.Calls
theorem TellX.use {w : World} {k : Nat} {f : Value} {args : List Value} {pre news : List (Addr × Obj)} {post : Value → List (Addr × Obj) → Prop} {words : Str} {postE : Prop} (H : TellX w k f args pre news post words postE)
    {p : Program} {loose : List Str} {mean : ExcName → Option Value} {mg mb : Str → Option Value} {dp un : Nat} {gd : Option (List Code)} {cn : Str} {cs : Scope} {a : Addr} {ccd : Value} {cl : List (Str × Addr)} {outer : List Env}
    {A₀ : Around} {base h₀ : Heap} {L : Addr} {m : Str → Option Value} {s : Shared} {Q E : Value → Shared → Prop}
    (B : Below A₀ base outer h₀) (F : Fr h₀ L s.heap m) (X : (Mine.hd.heap_39 w.params).In h₀) (N : News h₀ L s.heap (pre ++ news)) (T : Top p loose mean mg mb h₀) (hk : cs.kind = .function) (hd : dp + k < 500) (hu : un + 10 * k < 500)
    (hret : ∀ r tl h' tk', Fr h₀ L h' m → News h₀ L h' (tl ++ news) → post r tl → Q r { s with heap := h', toks := tk' })
    (hrz : ∀ e t tw g h' tk', Fr h₀ L g m → RaisedK base (envX cn cs L a ccd cl :: outer) e (.type "RuntimeError") t [.str words tw] news h' → g.UpToSlots h' → postE → E (.ref e) { s with heap := h', toks := tk' }) :
    wpAny (model Challenge.rw_oy0162_01.row.prog w) (ktrTop dp un gd cn cs L a ccd cl outer) (call f args) Q E s :=
  H p loose mean mg mb dp un gd cn cs a ccd cl outer A₀ base h₀ L m s Q E B F X N T hk hd hu hret hrz
end
section
open PySem PySem.W PyProof.Rows PySem.Calls
theorem bInts_inj {a b : Array UInt8} (h : KBw.bInts a = KBw.bInts b) : a = b := by
  have h2 := List.map_inj_right (f := fun c : UInt8 => ((c.toNat : Nat) : Int)) (by
    intro x y e
    have : x.toNat = y.toNat := Int.ofNat.inj e
    exact UInt8.toNat_inj.mp this) |>.mp h
  exact Array.toList_inj.mp h2
end
section
open PySem PySem.W PyProof.Rows PySem.Calls
/-- what is wanted behind a walk, hidden -/
theorem opq {M : Model} {A : Around} {α : Type} {m : Sem α} {Q : α → Shared → Prop} {E : Value → Shared → Prop} {s : Shared} (h : ∀ Q' E', Q' = Q → E' = E → wpAny M A m Q' E' s) : wpAny M A m Q E s := h Q E rfl rfl
/-- a frame's map, named -/
theorem letMap {g : Heap} {L : Addr} {h : Heap} {m : Str → Option Value} {P : Prop} (F : Fr g L h m) (k : let mm := m; Fr g L h mm → P) : P := k F
/-- a written list of ints, hidden -/
theorem hideInts {g : Heap} {L : Addr} {h : Heap} {l : Addr} {vs : Array Value} {c : Nat} {rest : List (Addr × Obj)} {P : Prop} (N : News g L h ((l, listOf vs c) :: rest)) (ns : List Int) (hi : IntsAre vs.toList ns) (k : ∀ bvs, IntsAre bvs ns → News g L h ((l, listOf bvs.toArray c) :: rest) → P) : P :=
  k vs.toList hi (by simpa using N)
end
section
open PySem PySem.W PyProof.Rows PySem.Calls
/-- a ledger's two parts change places -/
theorem newsSwap {g : Heap} {L : Addr} {h : Heap} {a b : List (Addr × Obj)} (N : News g L h (a ++ b)) : News g L h (b ++ a) := fun p hp => N p (List.mem_append.mpr (List.mem_append.mp hp).symm)
/-- the second entry goes to the rest -/
theorem newsInit {g : Heap} {L : Addr} {h : Heap} {x y : Addr × Obj} {r R : List (Addr × Obj)} (N : News g L h ((x :: y :: r) ++ R)) : News g L h ((y :: R) ++ (x :: r)) := fun p hp => N p (by
  simp only [List.mem_append, List.mem_cons] at hp ⊢
  rcases hp with (h | h) | h | h
  · exact .inl (.inr (.inl h))
  · exact .inr h
  · exact .inl (.inl h)
  · exact .inl (.inr (.inr h)))
theorem allNe_lt {d : Nat} : ∀ {l : List (Addr × Obj)}, AllLt d l → AllNe d l
  | [], _ => trivial
  | _ :: _, ⟨h1, h2⟩ => ⟨Nat.ne_of_lt h1, allNe_lt h2⟩
end

section
open PySem PySem.W PyProof.Rows PySem.Calls PyProof.V PySem.Spec
set_option maxRecDepth 100000
section
variable {prog : Program} {w : World} {A₀ : Around} {E : Value → Shared → Prop} {s' : Shared} {h₀ h : Heap} {outer : List Env} {L a e t : Addr} {m : Str → Option Value} {name : Str} {scope : Scope} {cd : Value} {cl : List (Str × Addr)}
  {vs : List Value} {n : Str} {b₀ : Stmt} {suite : List Stmt} {pos np : Pos} {rest : List ExceptHandler} {Q : Flow → Shared → Prop} {news : List (Addr × Obj)}
  {p : Program} {loose : List Str} {mean : ExcName → Option Value} {mg mb : Str → Option Value} {x : Str} {X T' : String}
/-- an exception of a called def, taken by the frame's own try; the frame has cells -/
theorem caught_XB (K : Below A₀ h₀ outer h₀) (F : Fr h₀ L h m) (hsm : h.UpToSlots s'.heap) (R : RaisedK h₀ (envX name scope L a cd cl :: outer) e (.type X) t vs news s'.heap)
    (T : TopRead p loose mg mb h₀) (hv : bootBuiltins x = some (.type T')) (hmx : mg x = none)
    (hexc : isSubtype (.type T') (.type "BaseException") = pure true) (hnt : isSubtype (.type ((Manifest.find? T').elim "type" fun y => y.metatype)) (.type "tuple") = pure false) (hsub : isSubtype (.type X) (.type T') = pure true)
    (k : ∀ h' news₂ tk, Fr h₀ L h' (fun y => if y = n then some (.ref e) else m y) → News h₀ L h' news₂ → Got news₂ e t (.type X) vs → News h₀ L h' news →
      wpAny (model prog w) ((A₀.deeper (envX name scope L a cd cl)).mark (some (.ref e))) (execs (b₀ :: suite) (envX name scope L a cd cl))
        (fun f s₄ => wpAny (model prog w) (A₀.deeper (envX name scope L a cd cl)) (do bindName (envX name scope L a cd cl) n .none; unbindBehindTheSuite (envX name scope L a cd cl) n pos) (fun _ s₅ => Q f s₅) E s₄)
        (AsSuiteRaised (model prog w) ((A₀.deeper (envX name scope L a cd cl)).mark (some (.ref e))) (envX name scope L a cd cl) n pos (notedBy (model prog w) ((A₀.deeper (envX name scope L a cd cl)).mark (some (.ref e))) (envX name scope L a cd cl) (cameBackBy (model prog w) (A₀.deeper (envX name scope L a cd cl)) (envX name scope L a cd cl) E)))
        { s' with heap := h', toks := tk })
    (hn : x ≠ "__name__" := by decide +kernel)
    (hk : scope.kind = .function := by rfl) (hlo : (envX name scope L a cd cl).kindOf n = some .local := by rfl) (hx : (envX name scope L a cd cl).kindOf x = some .globalImplicit := by rfl) (hd : (x == ("__debug__" : Str)) = false := by decide) :
    wpAny (model prog w) (A₀.deeper (envX name scope L a cd cl)) (noteFrame (.ref e) (envX name scope L a cd cl))
      (fun _ s₂ => wpAny (model prog w) (A₀.deeper (envX name scope L a cd cl)) (setFlight (.ref e) none) (fun _ s₃ =>
        wpAny (model prog w) (A₀.deeper (envX name scope L a cd cl)) (handleBy (.ref e) (envX name scope L a cd cl) (.ExceptHandler (some (.Name x np)) (some n) (b₀ :: suite) pos :: rest)) Q E s₃) E s₂) E s' := by
  obtain ⟨⟨B, hB, hl, hfl, hnew⟩, htup⟩ := R
  have hL : B.get? L = none := by
    obtain ⟨_, ⟨L', _, hf, hn', _⟩, _⟩ := hfl.2.2.1
    obtain rfl : L = L' := Option.some.inj hf
    exact hn'
  refine wpAny_looks_onW (Around.frames_deeper K.stack) rfl hfl fun h₄ hheld₄ hsm₄ => ?_
  refine wpAny_landsW hheld₄ fun h₅ hheld hsm₅' => ?_
  have hsm₅ := hsm₄.trans hsm₅'
  have hheld' := flyingW_base hB hheld
  have F₅ := F.of_stays hheld'.1 (hsm.trans hsm₅)
  obtain ⟨ob, hob, hobc⟩ := hheld'.there
  refine wpAny_handleBy_builtin_as (X := X) (T := T') (b := true) hexc hnt hsub (Calls.Name_function_global hk hx (Calls.loadGlobal_builtin (env := envX name scope L a cd cl) (T.g.keeps F₅.keep) hmx (T.b.keeps F₅.keep) ((T.builtins x hn).trans hv) ⟨rfl, ⟨ob, hob, hobc⟩, ?_⟩) hd)
  refine lands_againW hheld fun h₆ hfl₆ hsm₆ => ?_
  have hfl₆' := flyingW_base hB hfl₆
  have F₆ := F.of_stays hfl₆'.1 ((hsm.trans hsm₅).trans hsm₆)
  obtain ⟨oe, ws, hoe, hoec, hoed, hoe0⟩ := hfl₆'.first
  obtain ⟨ot, nt, hot, hotc, hotd⟩ := (htup.of_slots hsm₅).of_slots hsm₆
  have N₆ := News.more F₆ (News.more F₆ News.nil hot (fun es n q => by rw [hotd] at q; cases q) (fresh_of_stays hB hnew)) hoe (fun es n q => by rw [hoed] at q; cases q) hfl₆'.2.1
  have Nl : News h₀ L h₆ news := fun q hq => ⟨hfl₆.1 _ _ (hl q hq).1, (fun z => by have := (hl q hq).1; rw [z, hL] at this; cases this), (hl q hq).2⟩
  refine wpAny_storeName_local (env := envX name scope L a cd cl) hlo F₆.ns (fun h₇ hn₇ hs₇ => ?_) (by show (scope.kind == .class || (scope.kind == .module && L != mainGlobals)) = false; rw [hk]; rfl)
  have F₇ := F₆.set hn₇ hs₇
  have N₇ : News h₀ L h₇ (_ ++ news) := News.set (fun q hq => (List.mem_append.mp hq).elim (N₆ q) (Nl q)) hs₇
  exact k h₇ _ _ F₇ (fun q hq => N₇ q (List.mem_append_left _ hq)) ⟨oe, ot, ws, nt, .head _, .tail _ (.head _), hoec, hoed, hoe0, hotc, hotd⟩ fun q hq => N₇ q (List.mem_append_right _ hq)
/-- the name of an except clause goes behind its suite -/
theorem name_goesX {A : Around} {s : Shared} {Q : Unit → Shared → Prop} (F : Fr h₀ L s.heap m) (N : News h₀ L s.heap news)
    (h : ∀ h' v, Fr h₀ L h' (fun x => if x = n then v else m x) → News h₀ L h' news → Q () { s with heap := h', toks := s.toks + 1 })
    (hk : scope.kind = .function := by rfl) (hl : (envX name scope L a cd cl).kindOf n = some .local := by rfl) :
    wpAny (model prog w) A (do bindName (envX name scope L a cd cl) n .none; unbindBehindTheSuite (envX name scope L a cd cl) n pos) Q E s :=
  wpAny_nameGoes_keeps hl F.ns (by show (scope.kind == .class || (scope.kind == .module && L != mainGlobals)) = false; rw [hk]; rfl) fun h' v hn hs => h h' v (F.set hn hs) (N.set hs)
end
end

end

section
open PySem PySem.W PyProof.Rows PySem.Calls
/-- what stays behind a cut, kept from the walk's eyes -/
structure Box (P : Prop) : Prop where
  out : P
/-- a place of law's walk: the tree there, as a function of what it names -/
abbrev GT := World → Addr → Addr → Value → Heap → Array GenState → Drawn → Nat → OsState → (Flow → Shared → Prop) → (Value → Shared → Prop) → Prop
/-- what holds all along law's walk -/
structure LawB (w : World) (p : Program) (loose : List Str) (mean : ExcName → Option Value) (mg mb : Str → Option Value) (g0 : Heap) (L : Addr) (gens : Array GenState) (drawn : Drawn) (os : OsState) (Qv : Flow → Shared → Prop) : Prop where
  K : Below callerA g0 [] g0
  X : (Mine.hd.heap_39 w.params).In g0
  T : Top p loose mean mg mb g0
  C : CodeHd g0 123 119
  lo : @LT.lt Nat _ 119 L ∧ @LT.lt Nat _ 105 L
  Q : ∀ h tk m v v', Fr g0 L h m → News g0 L h [(119, tabObj v), (105, tabObj v')] → Qv (.ret (.bool true)) { heap := h, gens := gens, drawn := drawn, toks := tk, os := os }
theorem news_pull {g : Heap} {L : Addr} {h : Heap} {p : Addr × Obj} {R : List (Addr × Obj)} (N : News g L h R) (hp : p ∈ R) : News g L h (p :: R) := fun q hq => by
  rcases List.mem_cons.mp hq with rfl | hq
  · exact N _ hp
  · exact N _ hq
theorem news_drop {g : Heap} {L : Addr} {h : Heap} {p : Addr × Obj} {R : List (Addr × Obj)} (N : News g L h (p :: R)) : News g L h R := fun q hq => N q (List.mem_cons_of_mem _ hq)
/-- a frame's name, named first -/
theorem fr_pull {g : Heap} {L : Addr} {h : Heap} {m : Str → Option Value} {x : Str} {v : Value} (F : Fr g L h m) (hx : m x = some v) : Fr g L h (fun z => if z = x then some v else m z) := by
  have e : (fun z => if z = x then some v else m z) = m := by
    funext z
    split
    · subst z; exact hx.symm
    · rfl
  rw [e]; exact F
theorem off1_mem {D : Addr} : ∀ {l : List (Addr × Obj)}, LCg.Off1 D l → ∀ p ∈ l, @Ne Nat p.1 D
  | [], _, _, hp => nomatch hp
  | q :: r, h, p, hp => by
    rcases List.mem_cons.mp hp with rfl | hp
    · exact h.1
    · exact off1_mem h.2 p hp
/-- the stream's ledger: the table goes behind -/
theorem news_str {g : Heap} {L : Addr} {h : Heap} {x t a b c : Addr × Obj} {O R : List (Addr × Obj)} (N : News g L h ((x :: t :: a :: b :: c :: O) ++ R)) : News g L h (x :: a :: b :: c :: (O ++ (t :: R))) := fun p hp => N p (by
  simp only [List.mem_append, List.mem_cons] at hp ⊢
  rcases hp with h | h | h | h | h | h | h
  · exact .inl (.inl h)
  · exact .inl (.inr (.inr (.inl h)))
  · exact .inl (.inr (.inr (.inr (.inl h))))
  · exact .inl (.inr (.inr (.inr (.inr (.inl h)))))
  · exact .inl (.inr (.inr (.inr (.inr (.inr h)))))
  · exact .inl (.inr (.inl h))
  · exact .inr h)
/-- a new entry goes into the stream's rest -/
theorem news_mid {g : Heap} {L : Addr} {h : Heap} {y x a b c : Addr × Obj} {O R : List (Addr × Obj)} (N : News g L h (y :: x :: a :: b :: c :: (O ++ R))) : News g L h (x :: a :: b :: c :: (O ++ (y :: R))) := fun p hp => N p (by
  simp only [List.mem_append, List.mem_cons] at hp ⊢
  rcases hp with h | h | h | h | h | h | h
  · exact .inr (.inl h)
  · exact .inr (.inr (.inl h))
  · exact .inr (.inr (.inr (.inl h)))
  · exact .inr (.inr (.inr (.inr (.inl h))))
  · exact .inr (.inr (.inr (.inr (.inr (.inl h)))))
  · exact .inl h
  · exact .inr (.inr (.inr (.inr (.inr (.inr h))))))
end

section
open PySem PySem.W PyProof.Rows PySem.Calls
set_option maxRecDepth 100000
set_option maxHeartbeats 0
set_option linter.unusedSimpArgs false
noncomputable def lawA : Σ' Q : GT, Box (∀ (w : World) (p : Program) (loose : List Str) (mean : ExcName → Option Value) (mg mb : Str → Option Value) (g0 : Heap) (L fa : Addr) (cd : Value) (h : Heap) (gens : Array GenState) (drawn : Drawn) (tk : Nat) (os : OsState) (Qv : Flow → Shared → Prop) (Ev : Value → Shared → Prop) (m0 : Str → Option Value) (ox5 ox4 ox3 ox2 ox1 : Obj) (la : Addr) (vs : List Value) (ns : List Int),
    LawB w p loose mean mg mb g0 L gens drawn os Qv → Fr g0 L h m0 → News g0 L h [(L + 1 + 1 + 1 + 1 + 1, ox5), (L + 1 + 1 + 1 + 1, ox4), (L + 1 + 1 + 1, ox3), (L + 1 + 1, ox2), (L + 1, ox1), (119, tabObj #[]), (105, tabObj #[])] →
    ox1.data = .cell (some (.ref la)) → ox2.data = .cell none → ox3.data = .cell none → ox4.data = .cell none → ox5.data = .cell none → g0.IsList la vs.toArray → IntsAre vs ns → ¬ (63 : Int) < (ns.length : Int) →
    Q w L fa cd h gens drawn tk os Qv Ev) → PySem.Challenge.rw_oy0162_01.Holds := by
  refine ⟨?Q, fun hP => ?main⟩
  case main =>
    w_top on
    k_with_none
    (k_with "exec For Name Name cons nil" => (k_here; refine wpAny_ForA ?_))
    (k_with "exec For Name Call cons nil" => (k_here; refine wpAny_ForA ?_))
    (k_with "exec For Name List cons nil" => (k_here; refine wpAny_ForA ?_))
    (k_with "exec For Tuple Call cons nil" => (k_here; refine wpAny_ForA ?_))
    (k_with "exec For Tuple Name cons cons" => (k_here; refine wpAny_ForA ?_))
    (k_with "exec For Name Name cons cons" => (k_here; refine wpAny_ForA ?_))
    k_with_none
    refine Mine.hd ?_
    k_go0
    all_goals (try k_fold)
    rename_i w s0 s1 mg mb G Y fa o pm cd doc ho hcd hg X V Tp B TE TW ns hs hlay0 hL hr hl2 wa1 wa2 la vs wa3 hLs ra w1 r0 hI hr2 hcond1 hcond2 hD h1 tk1 ox5 ox4 ox3 ox2 ox1 e5 e4 e3 e2 e1 X0 X' T' K' F' codeHd1 N' l0
    clear G Y ho hcd X V B TE TW hs hlay0 hL hr hl2 ra w1 r0 hr2 hcond2 hD X0 hT8 Tp hT9 hLs codeHd
    obtain ⟨p, loose, mean, T0⟩ : ∃ p loose mean, Top p loose mean mg mb (ghostOf s1.heap [(123, 119), (109, 105)]) := ⟨_, _, _, T'⟩
    refine opq ?_
    intro Qv Ev hQv hEv
    obtain ⟨m0, F0, hQ⟩ : ∃ m0, Fr (ghostOf s1.heap [(123, 119), (109, 105)]) s1.heap.objs.size h1 m0 ∧ ∀ h tk m v v', Fr (ghostOf s1.heap [(123, 119), (109, 105)]) s1.heap.objs.size h m → News (ghostOf s1.heap [(123, 119), (109, 105)]) s1.heap.objs.size h [(119, tabObj v), (105, tabObj v')] → Qv (.ret (.bool true)) { heap := h, gens := s1.gens, drawn := s1.drawn, toks := tk, os := s1.os } := by
      refine ⟨_, F', ?_⟩
      intro h tk m v v' F N
      subst hQv
      clear F' N' hP
      dsimp only
      refine ⟨?_, ?_⟩
      · (k_end; kc_close)
      · walk1
    clear hQv hEv F' T' hg
    dsimp only
    replace codeHd1 : CodeHd (ghostOf s1.heap [(123, 119), (109, 105)]) 123 119 := codeHd1
    revert K' X' T0 F0 hQ N' lifted l0 codeHd1
    generalize ghostOf s1.heap [(123, 119), (109, 105)] = g0
    generalize s1.heap.objs.size = L
    generalize s1.gens = gens
    generalize s1.drawn = drawn
    generalize s1.os = os
    intro X K hla N l0 T F hQ hCd
    exact hP.out w p loose mean mg mb g0 L fa cd h1 gens drawn tk1 os Qv Ev m0 ox5 ox4 ox3 ox2 ox1 la vs ns ⟨K, X, T, hCd, l0, hQ⟩ F N e1 e2 e3 e4 e5 hla hI hcond1
end

section
open PySem PySem.W PyProof.Rows PySem.Calls
set_option maxRecDepth 100000
set_option maxHeartbeats 0
set_option linter.unusedSimpArgs false
theorem letter_range {wide x : Int} (h : wide = 2 ∨ wide = 4 ∨ wide = 16 ∨ wide = 256) : 0 ≤ letterOf wide x ∧ letterOf wide x < 256 := by
  unfold letterOf
  rcases h with rfl | rfl | rfl | rfl
  · have := Int.fmod_nonneg_of_pos x (b := 2) (by decide)
    have := Int.fmod_lt_of_pos x (b := 2) (by decide)
    have e : Int.fdiv 255 (2 - 1) = 255 := by decide
    rw [e]; omega
  · have := Int.fmod_nonneg_of_pos x (b := 4) (by decide)
    have := Int.fmod_lt_of_pos x (b := 4) (by decide)
    have e : Int.fdiv 255 (4 - 1) = 85 := by decide
    rw [e]; omega
  · have := Int.fmod_nonneg_of_pos x (b := 16) (by decide)
    have := Int.fmod_lt_of_pos x (b := 16) (by decide)
    have e : Int.fdiv 255 (16 - 1) = 17 := by decide
    rw [e]; omega
  · have := Int.fmod_nonneg_of_pos x (b := 256) (by decide)
    have := Int.fmod_lt_of_pos x (b := 256) (by decide)
    have e : Int.fdiv 255 (256 - 1) = 1 := by decide
    rw [e]; omega
theorem rowOf_range {wide : Int} {once : Bool} {ns : List Int} (h : wide = 2 ∨ wide = 4 ∨ wide = 16 ∨ wide = 256) : ∀ x ∈ rowOf wide once ns, 0 ≤ x ∧ x < 256 := by
  have main : ∀ (ns row : List Int), (∀ x ∈ row, 0 ≤ x ∧ x < 256) → ∀ x ∈ ns.foldl (rowStep wide once) row, 0 ≤ x ∧ x < 256 := by
    intro ns
    induction ns with
    | nil => intro row hr; exact hr
    | cons n ns ih =>
      intro row hr
      refine ih _ ?_
      unfold rowStep
      split
      · exact hr
      · intro x hx
        rcases List.mem_append.mp hx with hx | hx
        · exact hr x hx
        · rw [List.mem_singleton.mp hx]; exact letter_range h
  exact main ns [] (by simp)
theorem menu4 {x : Int} (h0 : 0 ≤ x) (h1 : x < 4) : ([2, 4, 16, 256] : List Int).getD x.toNat 0 = 2 ∨ ([2, 4, 16, 256] : List Int).getD x.toNat 0 = 4 ∨ ([2, 4, 16, 256] : List Int).getD x.toNat 0 = 16 ∨ ([2, 4, 16, 256] : List Int).getD x.toNat 0 = 256 := by
  have : x = 0 ∨ x = 1 ∨ x = 2 ∨ x = 3 := by omega
  rcases this with rfl | rfl | rfl | rfl <;> decide
theorem menu4_range {x : Int} (h : x = 2 ∨ x = 4 ∨ x = 16 ∨ x = 256) : 2 ≤ x ∧ x ≤ 256 := by omega
noncomputable def lawB : Σ' Q : GT, Box (∀ (w : World) (p : Program) (loose : List Str) (mean : ExcName → Option Value) (mg mb : Str → Option Value) (g0 : Heap) (L fa : Addr) (cd : Value) (h : Heap) (gens : Array GenState) (drawn : Drawn) (tk : Nat) (os : OsState) (Qv : Flow → Shared → Prop) (Ev : Value → Shared → Prop) (m1 : Str → Option Value)
    (ox5 oH oT : Obj) (cD H U : Addr) (cv hv tv : List Value) (cz hn tn : List Int) (hc tc : Nat) (kd : Int) (tkd : Tok) (R : List (Addr × Obj)),
    LawB w p loose mean mg mb g0 L gens drawn os Qv → Fr g0 L h (fun z => if z = Str.ofString "kind" then some (Value.int kd tkd) else if z = Str.ofString "cells" then some (Value.ref cD) else m1 z) → News g0 L h ((L + 1 + 1 + 1 + 1 + 1, ox5) :: (119, tabObj #[]) :: (105, tabObj #[]) :: R) →
    ox5.data = .cell none → oH.data = .cell (some (.ref H)) → oT.data = .cell (some (.ref U)) → (cD, LCg.lst cv) ∈ R → (H, listOf hv.toArray hc) ∈ R → (U, listOf tv.toArray tc) ∈ R → (L + 1 + 1 + 1, oH) ∈ R → (L + 1 + 1 + 1 + 1, oT) ∈ R →
    IntsAre cv cz → cz.length = 25 → IntsAre hv hn → hn.length ≤ 12 → (∀ x ∈ hn, 0 ≤ x ∧ x < 256) → IntsAre tv tn → tn.length ≤ 12 → (∀ x ∈ tn, 0 ≤ x ∧ x < 256) → 0 ≤ kd ∧ kd < 16 → AllNe (L + 1 + 1 + 1 + 1 + 1) R → AllNe 119 R → AllNe 105 R →
    Q w L fa cd h gens drawn tk os Qv Ev) → PySem.Challenge.rw_oy0162_01.Holds := by
  refine ⟨?Q, fun hP => @PSigma.snd _ _ lawA (Box.mk ?main)⟩
  case main =>
    w_top on
    k_with_none
    (k_with "exec For Name Name cons nil" => (k_here; refine wpAny_ForA ?_))
    (k_with "exec For Name Call cons nil" => (k_here; refine wpAny_ForA ?_))
    (k_with "exec For Name List cons nil" => (k_here; refine wpAny_ForA ?_))
    (k_with "exec For Tuple Call cons nil" => (k_here; refine wpAny_ForA ?_))
    (k_with "exec For Tuple Name cons cons" => (k_here; refine wpAny_ForA ?_))
    (k_with "exec For Name Name cons cons" => (k_here; refine wpAny_ForA ?_))
    k_with_none
    (k_with "exec Assign cons ListComp" => (k_here; k_dflt (refine LCg.Assign_ListComp_U (F₀ := by k_asm) (by rfl) (by with_unfolding_all rfl) (by with_unfolding_all rfl) (by decide) (by rfl) (by decide) (by rfl) (by rfl) (by rfl) ?_)))
    (k_with "CompSrc" => (refine hold_it ?_))
    (k_with "CompEnd" => (refine hold_it ?_))
    (k_with "call builtin:sum" => (refine hold_it ?_))
    (k_with "call ref" => (k_here; (with_reducible show wpAny _ _ (call (Value.ref _) _) _ _ _); refine hold_it ?_))
    (k_with "subscriptTail" => (k_here; (with_reducible show wpAny _ _ (subscriptTail (Expr.List _ _) _ (Value.ref _) (Value.int _ _)) _ _ _); refine hold_it ?_))
    (k_with "execs cons" => (k_here; refine hold_it ?_))
    intro w p loose mean mg mb g0 L fa cd h1 gens drawn tk1 os Qv Ev m0 ox5 ox4 ox3 ox2 ox1 la vs ns hB F N e1 e2 e3 e4 e5 hla hI hcond1
    have hfill : (Mine.hd.heap_39 w.params).In default → Challenge.rw_oy0162_01 = Challenge.rw_oy0162_01 := by
      k_fill
      intro _; rfl
    clear hfill
    show wpAny _ _ _ _ _ _
    have K := hB.K
    have X := hB.X
    have T := hB.T
    have l0 := hB.lo
    -- base
    have ne2 : AllNe (L + 1 + 1) [(L + 1 + 1 + 1 + 1 + 1, ox5), (L + 1 + 1 + 1 + 1, ox4), (L + 1 + 1 + 1, ox3), (119, tabObj #[]), (105, tabObj #[])] := by
      simp only [AllNe, and_true]; omega
    generalize hR0 : [(L + 1 + 1 + 1 + 1 + 1, ox5), (L + 1 + 1 + 1 + 1, ox4), (L + 1 + 1 + 1, ox3), ((119 : Addr), tabObj #[]), ((105 : Addr), tabObj #[])] = R0 at ne2
    have N1 := kst_newsOf (l' := (L + 1 + 1, ox2) :: (L + 1, ox1) :: R0) N (by subst hR0; kcf_all)
    clear N
    refine wpAny_execs_cons ?_
    k_steps
    unfold Hold
    rename (News _ _ _ _) => N2
    rename (Fr _ _ _ _) => F2
    rename_i b hb1 lb hb2 o2 d2
    refine hideInts N2 [11, 8, 70, 3, 7, 1, 12, 0, 9, 5, 14, 2, 11, 6, 8, 4, 7, 12, 15, 9, 2, 13, 6, 10, 8] (by repeat (first | exact IntsAre.nil | refine IntsAre.cons _ _ ?_)) ?_
    clear N2
    intro bvs hbvs N2
    have hbvl := hbvs.length
    clear lb
    dsimp only
    -- cells
    refine wpAny_execs_cons ?_
    k_steps
    unfold Hold
    refine LCg.CompSrc.range (n := 25) (by rfl) (by k_asm) (by k_asm) (by assumption) (by first | decide | rfl) (by first | rfl | decide) (by first | size_fits | exact Nat.le_of_ble_eq_true rfl) ?_
    intro g'
    refine rest_all (fun i ys => ∃ zs, IntsAre ys zs ∧ zs.length = i) trivial ⟨[], .nil, rfl⟩ ?_ ?_
    · rintro i ys v I oI C oC D m₂ h tk E' hi ⟨zs, hz, hzl⟩ hv hC hx F1 N1 off ne
      obtain ⟨t, rfl⟩ := hv
      have off' := off
      simp only [LCg.Off3, and_true] at off
      k_steps
      unfold Hold
      rename (News _ _ _ _) => N2
      rename (Fr _ _ _ _) => F2
      dsimp only at N2
      refine sum_ledger (by rfl) F2 N2 (by kcf_m) (hI.pick _ _ _) ?_
      intro h3 tk3 t3 F3 N3
      dsimp only
      k_steps
      unfold Hold
      refine comp_end (by assumption) (by assumption) off' trivial (by kcf_all) ⟨zs ++ [_], intsAre_push hz, by rw [List.length_append, hzl]; rfl⟩
    · rintro cv ⟨cz, hcz, hczl⟩
      unfold LCg.FinA
      intro cD h tk F1 N1 o1
      simp only [LCg.Off1, and_true] at o1
      have o1R := o1.2.2.2
      clear o1
      have N2 := kst_newsOf (l' := (cD, LCg.lst cv) :: R0) N1 (by kcf_all)
      try clear N1
      repeat (with_reducible rename (IsRange _ _ _ _ _ _ _ _) => hbad; clear hbad)
      have hcvl := hcz.length
      clear hI hbvs hbvl
      dsimp only
      -- wide
      refine wpAny_execs_cons ?_
      k_steps
      unfold Hold
      rename (News _ _ _ _) => N3
      rename (Fr _ _ _ _) => F3
      have hm4 : 0 ≤ (cz.getD 2 0).fmod 4 ∧ (cz.getD 2 0).fmod 4 < 4 := ⟨Int.fmod_nonneg_of_pos _ (by decide), Int.fmod_lt_of_pos _ (by decide)⟩
      refine item_anyK (ns := [2, 4, 16, 256]) (News.isList N3 (by kcf_m)) (.cons _ _ (.cons _ _ (.cons _ _ (.cons _ _ .nil)))) ?i1 ?i2 ?i3 ?_ ?i6
      case i1 => exact hm4.1
      case i2 => exact hm4.2
      case i3 => exact Int.lt_of_lt_of_le hm4.2 (by decide)
      case i6 => with_unfolding_all rfl
      intro tw
      have N4 := news_drop N3
      clear N3
      dsimp only
      k_steps
      unfold Hold
      try clear F3
      rename (Fr _ _ _ _) => F5
      obtain ⟨wd, hwset, F4⟩ : ∃ wd, (wd = 2 ∨ wd = 4 ∨ wd = 16 ∨ wd = 256) ∧ Fr g0 L _ (fun z => if z = Str.ofString "wide" then some (Value.int wd tw) else if z = Str.ofString "cells" then some (Value.ref cD) else m0 z) := ⟨_, menu4 hm4.1 hm4.2, F5⟩
      clear F5 hm4
      have hwide := menu4_range hwset
      dsimp only
      -- once, kind
      refine wpAny_execs_cons ?_
      k_steps
      unfold Hold
      dsimp only
      refine wpAny_execs_cons ?_
      k_steps
      unfold Hold
      rename (Fr _ _ _ _) => F5
      rename (News _ _ _ _) => N5
      obtain ⟨on, kd, tkd, hkd, F6⟩ : ∃ on kd tkd, (0 ≤ kd ∧ kd < 16) ∧ Fr g0 L _ (fun z => if z = Str.ofString "kind" then some (Value.int kd tkd) else if z = Str.ofString "once" then some (Value.bool on) else if z = Str.ofString "wide" then some (Value.int wd tw) else if z = Str.ofString "cells" then some (Value.ref cD) else m0 z) := ⟨_, _, _, ⟨Int.fmod_nonneg_of_pos _ (by decide), Int.fmod_lt_of_pos _ (by decide)⟩, F5⟩
      clear F5
      have ne3 : AllNe (L + 1 + 1 + 1) [(L + 1 + 1 + 1 + 1 + 1, ox5), (L + 1 + 1 + 1 + 1, ox4), (119, tabObj #[]), (105, tabObj #[])] := by
        clear o1R ne2
        simp only [AllNe, and_true]; omega
      subst hR0
      simp only [LCg.Off1, and_true] at o1R
      generalize hR1 : [(L + 1 + 1 + 1 + 1 + 1, ox5), (L + 1 + 1 + 1 + 1, ox4), ((119 : Addr), tabObj #[]), ((105 : Addr), tabObj #[])] = R1 at ne3
      have N6 := kst_newsOf (l' := (L + 1 + 1 + 1, ox3) :: (cD, LCg.lst cv) :: R1) N5 (by subst hR1; kcf_all)
      have neC : @Ne Nat (L + 1 + 1 + 1) cD := o1R.2.2.1
      clear N5 ne2
      dsimp only
      -- here
      refine wpAny_execs_cons ?_
      k_steps
      unfold Hold
      rename (Fr _ _ _ _) => F7
      rename (News _ _ _ _) => N7
      rename_i hI2 hC2 hL2 ltD
      refine Tell.use (row_tell _ (wide := wd) (once := on) (c := 0) (by kcf_m) hI2 (by omega) hwide.1 hwide.2) K F7 X N7 T rfl (by decide) (by decide) ?_
      rintro r tl h2 tk2 F8 N8 ⟨H, hv, hc, rfl, rfl, hH, ltH⟩
      replace ltH := allLt_of ltH
      simp only [AllLt] at ltH
      simp only [List.cons_append, List.nil_append] at N8
      obtain ⟨hn, hHn, hnl, hnr⟩ : ∃ hn, IntsAre hv hn ∧ hn.length ≤ 12 ∧ ∀ x ∈ hn, 0 ≤ x ∧ x < 256 := ⟨_, hH, Nat.le_trans (rowOf_len _ _ _) (by have := Int.fmod_nonneg_of_pos (cz.getD 0 0) (b := 13) (by decide); have := Int.fmod_lt_of_pos (cz.getD 0 0) (b := 13) (by decide); clear o1R neC ltD ltH l0; omega), rowOf_range hwset⟩
      clear hH hI2 hC2 hL2 N7 F7
      dsimp only
      k_steps
      unfold Hold
      rename (Fr _ _ _ _) => F9
      rename (News _ _ _ _) => N9
      rename_i oH dH
      have ne4 : AllNe (L + 1 + 1 + 1 + 1) [(H, listOf hv.toArray hc), (L + 1 + 1 + 1, oH), (L + 1 + 1 + 1 + 1 + 1, ox5), (119, tabObj #[]), (105, tabObj #[])] := by
        subst hR1
        simp only [AllLt, and_true] at ltH
        clear o1R ltD ne3 neC
        simp only [AllNe, and_true]; omega
      have ltH' : AllLt H R1 := ltH.2.2.2
      have ltH3 : @LT.lt Nat _ (L + 1 + 1 + 1) H := ltH.2.1
      have ltHc : @LT.lt Nat _ cD H := ltH.2.2.1
      clear ltH ltD
      subst hR1
      generalize hR2 : [(H, listOf hv.toArray hc), (L + 1 + 1 + 1, oH), (L + 1 + 1 + 1 + 1 + 1, ox5), ((119 : Addr), tabObj #[]), ((105 : Addr), tabObj #[])] = R2 at ne4
      have N10 := kst_newsOf (l' := (L + 1 + 1 + 1 + 1, ox4) :: (cD, LCg.lst cv) :: R2) N9 (by subst hR2; kcf_all)
      have neC4 : @Ne Nat (L + 1 + 1 + 1 + 1) cD := o1R.2.1
      try clear N9
      clear ne3
      dsimp only
      -- there
      refine wpAny_execs_cons ?_
      k_steps
      unfold Hold
      rename (Fr _ _ _ _) => F11
      rename (News _ _ _ _) => N11
      rename_i hI2 hC2 hL2 ltD
      refine Tell.use (row_tell _ (wide := wd) (once := on) (c := 0) (by kcf_m) hI2 (by omega) hwide.1 hwide.2) K F11 X N11 T rfl (by decide) (by decide) ?_
      rintro r tl h3 tk3 F12 N12 ⟨U, tv, tc, rfl, rfl, hU, ltU⟩
      replace ltU := allLt_of ltU
      simp only [AllLt] at ltU
      simp only [List.cons_append, List.nil_append] at N12
      obtain ⟨tn, hTn, tnl, tnr⟩ : ∃ tn, IntsAre tv tn ∧ tn.length ≤ 12 ∧ ∀ x ∈ tn, 0 ≤ x ∧ x < 256 := ⟨_, hU, Nat.le_trans (rowOf_len _ _ _) (by have := Int.fmod_nonneg_of_pos (cz.getD 1 0) (b := 11) (by decide); have := Int.fmod_lt_of_pos (cz.getD 1 0) (b := 11) (by decide); clear o1R neC neC4 ltD ltU ltH3 ltHc l0; omega), rowOf_range hwset⟩
      clear hU hI2 hC2 hL2 N11 F11
      dsimp only
      k_steps
      unfold Hold
      rename (Fr _ _ _ _) => F13
      rename (News _ _ _ _) => N13
      rename_i oT dT
      have ltUR : AllLt U R2 := ltU.2.2.2
      have ltU4 : @LT.lt Nat _ (L + 1 + 1 + 1 + 1) U := ltU.2.1
      clear ltU ltD
      subst hR2
      obtain ⟨R, hR⟩ : ∃ R, R = [(U, listOf tv.toArray tc), (L + 1 + 1 + 1 + 1, oT), (H, listOf hv.toArray hc), (L + 1 + 1 + 1, oH), (cD, LCg.lst cv)] := ⟨_, rfl⟩
      have n5 : AllNe (L + 1 + 1 + 1 + 1 + 1) R := by
        subst hR
        simp only [AllLt, and_true] at ltUR ltH'
        clear neC neC4 ne4
        simp only [AllNe, and_true]; omega
      have n119 : AllNe 119 R := by
        subst hR
        simp only [AllLt, and_true] at ltUR ltH'
        clear neC neC4 ne4
        simp only [AllNe, and_true]; omega
      have n105 : AllNe 105 R := by
        subst hR
        simp only [AllLt, and_true] at ltUR ltH'
        clear neC neC4 ne4
        simp only [AllNe, and_true]; omega
      have N14 := kst_newsOf (l' := (L + 1 + 1 + 1 + 1 + 1, ox5) :: (119, tabObj #[]) :: (105, tabObj #[]) :: R) N13 (by subst hR; kcf_all)
      clear N13
      dsimp only
      exact hP.out w p loose mean mg mb g0 L fa cd _ gens drawn tk3 os Qv Ev _ ox5 oH oT cD H U cv hv tv cz hn tn hc tc kd tkd R hB (fr_pull (fr_pull F13 (x := Str.ofString "cells") (by rfl)) (x := Str.ofString "kind") (by rfl)) N14 e5 dH dT (by subst hR; kcf_m) (by subst hR; kcf_m) (by subst hR; kcf_m) (by subst hR; kcf_m) (by subst hR; kcf_m) hcz hczl hHn hnl hnr hTn tnl tnr hkd n5 n119 n105
end

section
open PySem PySem.W PyProof.Rows PySem.Calls
set_option maxRecDepth 100000
set_option maxHeartbeats 0
set_option linter.unusedSimpArgs false
theorem stream_in {hn tn : List Int} {cb : Int} (hnl : hn.length ≤ 12) (hnr : ∀ x ∈ hn, 0 ≤ x ∧ x < 256) (tnl : tn.length ≤ 12) (tnr : ∀ x ∈ tn, 0 ≤ x ∧ x < 256) (hc2 : 0 ≤ cb ∧ cb < 256) : ∀ k ∈ [(hn.length : Int)] ++ hn ++ [(tn.length : Int)] ++ tn ++ [cb], 0 ≤ k ∧ k < 256 := by
  intro k hk
  simp only [List.mem_append, List.mem_singleton] at hk
  rcases hk with ((((rfl | hk) | rfl) | hk) | rfl)
  · omega
  · exact hnr k hk
  · omega
  · exact tnr k hk
  · exact hc2
theorem stream_len {hn tn : List Int} {cb : Int} (hnl : hn.length ≤ 12) (tnl : tn.length ≤ 12) : ([(hn.length : Int)] ++ hn ++ [(tn.length : Int)] ++ tn ++ [cb]).length ≤ 16777216 := by
  simp only [List.length_append, List.length_cons, List.length_nil]; omega
theorem bb_first (hn tn : List Int) (cb : Int) : (([(hn.length : Int)] ++ hn ++ [(tn.length : Int)] ++ tn ++ [cb]).drop (0 + 1)).take hn.length = hn := by
  simp
noncomputable def lawC : Σ' Q : GT, Box (∀ (w : World) (p : Program) (loose : List Str) (mean : ExcName → Option Value) (mg mb : Str → Option Value) (g0 : Heap) (L fa : Addr) (cd : Value) (h : Heap) (gens : Array GenState) (drawn : Drawn) (tk : Nat) (os : OsState) (Qv : Flow → Shared → Prop) (Ev : Value → Shared → Prop) (m1 : Str → Option Value)
    (ox5 oH oT : Obj) (oneA othA H U : Addr) (onev ys hv tv : List Value) (hn tn : List Int) (onec hc tc : Nat) (kd : Int) (tkd : Tok) (ps' : Array Value) (R : List (Addr × Obj)),
    LawB w p loose mean mg mb g0 L gens drawn os Qv → Fr g0 L h (fun z => if z = Str.ofString "kind" then some (Value.int kd tkd) else if z = Str.ofString "one" then some (Value.ref oneA) else if z = Str.ofString "other" then some (Value.ref othA) else m1 z) → News g0 L h ((L + 1 + 1 + 1 + 1 + 1, ox5) :: (119, tabObj #[]) :: R) →
    ox5.data = .cell none → oH.data = .cell (some (.ref H)) → oT.data = .cell (some (.ref U)) → (105, tabObj ps') ∈ R → (H, listOf hv.toArray hc) ∈ R → (U, listOf tv.toArray tc) ∈ R → (L + 1 + 1 + 1, oH) ∈ R → (L + 1 + 1 + 1 + 1, oT) ∈ R → (oneA, listOf onev.toArray onec) ∈ R → (othA, LCg.lst ys) ∈ R →
    IntsAre hv hn → hn.length ≤ 12 → (∀ x ∈ hn, 0 ≤ x ∧ x < 256) → IntsAre tv tn → tn.length ≤ 12 → (∀ x ∈ tn, 0 ≤ x ∧ x < 256) → IntsAre onev hn → IntsAre ys tn → 0 ≤ kd ∧ kd < 16 → AllNe (L + 1 + 1 + 1 + 1 + 1) R → AllNe 119 R →
    Q w L fa cd h gens drawn tk os Qv Ev) → PySem.Challenge.rw_oy0162_01.Holds := by
  refine ⟨?Q, fun hP => @PSigma.snd _ _ lawB (Box.mk ?main)⟩
  case main =>
    w_top on
    k_with_none
    (k_with "exec For Name Name cons nil" => (k_here; refine wpAny_ForA ?_))
    (k_with "exec For Name Call cons nil" => (k_here; refine wpAny_ForA ?_))
    (k_with "exec For Name List cons nil" => (k_here; refine wpAny_ForA ?_))
    (k_with "exec For Tuple Call cons nil" => (k_here; refine wpAny_ForA ?_))
    (k_with "exec For Tuple Name cons cons" => (k_here; refine wpAny_ForA ?_))
    (k_with "exec For Name Name cons cons" => (k_here; refine wpAny_ForA ?_))
    k_with_none
    (k_with "exec Assign cons ListComp" => (k_here; k_dflt (refine LCg.Assign_ListComp_U (F₀ := by k_asm) (by rfl) (by with_unfolding_all rfl) (by with_unfolding_all rfl) (by decide) (by rfl) (by decide) (by rfl) (by rfl) (by rfl) ?_)))
    (k_with "exec Assign cons ListComp" => (k_here; (with_reducible show wpAny _ _ (exec (Stmt.Assign _ (Expr.ListComp _ (_ :: _ :: _) _ _) _) _) _ _ _); refine hold_it ?_))
    (k_with "CompSrcT" => (refine hold_it ?_))
    (k_with "CompSrc" => (refine hold_it ?_))
    (k_with "CompEnd" => (refine hold_it ?_))
    (k_with "call builtin:sum" => (refine hold_it ?_))
    (k_with "call ref" => (k_here; (with_reducible show wpAny _ _ (call (Value.ref _) _) _ _ _); refine hold_it ?_))
    (k_with "subscriptTail" => (k_here; (with_reducible show wpAny _ _ (subscriptTail (Expr.List _ _) _ (Value.ref _) (Value.int _ _)) _ _ _); refine hold_it ?_))
    (k_with "call type:bytes" => (k_here; refine hold_it ?_))
    (k_with "call type:list" => (k_here; (with_reducible show wpAny _ _ (call (Value.type "list") [Value.bytes _ _]) _ _ _); refine hold_it ?_))
    (k_with "eval ListComp" => (k_here; refine hold_it ?_))
    (k_with "getMethod ref" => (k_here; k_dflt (refine' getmethod_K ?N ?f ?d ?D ?_; (case N => k_asm); (case f => k_mem); (case d => k_mem); (case D => assumption)); intro _))
    (k_with "exec If" => (k_here; refine wpAny_If ?_))
    (k_with "eval BoolOp" => (k_here; (with_reducible show wpAny _ _ (eval (Expr.BoolOp BoolOp.Or (_ :: _ :: _) _) _) _ _ _); refine hold_it ?_))
    (k_with "binaryOp Sub int int" => (k_here; (with_reducible show wpAny _ _ (binaryOp Operator.Sub (Value.int _ _) (Value.int (List.getD _ _ _) _)) _ _ _); refine hold_it ?_))
    (k_with "call builtin:isinstance" => (k_here; (with_reducible show wpAny _ _ (call _ [Value.ref _, Value.type _]) _ _ _); k_dflt (refine' kia_one kitx_list ?X ?c ?ee ?nb ?_; (case X => k_in); (case c => kit_at); (case ee => kit_is); (case nb => kit_nb); k_whole; intro _)))
    (k_with "execs cons" => (k_here; refine hold_it ?_))
    intro w p loose mean mg mb g0 L fa cd h1 gens drawn tk1 os Qv Ev m1 ox5 oH oT cD H U cv hv tv cz hn tn hc tc kd tkd R hB F N e5 dH dT hmD hmH hmU hmcH hmcT hcz hczl hHn hnl hnr hTn tnl tnr hkd n5 n119 n105
    have hfill : (Mine.hd.heap_39 w.params).In default → Challenge.rw_oy0162_01 = Challenge.rw_oy0162_01 := by
      k_fill
      intro _; rfl
    clear hfill
    show wpAny _ _ _ _ _ _
    have K := hB.K
    have X := hB.X
    have T := hB.T
    have hC := hB.C
    have hcvl := hcz.length
    have hTl := hTn.length
    have hHl := hHn.length
    have lo := hB.lo
    have n105' : AllNe 105 ((L + 1 + 1 + 1 + 1 + 1, ox5) :: (119, tabObj #[]) :: R) := ⟨Nat.ne_of_gt (Nat.lt_of_lt_of_le lo.2 (Nat.le_add_right L 5)), by decide, n105⟩
    generalize hR0 : ((L + 1 + 1 + 1 + 1 + 1, ox5) :: ((119 : Addr), tabObj #[]) :: ((105 : Addr), tabObj #[]) :: R : List (Addr × Obj)) = R0 at N
    have sR0 : ∀ q ∈ R, q ∈ R0 := by subst hR0; intro q hq; exact List.mem_cons_of_mem _ (List.mem_cons_of_mem _ (List.mem_cons_of_mem _ hq))
    have zD := sR0 _ hmD
    have zH := sR0 _ hmH
    have zU := sR0 _ hmU
    have zcH := sR0 _ hmcH
    have zcT := sR0 _ hmcT
    have N1 := news_pull (news_pull (news_pull (news_pull (news_pull N zD) (List.mem_cons_of_mem _ zU)) (List.mem_cons_of_mem _ (List.mem_cons_of_mem _ zcT))) (List.mem_cons_of_mem _ (List.mem_cons_of_mem _ (List.mem_cons_of_mem _ zH)))) (List.mem_cons_of_mem _ (List.mem_cons_of_mem _ (List.mem_cons_of_mem _ (List.mem_cons_of_mem _ zcH))))
    clear zD zU zH zcT zcH sR0
    clear N
    -- stream
    refine wpAny_execs_cons ?_
    k_steps
    unfold Hold
    rename (Fr _ _ _ _) => F5
    rename (News _ _ _ _) => N5
    rename_i hI5 ltD5
    clear ltD5
    obtain ⟨cb, hcb, hc2, hI5'⟩ : ∃ cb, (cz.getD 2 0).fmod 256 = cb ∧ (0 ≤ cb ∧ cb < 256) ∧ IntsAre _ ([(hn.length : Int)] ++ hn ++ [(tn.length : Int)] ++ tn ++ [cb]) := ⟨_, rfl, ⟨Int.fmod_nonneg_of_pos _ (by decide), Int.fmod_lt_of_pos _ (by decide)⟩, hI5⟩
    have hIn : ∀ k ∈ [(hn.length : Int)] ++ hn ++ [(tn.length : Int)] ++ tn ++ [cb], 0 ≤ k ∧ k < 256 := stream_in hnl hnr tnl tnr hc2
    refine KBa.make_K F5 N5 rfl (News.isList N5 (by kcf_m)) hI5' hIn (stream_len hnl tnl) ?_
    intro h6 tb6 tk6 F6 N6 _
    clear F5 hI5 hI5'
    generalize hbb : byteArr ([(hn.length : Int)] ++ hn ++ [(tn.length : Int)] ++ tn ++ [cb]) = bb
    have hbi : KBw.bInts bb = [(hn.length : Int)] ++ hn ++ [(tn.length : Int)] ++ tn ++ [cb] := by rw [← hbb]; exact KBa.ints_make hIn
    have hbs : bb.size = hn.length + tn.length + 3 := by rw [← KBw.ints_length, hbi]; simp only [List.length_append, List.length_cons, List.length_nil]; clear n5 n119 n105 n105'; omega
    clear hbb N5
    dsimp only
    k_steps
    unfold Hold
    repeat (with_reducible rename (@LT.lt Nat _ _ _ ∧ _) => hbad; clear hbad)
    subst hR0
    clear hIn
    have N7 : News g0 L h6 ((105, tabObj #[]) :: (L + 1 + 1 + 1 + 1 + 1, ox5) :: (119, tabObj #[]) :: R) := kst_newsOf N6 (by kcf_all)
    clear N6
    generalize hR1 : ((L + 1 + 1 + 1 + 1 + 1, ox5) :: ((119 : Addr), tabObj #[]) :: R : List (Addr × Obj)) = R1 at n105' N7
    refine Tell.use (stream_tell w (b := bb) (rest := R1) n105' (Nat.le_trans (Nat.le_of_eq hbs) (by clear n5 n119 n105; omega))) K F6 X N7 T rfl (by decide) (by decide) ?_
    rintro r tl h7 tk7 F7 N8 ⟨lP, tp0, ps', f1, fd1, fD, oD, f2, fd2, O', rfl, rfl, hfD, hord, hRd⟩
    clear F6 N7
    replace hRd : ReadOk w bb lP f1 fd1 fD oD f2 fd2 O' := hRd
    have N9 : News g0 L h7 ((lP, listOf #[.int (0 : Nat) tp0] 0) :: (f1, fnObj (some fD) fd1) :: (fD, oD) :: (f2, fnObj none fd2) :: (O' ++ ((105, tabObj ps') :: R1))) := news_str N8
    have ordP := hord (lP, listOf #[.int 0 tp0] 0) List.mem_cons_self
    have hneP : AllNe lP ((105, tabObj ps') :: R1) := ⟨Nat.ne_of_lt ordP.2, allNe_lt ordP.1⟩
    clear N8 hord ordP
    have z5 : (L + 1 + 1 + 1 + 1 + 1, ox5) ∈ ((105, tabObj ps') :: R1) := by subst hR1; exact List.mem_cons_of_mem _ List.mem_cons_self
    have z9 : (119, tabObj #[]) ∈ ((105, tabObj ps') :: R1) := by subst hR1; exact List.mem_cons_of_mem _ (List.mem_cons_of_mem _ List.mem_cons_self)
    have zR : ∀ q ∈ R, q ∈ ((105, tabObj ps') :: R1) := by subst hR1; intro q hq; exact List.mem_cons_of_mem _ (List.mem_cons_of_mem _ (List.mem_cons_of_mem _ hq))
    have z0 : (105, tabObj ps') ∈ ((105, tabObj ps') :: R1) := List.mem_cons_self
    clear hR1 n105'
    generalize ((105, tabObj ps') :: R1) = R2 at *
    generalize hR3 : ((f1, fnObj (some fD) fd1) :: (fD, oD) :: (f2, fnObj none fd2) :: (O' ++ R2)) = R3 at N9
    dsimp only
    k_steps
    unfold Hold
    rename (Fr _ _ _ _) => F8
    rename (News _ _ _ _) => N10
    subst hR3
    dsimp only
    -- item
    refine wpAny_execs_cons ?_
    k_steps
    unfold Hold
    refine Tell.use (bytes1_tell w hRd hfD (p := 0) (tp := tp0) (cc := 0) (m := hn.length) (by rw [hbi]; rfl) (by rw [hbs]; clear n5 n119 n105; omega) (Nat.le_trans hnl (by decide)) hneP) K (by k_asm) X (by k_asm) T rfl (by decide) (by decide) ?_
    rintro r tl h10 tk10 F10 N12 ⟨b2, tb2, tp2, rfl, hb2, rfl⟩
    rw [hbi] at hb2
    have hb2' : KBw.bInts b2 = hn := hb2.trans (bb_first hn tn cb)
    clear hb2
    generalize hR3 : ((f1, fnObj (some fD) fd1) :: (fD, oD) :: (f2, fnObj none fd2) :: (O' ++ R2)) = R3 at N12
    have N13 : News g0 L h10 ((lP, listOf #[.int ((0 + 1 + hn.length : Nat) : Int) tp2] 0) :: R3) := N12
    clear N12
    try clear N10
    try clear F8
    dsimp only
    k_steps
    unfold Hold
    dsimp only
    -- one, other
    refine wpAny_execs_cons ?_
    k_steps
    unfold Hold
    rename (Fr _ _ _ _) => F12
    rename (News _ _ _ _) => N14
    refine list_bytes rfl F12 N14 hb2' (Nat.le_trans hnl (by decide)) ?_
    intro oneA onev onec h13 tk13 F13 N15 hone lt13
    replace lt13 := allLt_of lt13
    have l13 : @LT.lt Nat _ lP oneA := lt13.1
    have l13R : AllLt oneA R3 := lt13.2
    clear F12 N14 lt13
    dsimp only
    k_steps
    unfold Hold
    refine ListComp_str F13 (by with_unfolding_all rfl) (by decide) (by rfl) (by decide) (by rfl) ?_ (by intro _; rfl)
    k_steps
    unfold Hold
    subst hR3
    have o5 : @Ne Nat oneA (L + 1 + 1 + 1 + 1 + 1) := Nat.ne_of_gt (kst_ltOf l13R _ (List.mem_cons_of_mem _ (List.mem_cons_of_mem _ (List.mem_cons_of_mem _ (List.mem_append_right _ z5)))))
    have o9 : @Ne Nat oneA 119 := Nat.ne_of_gt (kst_ltOf l13R _ (List.mem_cons_of_mem _ (List.mem_cons_of_mem _ (List.mem_cons_of_mem _ (List.mem_append_right _ z9)))))
    have hneQ : AllNe lP ((oneA, listOf onev.toArray onec) :: R2) := ⟨Nat.ne_of_gt l13, hneP⟩
    have y5 : (L + 1 + 1 + 1 + 1 + 1, ox5) ∈ ((oneA, listOf onev.toArray onec) :: R2) := List.mem_cons_of_mem _ z5
    have y9 : (119, tabObj #[]) ∈ ((oneA, listOf onev.toArray onec) :: R2) := List.mem_cons_of_mem _ z9
    have yR : ∀ q ∈ R, q ∈ ((oneA, listOf onev.toArray onec) :: R2) := fun q hq => List.mem_cons_of_mem _ (zR q hq)
    have y0 : (105, tabObj ps') ∈ ((oneA, listOf onev.toArray onec) :: R2) := List.mem_cons_of_mem _ z0
    have y1 : (oneA, listOf onev.toArray onec) ∈ ((oneA, listOf onev.toArray onec) :: R2) := List.mem_cons_self
    have N16 := news_mid N15
    clear N15 hneP z5 z9 zR z0 l13 l13R
    generalize ((oneA, listOf onev.toArray onec) :: R2) = R4 at *
    refine Tell.use (string1_tell w hRd hfD (p := 0 + 1 + hn.length) (tp := tp2) (cc := 0) (m := tn.length) (by rw [hbi]; exact bb_at hn tn cb) (by rw [hbs]; clear n5 n119 n105; omega) (Nat.le_trans tnl (by decide)) hneQ) K F13 X N16 T rfl (by decide) (by decide) ?_
    rintro r tl h14 tk14 F14 N17 ⟨sx, ts14, tp14, rfl, hsx, rfl⟩
    rw [hbi] at hsx
    have hsx' : (sx.cps.toList.map fun c : Nat => (c : Int)) = tn := hsx.trans (bb_drop hn tn cb)
    have hsl : sx.cps.size = tn.length := by rw [← hsx']; simp
    clear hsx F13 N16
    generalize hR5 : ((f1, fnObj (some fD) fd1) :: (fD, oD) :: (f2, fnObj none fd2) :: (O' ++ R4)) = R5 at N17
    have N18 : News g0 L h14 ((lP, listOf #[.int ((0 + 1 + hn.length + 1 + tn.length : Nat) : Int) tp14] 0) :: R5) := N17
    clear N17
    refine ⟨sx, ts14, _, rfl, rfl, F14, N18, by rw [sizeLine_eq, hsl]; exact Nat.le_trans tnl (by decide), ?_⟩
    intro g15
    refine rest_all (fun i ys => IntsAre ys (tn.take i)) trivial .nil ?_ ?_
    · rintro i ys v I oI C oC D m₂ h tk E' hi hG ⟨c, u, hc, rfl⟩ hC hx F16 N16 off ne
      have off' := off
      simp only [LCg.Off3, and_true] at off
      clear F14 N18
      k_steps
      unfold Hold
      refine comp_end (by assumption) (by assumption) off' trivial (by intro p hp; exact hp) ?_
      have hci : tn[i]? = some (c : Int) := by rw [← hsx']; simp [hc]
      rw [List.take_add_one, hci]
      exact intsAre_push hG
    · intro ys hys
      rw [hsl, List.take_length] at hys
      unfold LCg.FinE
      intro othA h16 tk16 F16 N16 o16
      have hyl := hys.length
      clear F14 N18 hsx' hsl
      dsimp only
      k_steps
      unfold Hold
      rename (Fr _ _ _ _) => F17
      rename (News _ _ _ _) => N17
      subst hR5
      have p5 : @Ne Nat othA (L + 1 + 1 + 1 + 1 + 1) := Ne.symm (off1_mem o16 _ (List.mem_cons_of_mem _ (List.mem_cons_of_mem _ (List.mem_cons_of_mem _ (List.mem_cons_of_mem _ (List.mem_append_right _ y5))))))
      have p9 : @Ne Nat othA 119 := Ne.symm (off1_mem o16 _ (List.mem_cons_of_mem _ (List.mem_cons_of_mem _ (List.mem_cons_of_mem _ (List.mem_cons_of_mem _ (List.mem_append_right _ y9))))))
      have hneU : AllNe lP ((othA, LCg.lst ys) :: R4) := ⟨Ne.symm o16.1, hneQ⟩
      clear o16 hneQ
      have x5 : (L + 1 + 1 + 1 + 1 + 1, ox5) ∈ ((othA, LCg.lst ys) :: R4) := List.mem_cons_of_mem _ y5
      have x9 : (119, tabObj #[]) ∈ ((othA, LCg.lst ys) :: R4) := List.mem_cons_of_mem _ y9
      have xR : ∀ q ∈ R, q ∈ ((othA, LCg.lst ys) :: R4) := fun q hq => List.mem_cons_of_mem _ (yR q hq)
      have x0 : (105, tabObj ps') ∈ ((othA, LCg.lst ys) :: R4) := List.mem_cons_of_mem _ y0
      have x1 : (oneA, listOf onev.toArray onec) ∈ ((othA, LCg.lst ys) :: R4) := List.mem_cons_of_mem _ y1
      have x2 : (othA, LCg.lst ys) ∈ ((othA, LCg.lst ys) :: R4) := List.mem_cons_self
      have N18 := kst_newsOf (l' := (lP, listOf #[.int ((0 + 1 + hn.length + 1 + tn.length : Nat) : Int) tp14] 0) :: (f1, (⟨.type "function", some fD, .func fd1, #[]⟩ : Obj)) :: (fD, oD) :: (f2, (⟨.type "function", none, .func fd2, #[]⟩ : Obj)) :: (O' ++ ((othA, LCg.lst ys) :: R4))) (news_mid (news_drop N17)) (fun _ hp => hp)
      clear N17 y5 y9 yR y0 y1
      try clear N16
      try clear F16
      repeat (with_reducible rename (@LT.lt Nat _ _ _ ∧ _) => hbad; clear hbad)
      generalize ((othA, LCg.lst ys) :: R4) = R6 at *
      dsimp only
      -- the test
      refine wpAny_execs_cons ?_
      k_steps
      unfold Hold
      rename (Fr _ _ _ _) => F18
      refine Tell.use (hRd _ (0 + 1 + hn.length + 1 + tn.length) tp14 0 2 _ (by rw [hbs]; clear n5 n119 n105; omega) (by decide) hneU) K F18 X N18 T rfl (by decide) (by decide) ?_
      rintro r tl h18 tk18 F19 N19 ⟨b18, tb18, tp18, rfl, hb18, rfl⟩
      rw [hbi, bb_last] at hb18
      clear F18 N18
      have N20 : News g0 L h18 ((cD, LCg.lst cv) :: R6) := kst_newsOf N19 (by
        intro q hq
        refine List.mem_append_right _ (List.mem_cons_of_mem _ (List.mem_cons_of_mem _ (List.mem_cons_of_mem _ (List.mem_append_right _ ?_))))
        rcases List.mem_cons.mp hq with rfl | hq
        · exact xR _ hmD
        · exact hq)
      clear N19 hRd hfD hbi hbs
      dsimp only
      k_steps
      unfold Hold
      rename (Fr _ _ _ _) => F20
      rename (News _ _ _ _) => N21
      have hcb1 : ∀ k ∈ [cb], 0 ≤ k ∧ k < 256 := by intro k hk; rw [List.mem_singleton.mp hk]; exact hc2
      refine KBa.make_K (ns := [cb]) F20 N21 rfl (News.isList N21 (by kcf_m)) (by rw [← hcb]; exact .cons _ _ .nil) hcb1 (by show (1 : Nat) ≤ _; decide) ?_
      intro h20 tb20 tk20 F21 N22 _
      clear F20
      have hbe : b18 = byteArr [cb] := bInts_inj (by rw [hb18, KBa.ints_make hcb1])
      rw [← hbe]
      have N23 : News g0 L h20 R6 := kst_newsOf N22 (by kcf_all)
      clear N21 N22
      dsimp only
      k_steps
      · rename ((_ != _) = true) => hbad
        exact absurd hbad (by rw [bne_self_eq_false]; decide)
      unfold Hold
      with_reducible rename ((_ != _) = false) => hbad
      clear hbad
      rename (Fr _ _ _ _) => F22
      rename (News _ _ _ _) => N24
      have N25 := kst_newsOf (l' := (L + 1 + 1 + 1 + 1 + 1, ox5) :: (119, tabObj #[]) :: (oneA, listOf onev.toArray onec) :: (othA, LCg.lst ys) :: (105, tabObj ps') :: R) N24 (by
        refine List.forall_mem_cons.mpr ⟨x5, List.forall_mem_cons.mpr ⟨x9, List.forall_mem_cons.mpr ⟨x1, List.forall_mem_cons.mpr ⟨x2, List.forall_mem_cons.mpr ⟨x0, xR⟩⟩⟩⟩⟩)
      clear N24
      have q5 : @Ne Nat 105 (L + 1 + 1 + 1 + 1 + 1) := Nat.ne_of_lt (Nat.lt_of_lt_of_le hB.lo.2 (Nat.le_add_right L 5))
      try dsimp only
      exact hP.out w p loose mean mg mb g0 L fa cd h20 gens drawn tk20 os Qv Ev _ ox5 oH oT oneA othA H U onev ys hv tv hn tn onec hc tc kd tkd ps' _ hB (fr_pull (fr_pull (fr_pull F22 (x := Str.ofString "other") (by rfl)) (x := Str.ofString "one") (by rfl)) (x := Str.ofString "kind") (by rfl)) N25 e5 dH dT
        (List.mem_cons_of_mem _ (List.mem_cons_of_mem _ List.mem_cons_self)) (List.mem_cons_of_mem _ (List.mem_cons_of_mem _ (List.mem_cons_of_mem _ hmH))) (List.mem_cons_of_mem _ (List.mem_cons_of_mem _ (List.mem_cons_of_mem _ hmU))) (List.mem_cons_of_mem _ (List.mem_cons_of_mem _ (List.mem_cons_of_mem _ hmcH))) (List.mem_cons_of_mem _ (List.mem_cons_of_mem _ (List.mem_cons_of_mem _ hmcT))) List.mem_cons_self (List.mem_cons_of_mem _ List.mem_cons_self)
        hHn hnl hnr hTn tnl tnr hone hys hkd ⟨o5, p5, q5, n5⟩ ⟨o9, p9, (show (105 : Nat) ≠ 119 by decide), n119⟩
end

section
open PySem PySem.W PyProof.Rows PySem.Calls
set_option maxRecDepth 100000
set_option maxHeartbeats 0
set_option linter.unusedSimpArgs false
theorem step_app {w : World} {k : Nat} {f : Addr} {tl R3 : List (Addr × Obj)} {P : Int → Int → Value → List (Addr × Obj) → Prop} (hs : ∀ (rest' : List (Addr × Obj)) (mode : Int) (t : Tok) (x : Int) (t' : Tok), Tell w k (.ref f) [.int mode t, .int x t'] [] (tl ++ rest') (P mode x)) :
    ∀ (rest' : List (Addr × Obj)) (mode : Int) (t : Tok) (x : Int) (t' : Tok), Tell w k (.ref f) [.int mode t, .int x t'] [] ((tl ++ R3) ++ rest') (P mode x) := fun rest' mode t x t' => by
  rw [List.append_assoc]; exact hs _ mode t x t'
noncomputable def lawD : Σ' Q : GT, Box (∀ (w : World) (p : Program) (loose : List Str) (mean : ExcName → Option Value) (mg mb : Str → Option Value) (g0 : Heap) (L fa : Addr) (cd : Value) (h : Heap) (gens : Array GenState) (drawn : Drawn) (tk : Nat) (os : OsState) (Qv : Flow → Shared → Prop) (Ev : Value → Shared → Prop) (m1 : Str → Option Value)
    (ox5 oH oT : Obj) (oneA othA oR H U : Addr) (onev ys rv hv tv : List Value) (hn tn : List Int) (onec hc tc cr : Nat) (ps' gps : Array Value) (R : List (Addr × Obj)),
    LawB w p loose mean mg mb g0 L gens drawn os Qv → Fr g0 L h (fun z => if z = Str.ofString "openings" then some (Value.ref oR) else if z = Str.ofString "one" then some (Value.ref oneA) else if z = Str.ofString "other" then some (Value.ref othA) else m1 z) → News g0 L h ((L + 1 + 1 + 1 + 1 + 1, ox5) :: R) →
    ox5.data = .cell none → oH.data = .cell (some (.ref H)) → oT.data = .cell (some (.ref U)) → (119, tabObj gps) ∈ R → (105, tabObj ps') ∈ R → (H, listOf hv.toArray hc) ∈ R → (U, listOf tv.toArray tc) ∈ R → (L + 1 + 1 + 1, oH) ∈ R → (L + 1 + 1 + 1 + 1, oT) ∈ R → (oneA, listOf onev.toArray onec) ∈ R → (othA, LCg.lst ys) ∈ R → (oR, listOf rv.toArray cr) ∈ R →
    IntsAre hv hn → hn.length ≤ 12 → (∀ x ∈ hn, 0 ≤ x ∧ x < 256) → IntsAre tv tn → tn.length ≤ 12 → (∀ x ∈ tn, 0 ≤ x ∧ x < 256) → IntsAre onev hn → IntsAre ys tn → IntsAre rv (tabOf hn tn).1 → AllNe (L + 1 + 1 + 1 + 1 + 1) R →
    Q w L fa cd h gens drawn tk os Qv Ev) → PySem.Challenge.rw_oy0162_01.Holds := by
  refine ⟨?Q, fun hP => @PSigma.snd _ _ lawC (Box.mk ?main)⟩
  case main =>
    w_top on
    k_with_none
    (k_with "exec For Name Name cons nil" => (k_here; refine wpAny_ForA ?_))
    (k_with "exec For Name Call cons nil" => (k_here; refine wpAny_ForA ?_))
    (k_with "exec For Name List cons nil" => (k_here; refine wpAny_ForA ?_))
    (k_with "exec For Tuple Call cons nil" => (k_here; refine wpAny_ForA ?_))
    (k_with "exec For Tuple Name cons cons" => (k_here; refine wpAny_ForA ?_))
    (k_with "exec For Name Name cons cons" => (k_here; refine wpAny_ForA ?_))
    k_with_none
    (k_with "exec Assign cons ListComp" => (k_here; k_dflt (refine LCg.Assign_ListComp_U (F₀ := by k_asm) (by rfl) (by with_unfolding_all rfl) (by with_unfolding_all rfl) (by decide) (by rfl) (by decide) (by rfl) (by rfl) (by rfl) ?_)))
    (k_with "exec Assign cons ListComp" => (k_here; (with_reducible show wpAny _ _ (exec (Stmt.Assign _ (Expr.ListComp _ (_ :: _ :: _) _ _) _) _) _ _ _); refine hold_it ?_))
    (k_with "CompSrcT" => (refine hold_it ?_))
    (k_with "CompSrc" => (refine hold_it ?_))
    (k_with "CompEnd" => (refine hold_it ?_))
    (k_with "call builtin:sum" => (refine hold_it ?_))
    (k_with "call ref" => (k_here; (with_reducible show wpAny _ _ (call (Value.ref _) _) _ _ _); refine hold_it ?_))
    (k_with "subscriptTail" => (k_here; (with_reducible show wpAny _ _ (subscriptTail (Expr.List _ _) _ (Value.ref _) (Value.int _ _)) _ _ _); refine hold_it ?_))
    (k_with "call type:bytes" => (k_here; refine hold_it ?_))
    (k_with "call type:list" => (k_here; (with_reducible show wpAny _ _ (call (Value.type "list") [Value.bytes _ _]) _ _ _); refine hold_it ?_))
    (k_with "eval ListComp" => (k_here; refine hold_it ?_))
    (k_with "getMethod ref" => (k_here; k_dflt (refine' getmethod_K ?N ?f ?d ?D ?_; (case N => k_asm); (case f => k_mem); (case d => k_mem); (case D => assumption)); intro _))
    (k_with "exec If" => (k_here; refine wpAny_If ?_))
    (k_with "eval BoolOp" => (k_here; (with_reducible show wpAny _ _ (eval (Expr.BoolOp BoolOp.Or (_ :: _ :: _) _) _) _ _ _); refine hold_it ?_))
    (k_with "binaryOp Sub int int" => (k_here; (with_reducible show wpAny _ _ (binaryOp Operator.Sub (Value.int _ _) (Value.int (List.getD _ _ _) _)) _ _ _); refine hold_it ?_))
    (k_with "call builtin:isinstance" => (k_here; (with_reducible show wpAny _ _ (call _ [Value.ref _, Value.type _]) _ _ _); k_dflt (refine' kia_one kitx_list ?X ?c ?ee ?nb ?_; (case X => k_in); (case c => kit_at); (case ee => kit_is); (case nb => kit_nb); k_whole; intro _)))
    (k_with "execs cons" => (k_here; refine hold_it ?_))
    intro w p loose mean mg mb g0 L fa cd h1 gens drawn tk1 os Qv Ev m1 ox5 oH oT oneA othA H U onev ys hv tv hn tn onec hc tc kd tkd ps' R hB F N e5 dH dT hm0 hmH hmU hmcH hmcT hm1 hm2 hHn hnl hnr hTn tnl tnr hone hys hkd n5 n119
    have hfill : (Mine.hd.heap_39 w.params).In default → Challenge.rw_oy0162_01 = Challenge.rw_oy0162_01 := by
      k_fill
      intro _; rfl
    clear hfill
    show wpAny _ _ _ _ _ _
    have K := hB.K
    have X := hB.X
    have T := hB.T
    have hC := hB.C
    have n1 : @Ne Nat oneA 119 := allNe_to n119 _ hm1
    have n2 : @Ne Nat othA 119 := allNe_to n119 _ hm2
    generalize hR1 : ((L + 1 + 1 + 1 + 1 + 1, ox5) :: ((119 : Addr), tabObj #[]) :: R : List (Addr × Obj)) = R1 at N
    have zR : ∀ q ∈ R, q ∈ R1 := by subst hR1; exact fun q hq => List.mem_cons_of_mem _ (List.mem_cons_of_mem _ hq)
    have N1 := kst_newsOf (l' := (L + 1 + 1 + 1, oH) :: (L + 1 + 1 + 1 + 1, oT) :: (H, listOf hv.toArray hc) :: (U, listOf tv.toArray tc) :: R1) N (List.forall_mem_cons.mpr ⟨zR _ hmcH, List.forall_mem_cons.mpr ⟨zR _ hmcT, List.forall_mem_cons.mpr ⟨zR _ hmH, List.forall_mem_cons.mpr ⟨zR _ hmU, fun _ hq => hq⟩⟩⟩⟩)
    clear N zR
    -- openings, ends
    refine wpAny_execs_cons ?_
    k_steps
    unfold Hold
    refine Tell.use (table_tell w (one := hn) (other := tn) hHn hTn hnl tnl) K F X (news_drop (news_drop N1)) T rfl (by decide) (by decide) ?_
    rintro r tl h23 tk23 F23 N23 ⟨eD, oR, tX, rv, ev, cr, ce, cx, rfl, rfl, hrv, hev, ltD, hDX, hRX, hDR, ltR⟩
    simp only [List.cons_append, List.nil_append] at N23
    subst hR1
    have d5 : @Ne Nat eD (L + 1 + 1 + 1 + 1 + 1) := Nat.ne_of_gt ltD.2.2.1
    have d9 : @Ne Nat eD 119 := Nat.ne_of_gt ltD.2.2.2.1
    have r5 : @Ne Nat oR (L + 1 + 1 + 1 + 1 + 1) := Nat.ne_of_gt ltR.2.2.1
    have r9 : @Ne Nat oR 119 := Nat.ne_of_gt ltR.2.2.2.1
    clear F N1 ltD ltR hDX hRX hDR
    have N24 := kst_newsOf (l' := (tX, (⟨.type "tuple", none, .seq #[.ref oR, .ref eD] cx, #[]⟩ : Obj)) :: (119, tabObj #[]) :: (oneA, listOf onev.toArray onec) :: (oR, listOf rv.toArray cr) :: (eD, listOf ev.toArray ce) :: (L + 1 + 1 + 1 + 1 + 1, ox5) :: R) N23 (by
      refine List.forall_mem_cons.mpr ⟨by kcf_m, List.forall_mem_cons.mpr ⟨by kcf_m, List.forall_mem_cons.mpr ⟨?_, List.forall_mem_cons.mpr ⟨by kcf_m, List.forall_mem_cons.mpr ⟨by kcf_m, List.forall_mem_cons.mpr ⟨by kcf_m, ?_⟩⟩⟩⟩⟩⟩
      · exact List.mem_cons_of_mem _ (List.mem_cons_of_mem _ (List.mem_cons_of_mem _ (List.mem_cons_of_mem _ (List.mem_cons_of_mem _ (List.mem_cons_of_mem _ (List.mem_cons_of_mem _ hm1))))))
      · exact fun q hq => List.mem_cons_of_mem _ (List.mem_cons_of_mem _ (List.mem_cons_of_mem _ (List.mem_cons_of_mem _ (List.mem_cons_of_mem _ (List.mem_cons_of_mem _ (List.mem_cons_of_mem _ hq)))))))
    have hr9 : AllNe 119 ((oR, listOf rv.toArray cr) :: (eD, listOf ev.toArray ce) :: (L + 1 + 1 + 1 + 1 + 1, ox5) :: R) := ⟨r9, d9, Nat.ne_of_gt (Nat.lt_of_lt_of_le hB.lo.1 (Nat.le_add_right L 5)), n119⟩
    clear N23
    generalize hR2 : ((oR, listOf rv.toArray cr) :: (eD, listOf ev.toArray ce) :: (L + 1 + 1 + 1 + 1 + 1, ox5) :: R : List (Addr × Obj)) = R2 at N24 hr9
    dsimp only
    k_steps
    unfold Hold
    rename (News _ _ _ _) => N25
    have N26 := news_drop N25
    clear N25
    dsimp only
    -- the first list of rights
    refine wpAny_execs_cons ?_
    k_steps
    unfold Hold
    refine Tell.use (step_tell w (codes := []) hone hnl (.inl ⟨rfl, rfl⟩) n1 hr9) K (by k_asm) X N26 T rfl (by decide) (by decide) ?_
    rintro r tl h26 tk26 F26 N27 ⟨g1, gd1, g1c, g1o, g1d, g1p, gps, gcd, rfl, rfl, hgt, -, -, hstep⟩
    have hR2o : (othA, LCg.lst ys) ∈ (oneA, listOf onev.toArray onec) :: R2 := by subst hR2; exact List.mem_cons_of_mem _ (List.mem_cons_of_mem _ (List.mem_cons_of_mem _ (List.mem_cons_of_mem _ hm2)))
    have N28 := news_pull N27 (List.mem_append_right _ hR2o)
    clear N26 N27
    generalize hR3 : ((oneA, listOf onev.toArray onec) :: R2) = R3 at *
    dsimp only
    k_steps
    unfold Hold
    refine Tell.use (reduce_tell w (stepOf hn) hys (step_app (R3 := R3) hstep)) K F26 X N28 T rfl (by decide) (by decide) ?_
    rintro r tl h28 tk28 F28 N29 ⟨rfl, t28, rfl⟩
    generalize hR4 : (((g1, (⟨.type "function", none, .func gd1, #[]⟩ : Obj)) :: (g1c, g1o) :: (g1d, g1p) :: (119, tabObj gps) :: gcd) ++ R3) = R4 at N28
    have N30 : News g0 L h28 R4 := by subst hR4; exact news_drop N29
    clear N28 N29 F26 hstep
    dsimp only
    k_steps
    unfold Hold
    rename (Fr _ _ _ _) => F29
    rename (News _ _ _ _) => N31
    refine Tell.use (filemode_tell w) K F29 X N31 T rfl (by decide) (by decide) ?_
    rintro r tl h30 tk30 F30 N32 ⟨rfl, t30, rfl⟩
    rw [shown_one hnl hkd]
    have N33 : News g0 L h30 ((oR, listOf rv.toArray cr) :: R4) := news_pull N32 (by subst hR4; subst hR3; subst hR2; exact List.mem_append_right _ (List.mem_cons_of_mem _ List.mem_cons_self))
    clear F29 N31 N32
    dsimp only
    k_steps
    unfold Hold
    refine Tell.use (listing_tell w hrv (by rw [tab_len1]; exact Nat.succ_le_succ hnl) (by rw [tab_len1]; exact Nat.succ_le_succ (Nat.zero_le _)) (fun k => lacks_01 hnl k)) K F30 X N33 T rfl (by decide) (by decide) ?_
    rintro r tl h33 tk33 F33 N34 ⟨rfl, t33, rfl⟩
    have N35 : News g0 L h33 R4 := news_drop N34
    clear F30 N33 N34
    dsimp only
    k_steps
    · rename ((_ != _) = true) => hbad
      exact absurd hbad (by rw [bne_self_eq_false]; decide)
    unfold Hold
    with_reducible rename ((_ != _) = false) => hbad
    clear hbad
    subst hR4
    subst hR3
    have hr9' : AllNe 119 R2 := hr9
    have N36 := kst_newsOf (l' := ((119, tabObj gps) :: gcd) ++ (othA, LCg.lst ys) :: (oneA, listOf onev.toArray onec) :: R2) N35 (by
      intro q hq
      rcases List.mem_append.mp hq with hq | hq
      · exact List.mem_append_left _ (List.mem_cons_of_mem _ (List.mem_cons_of_mem _ (List.mem_cons_of_mem _ hq)))
      · rcases List.mem_cons.mp hq with rfl | hq
        · exact List.mem_append_right _ hR2o
        · exact List.mem_append_right _ hq)
    have hr9'' : AllNe 119 ((oneA, listOf onev.toArray onec) :: R2) := ⟨n1, hr9⟩
    clear N35 hr9
    generalize hR3 : ((oneA, listOf onev.toArray onec) :: R2) = R3 at N36 hr9''
    try dsimp only
    -- the second list of rights
    refine wpAny_execs_cons ?_
    k_steps
    unfold Hold
    refine Tell.use (step_tell w (codes := gcd) hys tnl (.inr hgt) n2 hr9'') K (by k_asm) X N36 T rfl (by decide) (by decide) ?_
    rintro r tl h36 tk36 F36 N37 ⟨g2, gd2, g2c, g2o, g2d, g2p, gps2, gcd2, rfl, rfl, hgt2, -, -, hstep2⟩
    have hR3o : (oneA, listOf onev.toArray onec) ∈ (othA, LCg.lst ys) :: R3 := by subst hR3; exact List.mem_cons_of_mem _ List.mem_cons_self
    have N38 := news_pull N37 (List.mem_append_right _ hR3o)
    clear N36 N37
    generalize hR5 : ((othA, LCg.lst ys) :: R3) = R5 at *
    dsimp only
    k_steps
    unfold Hold
    refine Tell.use (reduce_tell w (stepOf tn) hone (step_app (R3 := R5) hstep2)) K F36 X N38 T rfl (by decide) (by decide) ?_
    rintro r tl h38 tk38 F38 N39 ⟨rfl, t38, rfl⟩
    generalize hR6 : (((g2, (⟨.type "function", none, .func gd2, #[]⟩ : Obj)) :: (g2c, g2o) :: (g2d, g2p) :: (119, tabObj gps2) :: gcd2) ++ R5) = R6 at N38
    have N40 : News g0 L h38 R6 := by subst hR6; exact news_drop N39
    clear N38 N39 F36 hstep2
    dsimp only
    k_steps
    unfold Hold
    rename (Fr _ _ _ _) => F39
    rename (News _ _ _ _) => N41
    refine Tell.use (filemode_tell w) K F39 X N41 T rfl (by decide) (by decide) ?_
    rintro r tl h40 tk40 F40 N42 ⟨rfl, t40, rfl⟩
    rw [shown_two tnl hkd]
    have N43 : News g0 L h40 ((eD, listOf ev.toArray ce) :: R6) := news_pull N42 (by subst hR6; subst hR5; subst hR3; subst hR2; exact List.mem_append_right _ (List.mem_cons_of_mem _ (List.mem_cons_of_mem _ (List.mem_cons_of_mem _ List.mem_cons_self))))
    clear F39 N41 N42
    dsimp only
    k_steps
    unfold Hold
    refine Tell.use (listing_tell w hev (by rw [tab_len2]; exact Nat.succ_le_succ tnl) (by rw [tab_len2]; exact Nat.succ_le_succ (Nat.zero_le _)) (fun k => lacks_02 tnl k)) K F40 X N43 T rfl (by decide) (by decide) ?_
    rintro r tl h43 tk43 F43 N44 ⟨rfl, t43, rfl⟩
    have N45 : News g0 L h43 R6 := news_drop N44
    clear F40 N43 N44
    dsimp only
    k_steps
    · rename ((_ != _) = true) => hbad
      exact absurd hbad (by rw [bne_self_eq_false]; decide)
    unfold Hold
    with_reducible rename ((_ != _) = false) => hbad
    clear hbad
    have zz : ∀ q ∈ R2, q ∈ R6 := by subst hR6; subst hR5; subst hR3; exact fun q hq => List.mem_append_right _ (List.mem_cons_of_mem _ (List.mem_cons_of_mem _ hq))
    have z9 : (119, tabObj gps2) ∈ R6 := by subst hR6; exact List.mem_append_left _ (List.mem_cons_of_mem _ (List.mem_cons_of_mem _ (List.mem_cons_of_mem _ List.mem_cons_self)))
    have N46 := kst_newsOf (l' := (L + 1 + 1 + 1 + 1 + 1, ox5) :: (119, tabObj gps2) :: (oR, listOf rv.toArray cr) :: R) N45 (by
      subst hR2
      exact List.forall_mem_cons.mpr ⟨zz _ (List.mem_cons_of_mem _ (List.mem_cons_of_mem _ List.mem_cons_self)), List.forall_mem_cons.mpr ⟨z9, List.forall_mem_cons.mpr ⟨zz _ List.mem_cons_self, fun q hq => zz _ (List.mem_cons_of_mem _ (List.mem_cons_of_mem _ (List.mem_cons_of_mem _ hq)))⟩⟩⟩)
    have q5 : @Ne Nat 119 (L + 1 + 1 + 1 + 1 + 1) := Nat.ne_of_lt (Nat.lt_of_lt_of_le hB.lo.1 (Nat.le_add_right L 5))
    try dsimp only
    exact hP.out w p loose mean mg mb g0 L fa cd h43 gens drawn tk43 os Qv Ev _ ox5 oH oT oneA othA oR H U onev ys rv hv tv hn tn onec hc tc cr ps' gps2 _ hB (fr_pull (fr_pull (fr_pull F43 (x := Str.ofString "other") (by rfl)) (x := Str.ofString "one") (by rfl)) (x := Str.ofString "openings") (by rfl)) N46 e5 dH dT
      List.mem_cons_self (List.mem_cons_of_mem _ (List.mem_cons_of_mem _ hm0)) (List.mem_cons_of_mem _ (List.mem_cons_of_mem _ hmH)) (List.mem_cons_of_mem _ (List.mem_cons_of_mem _ hmU)) (List.mem_cons_of_mem _ (List.mem_cons_of_mem _ hmcH)) (List.mem_cons_of_mem _ (List.mem_cons_of_mem _ hmcT)) (List.mem_cons_of_mem _ (List.mem_cons_of_mem _ hm1)) (List.mem_cons_of_mem _ (List.mem_cons_of_mem _ hm2)) (List.mem_cons_of_mem _ List.mem_cons_self)
      hHn hnl hnr hTn tnl tnr hone hys hrv ⟨q5, r5, n5⟩
end

section
open PySem PySem.W PyProof.Rows PySem.Calls
set_option maxRecDepth 100000
set_option maxHeartbeats 0
set_option linter.unusedSimpArgs false
theorem small_12 {n : Nat} (h : n ≤ 12) : Builtin.Range.small 0 (n : Int) 1 = true := small_one (by omega) (by omega) (by omega) (by omega)
theorem range_12 (n : Nat) : Builtin.Range.rangeSize 0 (n : Int) 1 = ((n : Nat) : Int) := by simpa using rangeSize_nat 0 n
theorem dbl_fits {ys : List Value} {a rn : List Int} {j : Nat} (hy : IntsAre ys (a ++ dblTo rn j)) (hj : j ≤ rn.length) (hr : rn.length ≤ 12) (ha : a.length ≤ 24) : ys.length ≤ sizeLine := by
  have h1 := hy.length
  have h3 := dblTo_len rn j
  rw [List.length_append] at h1
  rw [sizeLine_eq]
  omega
noncomputable def lawE : Σ' Q : GT, Box (∀ (w : World) (p : Program) (loose : List Str) (mean : ExcName → Option Value) (mg mb : Str → Option Value) (g0 : Heap) (L fa : Addr) (cd : Value) (h : Heap) (gens : Array GenState) (drawn : Drawn) (tk : Nat) (os : OsState) (Qv : Flow → Shared → Prop) (Ev : Value → Shared → Prop) (m1 : Str → Option Value)
    (ox5 oH oT : Obj) (oneA othA oR H U : Addr) (onev ys rv hv tv : List Value) (hn tn : List Int) (onec hc tc cr : Nat) (ps' gps : Array Value) (CB : Bool) (R : List (Addr × Obj)),
    LawB w p loose mean mg mb g0 L gens drawn os Qv → Fr g0 L h (fun z => if z = Str.ofString "clash" then some (Value.bool CB) else if z = Str.ofString "openings" then some (Value.ref oR) else if z = Str.ofString "one" then some (Value.ref oneA) else if z = Str.ofString "other" then some (Value.ref othA) else m1 z) → News g0 L h ((L + 1 + 1 + 1 + 1 + 1, ox5) :: R) →
    ox5.data = .cell none → oH.data = .cell (some (.ref H)) → oT.data = .cell (some (.ref U)) → (119, tabObj gps) ∈ R → (105, tabObj ps') ∈ R → (H, listOf hv.toArray hc) ∈ R → (U, listOf tv.toArray tc) ∈ R → (L + 1 + 1 + 1, oH) ∈ R → (L + 1 + 1 + 1 + 1, oT) ∈ R → (oneA, listOf onev.toArray onec) ∈ R → (othA, LCg.lst ys) ∈ R → (oR, listOf rv.toArray cr) ∈ R →
    IntsAre hv hn → hn.length ≤ 12 → IntsAre tv tn → tn.length ≤ 12 → IntsAre onev hn → IntsAre ys tn → IntsAre rv (tabOf hn tn).1 → AllNe (L + 1 + 1 + 1 + 1 + 1) R → (!decide (dblAll hn tn 2 = []) || decide ((tabOf hn tn).1.getD hn.length 0 < ((comTo hn tn hn.length).length : Int))) = CB →
    Q w L fa cd h gens drawn tk os Qv Ev) → PySem.Challenge.rw_oy0162_01.Holds := by
  refine ⟨?Q, fun hP => @PSigma.snd _ _ lawD (Box.mk ?main)⟩
  case main =>
    w_top on
    k_with_none
    (k_with "exec For Name Name cons nil" => (k_here; refine wpAny_ForA ?_))
    (k_with "exec For Name Call cons nil" => (k_here; refine wpAny_ForA ?_))
    (k_with "exec For Name List cons nil" => (k_here; refine wpAny_ForA ?_))
    (k_with "exec For Tuple Call cons nil" => (k_here; refine wpAny_ForA ?_))
    (k_with "exec For Tuple Name cons cons" => (k_here; refine wpAny_ForA ?_))
    (k_with "exec For Name Name cons cons" => (k_here; refine wpAny_ForA ?_))
    k_with_none
    (k_with "exec Assign cons ListComp" => (k_here; k_dflt (refine LCg.Assign_ListComp_U (F₀ := by k_asm) (by rfl) (by with_unfolding_all rfl) (by with_unfolding_all rfl) (by decide) (by rfl) (by decide) (by rfl) (by rfl) (by rfl) ?_)))
    (k_with "exec Assign cons ListComp" => (k_here; (with_reducible show wpAny _ _ (exec (Stmt.Assign _ (Expr.ListComp _ (_ :: _ :: _) _ _) _) _) _ _ _); refine hold_it ?_))
    (k_with "CompSrcT" => (refine hold_it ?_))
    (k_with "CompSrc" => (refine hold_it ?_))
    (k_with "CompEnd" => (refine hold_it ?_))
    (k_with "call builtin:sum" => (refine hold_it ?_))
    (k_with "call ref" => (k_here; (with_reducible show wpAny _ _ (call (Value.ref _) _) _ _ _); refine hold_it ?_))
    (k_with "subscriptTail" => (k_here; (with_reducible show wpAny _ _ (subscriptTail (Expr.List _ _) _ (Value.ref _) (Value.int _ _)) _ _ _); refine hold_it ?_))
    (k_with "call type:bytes" => (k_here; refine hold_it ?_))
    (k_with "call type:list" => (k_here; (with_reducible show wpAny _ _ (call (Value.type "list") [Value.bytes _ _]) _ _ _); refine hold_it ?_))
    (k_with "eval ListComp" => (k_here; refine hold_it ?_))
    (k_with "getMethod ref" => (k_here; k_dflt (refine' getmethod_K ?N ?f ?d ?D ?_; (case N => k_asm); (case f => k_mem); (case d => k_mem); (case D => assumption)); intro _))
    (k_with "exec If" => (k_here; refine wpAny_If ?_))
    (k_with "eval BoolOp" => (k_here; (with_reducible show wpAny _ _ (eval (Expr.BoolOp BoolOp.Or (_ :: _ :: _) _) _) _ _ _); refine hold_it ?_))
    (k_with "binaryOp Sub int int" => (k_here; (with_reducible show wpAny _ _ (binaryOp Operator.Sub (Value.int _ _) (Value.int (List.getD _ _ _) _)) _ _ _); refine hold_it ?_))
    (k_with "call builtin:isinstance" => (k_here; (with_reducible show wpAny _ _ (call _ [Value.ref _, Value.type _]) _ _ _); k_dflt (refine' kia_one kitx_list ?X ?c ?ee ?nb ?_; (case X => k_in); (case c => kit_at); (case ee => kit_is); (case nb => kit_nb); k_whole; intro _)))
    (k_with "execs cons" => (k_here; refine hold_it ?_))
    intro w p loose mean mg mb g0 L fa cd h1 gens drawn tk1 os Qv Ev m1 ox5 oH oT oneA othA oR H U onev ys rv hv tv hn tn onec hc tc cr ps' gps R hB F N e5 dH dT hm9 hm0 hmH hmU hmcH hmcT hm1 hm2 hmR hHn hnl hnr hTn tnl tnr hone hys hrv n5
    have hfill : (Mine.hd.heap_39 w.params).In default → Challenge.rw_oy0162_01 = Challenge.rw_oy0162_01 := by
      k_fill
      intro _; rfl
    clear hfill
    show wpAny _ _ _ _ _ _
    have K := hB.K
    have X := hB.X
    have T := hB.T
    have hC := hB.C
    clear hnr tnr
    generalize hR1 : ((L + 1 + 1 + 1 + 1 + 1, ox5) :: R : List (Addr × Obj)) = R1 at N
    have zR : ∀ q ∈ R, q ∈ R1 := by subst hR1; exact fun q hq => List.mem_cons_of_mem _ hq
    have zH := zR _ hmH
    have zU := zR _ hmU
    have N1 := kst_newsOf (l' := (L + 1 + 1 + 1, oH) :: (L + 1 + 1 + 1 + 1, oT) :: R1) N (List.forall_mem_cons.mpr ⟨zR _ hmcH, List.forall_mem_cons.mpr ⟨zR _ hmcT, fun _ hq => hq⟩⟩)
    clear N
    -- doubles
    refine wpAny_execs_cons ?_
    k_steps
    unfold Hold
    refine assign_two (F₀ := F) (by rfl) (by with_unfolding_all rfl) (by with_unfolding_all rfl) (by decide) (by rfl) (by decide) (by rfl) (by rfl) (by rfl) (by rfl) ?_ (by intro _; rfl) (by intro _ _; rfl)
    k_steps
    unfold Hold
    rename_i lX hX FX NX ltX
    refine ⟨lX, _, _, (lX, listOf #[.ref H, .ref U] 0) :: R1, rfl, rfl, FX, kst_newsOf NX (List.forall_mem_cons.mpr ⟨List.mem_cons_self, fun _ hq => List.mem_cons_of_mem _ (List.mem_cons_of_mem _ (List.mem_cons_of_mem _ hq))⟩), List.mem_cons_self, ?_⟩
    clear ltX
    try clear N1
    try clear NX
    try clear FX
    rintro s₂ ⟨gX, rfl⟩
    refine ⟨fun i ys => IntsAre ys (dblAll hn tn i), .nil, ?_, ?_⟩
    · intro i zs v I oI C oC D m₂ h tk E' hvi hG hC hx F1 N1 off ne
      obtain ⟨rA, rw, rn, rc, rfl, hrm, hri, hrl, hrG⟩ : ∃ (rA : Addr) (rw : List Value) (rn : List Int) (rc : Nat), v = .ref rA ∧ (rA, listOf rw.toArray rc) ∈ R1 ∧ IntsAre rw rn ∧ rn.length ≤ 12 ∧ dblAll hn tn (i + 1) = dblAll hn tn i ++ dblTo rn rn.length := by
        rcases i with _ | _ | i
        · cases hvi; exact ⟨H, hv, hn, hc, rfl, zH, hHn, hnl, rfl⟩
        · cases hvi; exact ⟨U, tv, tn, tc, rfl, zU, hTn, tnl, rfl⟩
        · cases hvi
      have N1' := news_pull N1 (List.mem_cons_of_mem _ (List.mem_cons_of_mem _ (List.mem_cons_of_mem _ (List.mem_cons_of_mem _ hrm))))
      clear N1
      have hrL := hri.length
      k_steps
      unfold Hold
      rename (IsRange _ _ _ _ _ _ _ _) => hrange
      rename (News _ _ _ _) => N2
      rename (Fr _ _ _ _) => F2
      refine ⟨_, _, _, 0, (rn.length : Int), _, _, _, rn.length, fun j ys' => IntsAre ys' (dblAll hn tn i ++ dblTo rn j) ∧ j ≤ rn.length, rfl, rfl, F2, news_drop N2, hrange, small_12 hrl, range_12 rn.length, ⟨by rw [dblTo_zero, List.append_nil]; exact hG, Nat.zero_le _⟩, ?_, ?_, ?_⟩
      · rintro j' ys' ⟨hy, hj'⟩
        exact dbl_fits hy hj' hrl (dblAll_len hnl tnl i)
      · rintro ys' ⟨hy, _⟩
        rw [hrG]; exact hy
      · rintro j zs' tq J oJ C' oC' D' m₃ h' tk' E'' hj ⟨hG', hj'⟩ hC' hx' hz F3 N3 off3 ne3
        have hrow : m₃ (Str.ofString "row") = some (.ref rA) := by rw [hz _ (by decide)]; exact hx
        have N3' := news_pull N3 (List.mem_cons_of_mem _ (List.mem_cons_of_mem _ (List.mem_cons_of_mem _ (List.mem_cons_of_mem _ (List.mem_cons_of_mem _ hrm)))))
        clear N2 F2 hrange
        try clear N3
        k_steps
        · rename (List.any _ _ = true) => hany
          have hmem := any_mem hany
          rw [show (0 + (j : Int)).toNat = j by clear off off3 n5; omega] at hmem
          unfold Hold
          refine comp_end (by assumption) (by assumption) off3 trivial (by intro p hp; exact List.mem_cons_of_mem _ (List.mem_cons_of_mem _ hp)) ⟨?_, hj⟩
          rw [dblTo_yes hmem, ← List.append_assoc]
          exact intsAre_push' hG' (Int.zero_add _)
        · rename (List.any _ _ = false) => hany
          have hmem := any_not_mem hany
          rw [show (0 + (j : Int)).toNat = j by clear off off3 n5; omega] at hmem
          unfold Hold
          refine comp_end (by assumption) (by assumption) off3 trivial (by intro p hp; exact List.mem_cons_of_mem _ (List.mem_cons_of_mem _ hp)) ⟨?_, hj⟩
          rw [dblTo_no hmem]
          exact hG'
    · intro zs hzs
      replace hzs : IntsAre zs (dblAll hn tn 2) := hzs
      intro dA h47 tk47 F47 N47 o47
      have N48 := kst_newsOf (l' := (L + 1 + 1 + 1, oH) :: (L + 1 + 1 + 1 + 1, oT) :: (H, listOf hv.toArray hc) :: (U, listOf tv.toArray tc) :: (dA, LCg.lst zs) :: R1) N47 (List.forall_mem_cons.mpr ⟨List.mem_cons_of_mem _ (List.mem_cons_of_mem _ (zR _ hmcH)), List.forall_mem_cons.mpr ⟨List.mem_cons_of_mem _ (List.mem_cons_of_mem _ (zR _ hmcT)), List.forall_mem_cons.mpr ⟨List.mem_cons_of_mem _ (List.mem_cons_of_mem _ zH), List.forall_mem_cons.mpr ⟨List.mem_cons_of_mem _ (List.mem_cons_of_mem _ zU), List.forall_mem_cons.mpr ⟨List.mem_cons_self, fun _ hq => List.mem_cons_of_mem _ (List.mem_cons_of_mem _ hq)⟩⟩⟩⟩⟩)
      clear N47 o47
      try clear F
      try clear N1
      generalize hR2 : ((dA, LCg.lst zs) :: R1) = R2 at N48
      try dsimp only
      k_steps
      unfold Hold
      try dsimp only
      -- common
      refine wpAny_execs_cons ?_
      k_steps
      unfold Hold
      refine LCt.ListComp_T (F₀ := F47) (by with_unfolding_all rfl) (by decide) (by rfl) (by decide) (by rfl) ?_ (by intro _; rfl)
      have hHl := hHn.length
      k_steps
      unfold Hold
      rename (IsRange _ _ _ _ _ _ _ _) => hrange
      rename (News _ _ _ _) => N49
      rename (Fr _ _ _ _) => F49
      refine LCt.CompSrcT.range (n := hn.length) rfl F49 N49 hrange (small_12 hnl) (range_12 hn.length) (by rw [sizeLine_eq]; exact Nat.le_trans hnl (by decide)) ?_
      intro g5
      refine restT_all (fun i ys => IntsAre ys (comTo hn tn i) ∧ i ≤ hn.length) trivial ⟨.nil, Nat.zero_le _⟩ ?_ ?_
      · rintro i zs' v I oI C oC D m₂ h' tk' E' hi ⟨hG, -⟩ ⟨tv', rfl⟩ hC hx F1 N1 off ne
        have off' := off
        simp only [LCg.Off3, and_true] at off
        have hi0 : (0 + (i : Int)).toNat = i := by clear off off' n5; omega
        clear N49 F49 hrange
        k_steps
        · rename (List.any (List.take _ _) _ = true) => hany
          have hmem := any_mem hany
          rw [hi0] at hmem
          try unfold Hold
          refine comp_end (by assumption) (by assumption) off' trivial (by kcf_all) ⟨?_, hi⟩
          rw [comTo_no (fun q => q.2 hmem)]
          exact hG
        · rename (List.any (List.take _ _) _ = false) => hany
          rename (List.any _ _ = true) => hany2
          have hmem := any_not_mem hany
          have hmem2 := any_mem hany2
          rw [hi0] at hmem hmem2
          try unfold Hold
          refine comp_end (by assumption) (by assumption) off' trivial (by kcf_all) ⟨?_, hi⟩
          rw [comTo_yes hmem2 hmem]
          exact intsAre_push' hG (Int.zero_add _)
        · rename (List.any _ _ = false) => hany
          have hmem := any_not_mem hany
          rw [hi0] at hmem
          try unfold Hold
          refine comp_end (by assumption) (by assumption) off' trivial (by kcf_all) ⟨?_, hi⟩
          rw [comTo_no (fun q => hmem q.1)]
          exact hG
      · rintro zs' ⟨hz, -⟩
        unfold LCg.FinE
        intro dC h50 tk50 F50 N50 o50
        have N51 := kst_newsOf (l' := (dC, LCg.lst zs') :: R2) N50 (List.forall_mem_cons.mpr ⟨List.mem_cons_self, fun _ hq => List.mem_cons_of_mem _ (List.mem_cons_of_mem _ (List.mem_cons_of_mem _ (List.mem_cons_of_mem _ (List.mem_cons_of_mem _ hq))))⟩)
        clear hrange o50 N50
        try clear N49
        try clear F49
        try clear F47
        try clear N48
        have hcl := comTo_len hn tn hn.length
        obtain ⟨cl, hcle⟩ : ∃ cl, comTo hn tn hn.length = cl := ⟨_, rfl⟩
        rw [hcle] at hz hcl
        have hzl := hz.length
        dsimp only
        k_steps
        unfold Hold
        rename (Fr _ _ _ _) => F51
        rename (News _ _ _ _) => N52
        obtain ⟨tc5, F52⟩ : ∃ tc5, Fr g0 L _ (fun z => if z = Str.ofString "common" then some (Value.int (cl.length : Int) tc5) else if z = Str.ofString "doubles" then some (Value.ref dA) else if z = Str.ofString "openings" then some (Value.ref oR) else if z = Str.ofString "one" then some (Value.ref oneA) else if z = Str.ofString "other" then some (Value.ref othA) else m1 z) := ⟨_, F51⟩
        subst hR2
        have N53 := kst_newsOf (l' := (dA, LCg.lst zs) :: (oR, listOf rv.toArray cr) :: R1) N52 (List.forall_mem_cons.mpr ⟨List.mem_cons_of_mem _ List.mem_cons_self, List.forall_mem_cons.mpr ⟨List.mem_cons_of_mem _ (List.mem_cons_of_mem _ (zR _ hmR)), fun _ hq => List.mem_cons_of_mem _ (List.mem_cons_of_mem _ hq)⟩⟩)
        clear F51 N52
        obtain ⟨dl, hdl⟩ : ∃ dl, dblAll hn tn 2 = dl := ⟨_, rfl⟩
        rw [hdl] at hzs
        have hopl := tab_len1 hn tn
        obtain ⟨op, hop⟩ : ∃ op, (tabOf hn tn).1 = op := ⟨_, rfl⟩
        rw [hop] at hrv hopl
        have hrvl := hrv.length
        have hix : (-1 + (op.length : Int)).toNat = hn.length := by clear n5; omega
        dsimp only
        -- clash
        refine wpAny_execs_cons ?_
        k_steps
        unfold Hold
        refine wpAny_mono (Q := fun v s' => Hold (v = .bool (!decide (dl = []) || decide (op.getD hn.length 0 < (cl.length : Int))) ∧ ∃ h' tk, s' = { heap := h', gens := gens, drawn := drawn, toks := tk, os := os } ∧ Fr g0 L h' (fun z => if z = Str.ofString "common" then some (Value.int (cl.length : Int) tc5) else if z = Str.ofString "doubles" then some (Value.ref dA) else if z = Str.ofString "openings" then some (Value.ref oR) else if z = Str.ofString "one" then some (Value.ref oneA) else if z = Str.ofString "other" then some (Value.ref othA) else m1 z) ∧ News g0 L h' R1)) ?_ ?_ fun _ _ e => e
        · refine BoolOp_or ?_
          k_steps
          · unfold Hold
            rename (decide (dl = []) = true) => hdd
            refine ⟨?_, _, _, rfl, by assumption, kst_newsOf (by assumption) (by kcf_all)⟩
            rw [hdd, hix]
            rfl
          · unfold Hold
            rename (decide (dl = []) = false) => hdd
            refine ⟨?_, _, _, rfl, by assumption, kst_newsOf (by assumption) (by kcf_all)⟩
            rw [hdd]
            rfl
        · rintro v s' ⟨rfl, h53, tk53, rfl, F53, N54⟩
          clear F52 N53
          obtain ⟨CB, hCB⟩ : ∃ CB : Bool, (!decide (dl = []) || decide (op.getD hn.length 0 < (cl.length : Int))) = CB := ⟨_, rfl⟩
          rw [hCB]
          k_steps
          unfold Hold
          rename (Fr _ _ _ _) => F54
          rename (News _ _ _ _) => N55
          try dsimp only
          rename_i h54
          subst hR1
          exact hP.out w p loose mean mg mb g0 L fa cd h54 gens drawn tk53 os Qv Ev _ ox5 oH oT oneA othA oR H U onev ys rv hv tv hn tn onec hc tc cr ps' gps CB R hB (fr_pull (fr_pull (fr_pull (fr_pull F54 (x := Str.ofString "other") (by rfl)) (x := Str.ofString "one") (by rfl)) (x := Str.ofString "openings") (by rfl)) (x := Str.ofString "clash") (by rfl)) N55 e5 dH dT
            hm9 hm0 hmH hmU hmcH hmcT hm1 hm2 hmR hHn hnl hTn tnl hone hys (by rw [hop]; exact hrv) n5 (by rw [hdl, hop, hcle]; exact hCB)
end

section
open PySem PySem.W PyProof.Rows PySem.Calls
set_option maxRecDepth 100000
set_option maxHeartbeats 0
set_option linter.unusedSimpArgs false
noncomputable def lawF : Σ' Q : GT, Box (∀ (w : World) (p : Program) (loose : List Str) (mean : ExcName → Option Value) (mg mb : Str → Option Value) (g0 : Heap) (L fa : Addr) (cd : Value) (h : Heap) (gens : Array GenState) (drawn : Drawn) (tk : Nat) (os : OsState) (Qv : Flow → Shared → Prop) (Ev : Value → Shared → Prop) (m1 : Str → Option Value)
    (oM oH oT : Obj) (oR H U lR rM r1 r2 : Addr) (rv hv tv mv : List Value) (hn tn res : List Int) (hc tc cr cM c1 c2 : Nat) (ps' gps : Array Value) (CB : Bool) (R : List (Addr × Obj)),
    LawB w p loose mean mg mb g0 L gens drawn os Qv → Fr g0 L h (fun z => if z = Str.ofString "clash" then some (Value.bool CB) else if z = Str.ofString "openings" then some (Value.ref oR) else if z = Str.ofString "rows" then some (Value.ref lR) else m1 z) → News g0 L h R →
    (L + 1 + 1 + 1 + 1 + 1, oM) ∈ R → oM.data = .cell (some (.ref rM)) → oH.data = .cell (some (.ref H)) → oT.data = .cell (some (.ref U)) → (119, tabObj gps) ∈ R → (105, tabObj ps') ∈ R → (H, listOf hv.toArray hc) ∈ R → (U, listOf tv.toArray tc) ∈ R → (L + 1 + 1 + 1, oH) ∈ R → (L + 1 + 1 + 1 + 1, oT) ∈ R → (oR, listOf rv.toArray cr) ∈ R →
    (rM, listOf mv.toArray cM) ∈ R → (lR, listOf #[.ref r2, .ref r1] 0) ∈ R → (r2, listOf #[] c1) ∈ R → (r1, listOf #[] c2) ∈ R →
    IntsAre hv hn → hn.length ≤ 12 → IntsAre tv tn → tn.length ≤ 12 → IntsAre rv (tabOf hn tn).1 → IntsAre mv res → c3 (hn.length + tn.length + 1) hn tn = some res → (!decide (dblAll hn tn 2 = []) || decide ((tabOf hn tn).1.getD hn.length 0 < ((comTo hn tn hn.length).length : Int))) = CB →
    Q w L fa cd h gens drawn tk os Qv Ev) → PySem.Challenge.rw_oy0162_01.Holds := by
  refine ⟨?Q, fun hP => @PSigma.snd _ _ lawE (Box.mk ?main)⟩
  case main =>
    w_top on
    k_with_none
    (k_with "exec For Name Name cons nil" => (k_here; refine wpAny_ForA ?_))
    (k_with "exec For Name Call cons nil" => (k_here; refine wpAny_ForA ?_))
    (k_with "exec For Name List cons nil" => (k_here; refine wpAny_ForA ?_))
    (k_with "exec For Tuple Call cons nil" => (k_here; refine wpAny_ForA ?_))
    (k_with "exec For Tuple Name cons cons" => (k_here; refine wpAny_ForA ?_))
    (k_with "exec For Name Name cons cons" => (k_here; refine wpAny_ForA ?_))
    k_with_none
    (k_with "exec Assign cons ListComp" => (k_here; k_dflt (refine LCg.Assign_ListComp_U (F₀ := by k_asm) (by rfl) (by with_unfolding_all rfl) (by with_unfolding_all rfl) (by decide) (by rfl) (by decide) (by rfl) (by rfl) (by rfl) ?_)))
    (k_with "exec Assign cons ListComp" => (k_here; (with_reducible show wpAny _ _ (exec (Stmt.Assign _ (Expr.ListComp _ (_ :: _ :: _) _ _) _) _) _ _ _); refine hold_it ?_))
    (k_with "CompSrcT" => (refine hold_it ?_))
    (k_with "CompSrc" => (refine hold_it ?_))
    (k_with "CompEnd" => (refine hold_it ?_))
    (k_with "call builtin:sum" => (refine hold_it ?_))
    (k_with "call ref" => (k_here; (with_reducible show wpAny _ _ (call (Value.ref _) _) _ _ _); refine hold_it ?_))
    (k_with "subscriptTail" => (k_here; (with_reducible show wpAny _ _ (subscriptTail (Expr.List _ _) _ (Value.ref _) (Value.int _ _)) _ _ _); refine hold_it ?_))
    (k_with "call type:bytes" => (k_here; refine hold_it ?_))
    (k_with "call type:list" => (k_here; (with_reducible show wpAny _ _ (call (Value.type "list") [Value.bytes _ _]) _ _ _); refine hold_it ?_))
    (k_with "eval ListComp" => (k_here; refine hold_it ?_))
    (k_with "getMethod ref" => (k_here; k_dflt (refine' getmethod_K ?N ?f ?d ?D ?_; (case N => k_asm); (case f => k_mem); (case d => k_mem); (case D => assumption)); intro _))
    (k_with "exec If" => (k_here; refine wpAny_If ?_))
    (k_with "eval BoolOp" => (k_here; (with_reducible show wpAny _ _ (eval (Expr.BoolOp BoolOp.Or (_ :: _ :: _) _) _) _ _ _); refine hold_it ?_))
    (k_with "binaryOp Sub int int" => (k_here; (with_reducible show wpAny _ _ (binaryOp Operator.Sub (Value.int _ _) (Value.int (List.getD _ _ _) _)) _ _ _); refine hold_it ?_))
    (k_with "call builtin:isinstance" => (k_here; (with_reducible show wpAny _ _ (call _ [Value.ref _, Value.type _]) _ _ _); k_dflt (refine' kia_one kitx_list ?X ?c ?ee ?nb ?_; (case X => k_in); (case c => kit_at); (case ee => kit_is); (case nb => kit_nb); k_whole; intro _)))
    (k_with "execs cons" => (k_here; refine hold_it ?_))
    intro w p loose mean mg mb g0 L fa cd h1 gens drawn tk1 os Qv Ev m1 ox5 oH oT oneA othA oR H U onev ys rv hv tv hn tn onec hc tc cr ps' gps CB R hB F N e5 dH dT hm9 hm0 hmH hmU hmcH hmcT hm1 hm2 hmR hHn hnl hTn tnl hone hys hrv n5 hCB
    have hfill : (Mine.hd.heap_39 w.params).In default → Challenge.rw_oy0162_01 = Challenge.rw_oy0162_01 := by
      k_fill
      intro _; rfl
    clear hfill
    show wpAny _ _ _ _ _ _
    have K : Below callerA g0 [] g0 := hB.K
    have X : (Mine.hd.heap_39 w.params).In g0 := hB.X
    have T : Top p loose mean mg mb g0 := hB.T
    have hC : CodeHd g0 123 119 := hB.C
    generalize hR1 : ((L + 1 + 1 + 1 + 1 + 1, ox5) :: R : List (Addr × Obj)) = R1 at N
    have N1 := kst_newsOf (l' := (oneA, listOf onev.toArray onec) :: (othA, LCg.lst ys) :: R1) N (by subst hR1; exact List.forall_mem_cons.mpr ⟨List.mem_cons_of_mem _ hm1, List.forall_mem_cons.mpr ⟨List.mem_cons_of_mem _ hm2, fun _ hq => hq⟩⟩)
    clear N
    -- rows
    refine wpAny_execs_cons ?_
    k_steps
    unfold Hold
    try dsimp only
    -- try
    refine wpAny_execs_cons ?_
    refine wpAny_Try_except ?_
    k_steps
    unfold Hold
    try dsimp only
    refine wpAny_execs_cons ?_
    k_steps
    unfold Hold
    rename (Fr _ _ _ _) => F57
    rename (News _ _ _ _) => N57
    rename_i r2 c1 h54 l54 r1 c2 h55 l55 lR h56 l56 h57
    have a21 : @Ne Nat r2 r1 := Nat.ne_of_lt l55.1
    have a2R : @Ne Nat r2 lR := Nat.ne_of_lt l56.2.1
    have a1R : @Ne Nat r1 lR := Nat.ne_of_lt l56.1
    have n2 : AllNe r2 R1 := allNe_lt l54.2.2
    have n1 : AllNe r1 R1 := allNe_lt l55.2.2.2
    subst hR1
    have r25 : @Ne Nat r2 (L + 1 + 1 + 1 + 1 + 1) := Nat.ne_of_gt l54.2.2.1
    have r15 : @Ne Nat r1 (L + 1 + 1 + 1 + 1 + 1) := Nat.ne_of_gt l55.2.2.2.1
    have lR5 : @Ne Nat lR (L + 1 + 1 + 1 + 1 + 1) := Nat.ne_of_gt l56.2.2.2.2.1
    clear l54 l55 l56
    have N58 := kst_newsOf (l' := (r2, listOf onev.toArray c1) :: (r1, listOf ys.toArray c2) :: (lR, listOf #[.ref r2, .ref r1] 0) :: (L + 1 + 1 + 1 + 1 + 1, ox5) :: R) N57 (List.forall_mem_cons.mpr ⟨by kcf_m, List.forall_mem_cons.mpr ⟨by kcf_m, List.forall_mem_cons.mpr ⟨by kcf_m, fun _ hq => List.mem_cons_of_mem _ (List.mem_cons_of_mem _ (List.mem_cons_of_mem _ (List.mem_cons_of_mem _ (List.mem_cons_of_mem _ hq))))⟩⟩⟩)
    clear N57
    refine TellX.use (c3_tell w hone hys hnl tnl a21 a2R a1R n2 n1) K F57 X N58 T rfl (by decide) (by decide) ?_ ?_
    · rintro r tl h61 tk61 F61 N61 ⟨rM, mv, cM, e1', e2', res, rfl, rfl, hmv, hc3, ltM⟩
      simp only [List.cons_append, List.nil_append] at N61
      have rM5 : @Ne Nat rM (L + 1 + 1 + 1 + 1 + 1) := Nat.ne_of_gt ltM.2.2.2.1
      clear F57 N58 ltM
      have N62 := kst_newsOf (l' := (L + 1 + 1 + 1 + 1 + 1, ox5) :: (rM, listOf mv.toArray cM) :: (r2, listOf #[] e1') :: (r1, listOf #[] e2') :: (lR, listOf #[.ref r2, .ref r1] 0) :: R) N61 (by kcf_all)
      have nn : AllNe (L + 1 + 1 + 1 + 1 + 1) ((rM, listOf mv.toArray cM) :: (r2, listOf #[] e1') :: (r1, listOf #[] e2') :: (lR, listOf #[.ref r2, .ref r1] 0) :: R) := ⟨rM5, r25, r15, lR5, n5⟩
      clear N61
      generalize hR2 : ((rM, listOf mv.toArray cM) :: (r2, listOf #[] e1') :: (r1, listOf #[] e2') :: (lR, listOf #[.ref r2, .ref r1] 0) :: R) = R2 at N62 nn
      dsimp only
      k_steps
      unfold Hold
      rename (Fr _ _ _ _) => F64
      rename (News _ _ _ _) => N64
      rename_i oM dM
      subst hR2
      try dsimp only
      exact hP.out w p loose mean mg mb g0 L fa cd _ gens drawn tk os Qv Ev _ oM oH oT oR H U lR rM r1 r2 rv hv tv mv hn tn res hc tc cr cM e1' e2' ps' gps CB _ hB (fr_pull (fr_pull (fr_pull F64 (x := Str.ofString "rows") (by rfl)) (x := Str.ofString "openings") (by rfl)) (x := Str.ofString "clash") (by rfl)) N64
        List.mem_cons_self dM dH dT (by kcf_m) (by kcf_m) (by kcf_m) (by kcf_m) (by kcf_m) (by kcf_m) (by kcf_m) (by kcf_m) (by kcf_m) (by kcf_m) (by kcf_m) hHn hnl hTn tnl hrv hmv hc3 hCB
    · rintro e te tw1 g60 h60 tk60 F60 R60 U60 hnone
      refine caught_XB (T' := "RuntimeError") K F60 U60 R60 (by k_asm) PyProof.Rows.Boot.«RuntimeError» (mg_none_of X T.g (by k_is)) PySem.F.isExc_RuntimeError PySem.F.notTuple_RuntimeError (by rw [isSubtype_type]; kernel_rfl) ?_
      intro h62 n62 tk62 F62 N62 G62 N63
      have hCBt : CB = true := by rw [← hCB]; exact merge_bad hnone
      subst hCBt
      clear F57 F60 R60 U60 hCB hnone
      have N64 := kst_newsOf (l' := [(119, tabObj gps), (105, tabObj ps')]) N63 (by kcf_all)
      clear N63
      dsimp only
      k_steps
      unfold Hold
      refine wpAny_execs_cons ?_
      k_steps
      rw [show (Str.ofString "Inconsistent hierarchy" == Str.ofString "Inconsistent hierarchy") = true from beq_self_eq_true _]
      dsimp only
      refine name_goesX F62 N64 ?_
      intro h64 v64 F64 N65
      dsimp only
      k_steps
      exact hB.Q _ _ _ _ _ F64 N65
end

section
open PySem PySem.W PyProof.Rows PySem.Calls
set_option maxRecDepth 100000
set_option maxHeartbeats 0
set_option linter.unusedSimpArgs false
theorem small_24 {n : Nat} (h : n ≤ 24) : Builtin.Range.small 1 (n : Int) 1 = true := small_one (by omega) (by omega) (by omega) (by omega)
theorem law_holds : PySem.Challenge.rw_oy0162_01.Holds := by
  refine @PSigma.snd _ _ lawF (Box.mk ?_)
  w_top on
  k_with_none
  (k_with "exec For Name Name cons nil" => (k_here; refine wpAny_ForA ?_))
  (k_with "exec For Name Call cons nil" => (k_here; refine wpAny_ForA ?_))
  (k_with "exec For Name List cons nil" => (k_here; refine wpAny_ForA ?_))
  (k_with "exec For Tuple Call cons nil" => (k_here; refine wpAny_ForA ?_))
  (k_with "exec For Tuple Name cons cons" => (k_here; refine wpAny_ForA ?_))
  (k_with "exec For Name Name cons cons" => (k_here; refine wpAny_ForA ?_))
  k_with_none
  (k_with "exec Assign cons ListComp" => (k_here; k_dflt (refine LCg.Assign_ListComp_U (F₀ := by k_asm) (by rfl) (by with_unfolding_all rfl) (by with_unfolding_all rfl) (by decide) (by rfl) (by decide) (by rfl) (by rfl) (by rfl) ?_)))
  (k_with "exec Assign cons ListComp" => (k_here; (with_reducible show wpAny _ _ (exec (Stmt.Assign _ (Expr.ListComp _ (_ :: _ :: _) _ _) _) _) _ _ _); refine hold_it ?_))
  (k_with "CompSrcT" => (refine hold_it ?_))
  (k_with "CompSrc" => (refine hold_it ?_))
  (k_with "CompEnd" => (refine hold_it ?_))
  (k_with "call builtin:sum" => (refine hold_it ?_))
  (k_with "call ref" => (k_here; (with_reducible show wpAny _ _ (call (Value.ref _) _) _ _ _); refine hold_it ?_))
  (k_with "subscriptTail" => (k_here; (with_reducible show wpAny _ _ (subscriptTail (Expr.List _ _) _ (Value.ref _) (Value.int _ _)) _ _ _); refine hold_it ?_))
  (k_with "call type:bytes" => (k_here; refine hold_it ?_))
  (k_with "call type:list" => (k_here; (with_reducible show wpAny _ _ (call (Value.type "list") [Value.bytes _ _]) _ _ _); refine hold_it ?_))
  (k_with "eval ListComp" => (k_here; refine hold_it ?_))
  (k_with "getMethod ref" => (k_here; k_dflt (refine' getmethod_K ?N ?f ?d ?D ?_; (case N => k_asm); (case f => k_mem); (case d => k_mem); (case D => assumption)); intro _))
  (k_with "exec If" => (k_here; refine wpAny_If ?_))
  (k_with "eval BoolOp" => (k_here; (with_reducible show wpAny _ _ (eval (Expr.BoolOp BoolOp.Or (_ :: _ :: _) _) _) _ _ _); refine hold_it ?_))
  (k_with "binaryOp Sub int int" => (k_here; (with_reducible show wpAny _ _ (binaryOp Operator.Sub (Value.int _ _) (Value.int (List.getD _ _ _) _)) _ _ _); refine hold_it ?_))
  (k_with "call builtin:isinstance" => (k_here; (with_reducible show wpAny _ _ (call _ [Value.ref _, Value.type _]) _ _ _); k_dflt (refine' kia_one kitx_list ?X ?c ?ee ?nb ?_; (case X => k_in); (case c => kit_at); (case ee => kit_is); (case nb => kit_nb); k_whole; intro _)))
  (k_with "execs cons" => (k_here; refine hold_it ?_))
  intro w p loose mean mg mb g0 L fa cd h1 gens drawn tk1 os Qv Ev m1 oM oH oT oR H U lR rM r1 r2 rv hv tv mv hn tn res hc tc cr cM c1 c2 ps' gps CB R hB F N hmcM dM dH dT hm9 hm0 hmH hmU hmcH hmcT hmR hmM hmL hm2 hm1 hHn hnl hTn tnl hrv hmv hc3 hCB
  have hfill : (Mine.hd.heap_39 w.params).In default → Challenge.rw_oy0162_01 = Challenge.rw_oy0162_01 := by
    k_fill
    intro _; rfl
  clear hfill
  show wpAny _ _ _ _ _ _
  have K : Below callerA g0 [] g0 := hB.K
  have X : (Mine.hd.heap_39 w.params).In g0 := hB.X
  have T : Top p loose mean mg mb g0 := hB.T
  have hC : CodeHd g0 123 119 := hB.C
  obtain ⟨hCBf, hlen, hfh, hft, hadj⟩ := merge_good hc3
  rw [hCB] at hCBf
  clear hCB hc3
  have hopl := tab_len1 hn tn
  have hopr : 0 ≤ (tabOf hn tn).1.getD hn.length 0 ∧ (tabOf hn tn).1.getD hn.length 0 ≤ 12 := by rw [op_last]; exact lcs_range hnl
  obtain ⟨op, hop⟩ : ∃ op, (tabOf hn tn).1 = op := ⟨_, rfl⟩
  rw [hop] at hrv hopl hlen hopr
  have hresl := len_24 hlen hopr.1 hnl tnl
  have hmvl := hmv.length
  have hHl := hHn.length
  have hTl := hTn.length
  have hrvl := hrv.length
  subst hCBf
  have N1 := kst_newsOf (l' := (L + 1 + 1 + 1 + 1 + 1, oM) :: (rM, listOf mv.toArray cM) :: (lR, listOf #[.ref r2, .ref r1] 0) :: (r2, listOf #[] c1) :: (r1, listOf #[] c2) :: (L + 1 + 1 + 1, oH) :: (H, listOf hv.toArray hc) :: (L + 1 + 1 + 1 + 1, oT) :: (U, listOf tv.toArray tc) :: (oR, listOf rv.toArray cr) :: R) N (by kcf_all)
  clear N
  -- the first test
  refine wpAny_execs_cons ?_
  k_steps
  unfold Hold
  have hix : (-1 + (op.length : Int)).toNat = hn.length := by rw [hopl]; clear hHl hTl hrvl hmvl hlen; omega
  rw [hix]
  refine sub_int ?_
  dsimp only
  rw [← hlen]
  repeat (with_reducible rename (@LT.lt Nat _ _ _ ∧ _) => hbad; clear hbad)
  k_steps
  · rename (_ ≠ _) => hbad
    exact absurd rfl hbad
  unfold Hold
  rename (Fr _ _ _ _) => F63
  rename (News _ _ _ _) => N63
  have N64 := kst_newsOf (l' := (rM, listOf mv.toArray cM) :: (L + 1 + 1 + 1, oH) :: (H, listOf hv.toArray hc) :: (L + 1 + 1 + 1 + 1 + 1, oM) :: R) N63 (by kcf_all)
  clear N63
  clear hlen hopl hrv hop hrvl hopr hix
  try dsimp only
  -- the second test
  refine wpAny_execs_cons ?_
  k_steps
  unfold Hold
  refine LCt.ListComp_T (F₀ := F63) (by with_unfolding_all rfl) (by decide) (by rfl) (by decide) (by rfl) ?_ (by intro _; rfl)
  k_steps
  unfold Hold
  refine LCt.CompSrcT.ledger rfl F63 N64 (by kcf_m) (by rw [sizeLine_eq, List.size_toArray, hmvl]; exact Nat.le_trans hresl (by decide)) ?_
  intro g65
  refine restT_all (fun i ys => IntsAre ys ((res.take i).filter fun x => decide (x ∈ hn))) (.inr ⟨_, by kcf_m, rfl, _, rfl⟩) .nil ?_ ?_
  · rintro i zs' v I oI C oC D m₂ h' tk' E' hi hG hv' hC hx F1 N1 off ne
    obtain ⟨n, t, e, hn'⟩ := IntsAre.at hmv i v (by simpa using hv')
    subst e
    have off' := off
    simp only [LCg.Off3, and_true] at off
    clear F63 N64
    k_steps
    · rename (List.any _ _ = true) => hany
      unfold Hold
      refine comp_end (by assumption) (by assumption) off' (.inr ⟨_, by kcf_m, rfl, _, rfl⟩) (by kcf_all) ?_
      rw [PySem.take_succ_filter _ _ _ _ hn', if_pos (decide_eq_true (any_mem hany))]
      exact intsAre_push hG
    · rename (List.any _ _ = false) => hany
      unfold Hold
      refine comp_end (by assumption) (by assumption) off' (.inr ⟨_, by kcf_m, rfl, _, rfl⟩) (by kcf_all) ?_
      rw [PySem.take_succ_filter _ _ _ _ hn', if_neg (by simpa using any_not_mem hany), List.append_nil]
      exact hG
  · intro zs' hz
    replace hz : IntsAre zs' ((res.take mv.toArray.size).filter fun x => decide (x ∈ hn)) := hz
    rw [List.size_toArray, hmvl, List.take_length, hfh] at hz
    unfold LCg.FinE
    intro dC h66 tk66 F66 N66 o66
    have hzl := hz.length
    clear F63 N64 o66
    dsimp only
    k_steps
    unfold Hold
    rename (News _ _ _ _) => N67
    rename (Fr _ _ _ _) => F68
    have N68 := kst_newsOf (l' := (rM, listOf mv.toArray cM) :: (L + 1 + 1 + 1 + 1, oT) :: (U, listOf tv.toArray tc) :: (L + 1 + 1 + 1 + 1 + 1, oM) :: R) N67 (by kcf_all)
    clear N67
    refine LCt.ListComp_T (F₀ := F68) (by with_unfolding_all rfl) (by decide) (by rfl) (by decide) (by rfl) ?_ (by intro _; rfl)
    k_steps
    unfold Hold
    refine LCt.CompSrcT.ledger rfl F68 N68 (by kcf_m) (by rw [sizeLine_eq, List.size_toArray, hmvl]; exact Nat.le_trans hresl (by decide)) ?_
    intro g69
    refine restT_all (fun i ys => IntsAre ys ((res.take i).filter fun x => decide (x ∈ tn))) (.inr ⟨_, by kcf_m, rfl, _, rfl⟩) .nil ?_ ?_
    · rintro i zs' v I oI C oC D m₂ h' tk' E' hi hG hv' hC hx F1 N1 off ne
      obtain ⟨n, t, e, hn'⟩ := IntsAre.at hmv i v (by simpa using hv')
      subst e
      have off' := off
      simp only [LCg.Off3, and_true] at off
      clear F68 N68
      k_steps
      · rename (List.any _ _ = true) => hany
        unfold Hold
        refine comp_end (by assumption) (by assumption) off' (.inr ⟨_, by kcf_m, rfl, _, rfl⟩) (by kcf_all) ?_
        rw [PySem.take_succ_filter _ _ _ _ hn', if_pos (decide_eq_true (any_mem hany))]
        exact intsAre_push hG
      · rename (List.any _ _ = false) => hany
        unfold Hold
        refine comp_end (by assumption) (by assumption) off' (.inr ⟨_, by kcf_m, rfl, _, rfl⟩) (by kcf_all) ?_
        rw [PySem.take_succ_filter _ _ _ _ hn', if_neg (by simpa using any_not_mem hany), List.append_nil]
        exact hG
    · intro zs2 hz2
      replace hz2 : IntsAre zs2 ((res.take mv.toArray.size).filter fun x => decide (x ∈ tn)) := hz2
      rw [List.size_toArray, hmvl, List.take_length, hft] at hz2
      unfold LCg.FinE
      intro dD h70 tk70 F70 N70 o70
      have hzl2 := hz2.length
      clear F68 N68 o70 hz hzl
      dsimp only
      k_steps
      unfold Hold
      rename (News _ _ _ _) => N71
      rename (Fr _ _ _ _) => F71
      have N72 := kst_newsOf (l' := (rM, listOf mv.toArray cM) :: (L + 1 + 1 + 1, oH) :: (H, listOf hv.toArray hc) :: (L + 1 + 1 + 1 + 1, oT) :: (U, listOf tv.toArray tc) :: (L + 1 + 1 + 1 + 1 + 1, oM) :: R) N71 (by kcf_all)
      clear N71 hz2 hzl2
      try dsimp only
      -- the answer
      refine wpAny_execs_cons ?_
      k_steps
      unfold Hold
      refine LCt.ListComp_T (F₀ := F71) (by with_unfolding_all rfl) (by decide) (by rfl) (by decide) (by rfl) ?_ (by intro _; rfl)
      k_steps
      unfold Hold
      rename (IsRange _ _ _ _ _ _ _ _) => hrange
      rename (News _ _ _ _) => N73
      rename (Fr _ _ _ _) => F73
      refine LCt.CompSrcT.range (n := res.length - 1) rfl F73 N73 hrange (small_24 hresl) (by rw [rangeSize_nat]; clear hmvl hHl hTl; omega) (by rw [sizeLine_eq]; exact Nat.le_trans (Nat.sub_le _ _) (Nat.le_trans hresl (by decide))) ?_
      intro g74
      refine restT_all (fun i ys => ys = []) trivial rfl ?_ ?_
      · rintro i zs' v I oI C oC D m₂ h' tk' E' hi rfl ⟨tv', rfl⟩ hC hx F1 N1 off ne
        have off' := off
        simp only [LCg.Off3, and_true] at off
        clear N73 F73 hrange
        try clear N72
        try clear F71
        have hi2 : i + 1 < res.length := Nat.add_lt_of_lt_sub hi
        k_steps
        · unfold Hold
          exact comp_end (by assumption) (by assumption) off' trivial (by kcf_all) rfl
        · unfold Hold
          exact comp_end (by assumption) (by assumption) off' trivial (by kcf_all) rfl
        · rename (List.any tn _ = false) => hany
          rename (List.any hn _ = false) => hany2
          have a1 := any_not_mem hany
          have a2 := any_not_mem hany2
          rw [show (1 + (i : Int)).toNat = i + 1 by clear off off'; omega] at a1
          rw [show (1 + (i : Int) - 1).toNat = i by clear off off'; omega] at a2
          exact (hadj i hi2 a2 a1).elim
      · rintro zs3 rfl
        unfold LCg.FinE
        intro dE h75 tk75 F75 N75 o75
        clear hrange o75
        try clear N73
        try clear F73
        try clear N72
        dsimp only
        k_steps
        rename (Fr _ _ _ _) => F76
        rename (News _ _ _ _) => N76
        have N77 := kst_newsOf (l' := [(119, tabObj gps), (105, tabObj ps')]) N76 (by kcf_all)
        exact hB.Q _ _ _ gps ps' F76 N77
end

end Mine
set_option maxRecDepth 100000 in
theorem PySem.Challenge.cw_oy0162_01_holds : PySem.Challenge.rw_oy0162_01.Holds := by
  exact Mine.law_holds
