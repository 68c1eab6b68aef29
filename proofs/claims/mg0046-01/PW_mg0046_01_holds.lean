import PyProof.Rows.All
import Wide.All
import OpenK.AllK
import Wide.FinOn
import PySem.Challenge.RW_mg0046_01
set_option Elab.async false

section
open PySem PySem.Calls PySem.W PyProof.Rows
set_option maxRecDepth 100000
set_option maxHeartbeats 8000000
namespace Mine

/-- the claim's caller stands in the stack -/
def hasCal (st : List (Code × Pos)) : Bool := st.any fun x => x.1.isCaller
def runC (f : Value) (vs : List Value) : Sem Value := .stack fun st => if hasCal st = true then PySem.call f vs else .pure (.bool true)
def treeL (name : Str) (vs : List Value) : Sem Fin := do match ← nsGet mainNs name with
  | some f => do ret (← PySem.call f vs)
  | none => unsupported "claim.caller:no-such-global"
def treeC (name : Str) (vs : List Value) : Sem Fin := .stack fun st => if hasCal st = true then treeL name vs else ret (.bool true)

theorem sched_stack {den : Code → Sem Fin} {prog : Program} {w : World} {k : List (Code × Pos) → Sem Fin} {s s' : Shared} {o : Outcome} (hz : s.asleep) : ∀ {n : Nat},
    schedN den prog w n (.single s ⟨.stack k, .builtin "claim.caller" {}, default, []⟩) = .halted o s' →
    ∃ n', schedN den prog w n' (.single s ⟨k [(.builtin "claim.caller" {}, default)], .builtin "claim.caller" {}, default, []⟩) = .halted o s'
  | 0, h => by cases h
  | n + 1, h => by
    refine ⟨n, ?_⟩
    have e := (sstep_single den prog w s ⟨.stack k, .builtin "claim.caller" {}, default, []⟩ rfl hz).resolve_right (by intro x; cases x)
    have e' : sstep den prog w (.single s ⟨.stack k, .builtin "claim.caller" {}, default, []⟩) = .go (.single s ⟨k [(.builtin "claim.caller" {}, default)], .builtin "claim.caller" {}, default, []⟩) := e
    rw [schedN, e'] at h
    exact h

theorem callFrom_real {c : ClaimW} {name : Str} {w : World} {s : Shared} {free : Addr → Prop} {gens : Prop} {kept : Heap → Prop} (hz : s.asleep)
    (h : c.CallFrom (fun vs => ⟨treeC name vs, .builtin "claim.caller" {}, default, []⟩) w free gens kept s) :
    c.CallFrom (fun vs => ⟨treeL name vs, .builtin "claim.caller" {}, default, []⟩) w free gens kept s := by
  intro args hpre hlay ord hord
  obtain ⟨vs, s₁, hlaid, n, o, s', hn, r⟩ := h args hpre hlay ord hord
  have hal := layAllW_rest _ _ _ hlaid
  obtain ⟨n', hn'⟩ := sched_stack (Shared.asleep_of_life hal.2.2.2 hz) hn
  exact ⟨vs, s₁, hlaid, n', o, s', hn', r⟩

theorem treeC_of {prog : Program} {w : World} {name : Str} {vs : List Value} {s : Shared} {mg : Str → Option Value} {f : Value} {Q : Fin → Shared → Prop} {E : Value → Shared → Prop} (hg : s.heap.Ns mainGlobals mg) (hf : mg name = some f)
    (h : wpAny (model prog w) callerA (runC f vs) (fun v s' => Q (.done (.ret v)) s') E s) : wpAny (model prog w) callerA (treeC name vs) Q E s := by
  intro Γ p hΓ
  have h1 := h Γ p hΓ
  have e1 : Sem.wp (model prog w) Γ (runC f vs) (fun a _ s' => Q (.done (.ret a)) s') (fun e _ s' => E e s') p s = Sem.wp (model prog w) Γ (if hasCal ((Γ.code, p) :: Γ.below) = true then PySem.call f vs else .pure (.bool true)) (fun a _ s' => Q (.done (.ret a)) s') (fun e _ s' => E e s') p s := Sem.wp_stack ..
  have e2 : Sem.wp (model prog w) Γ (treeC name vs) (fun a _ s' => Q a s') (fun e _ s' => E e s') p s = Sem.wp (model prog w) Γ (if hasCal ((Γ.code, p) :: Γ.below) = true then treeL name vs else ret (.bool true)) (fun a _ s' => Q a s') (fun e _ s' => E e s') p s := Sem.wp_stack ..
  rw [e2]
  rw [e1] at h1
  by_cases hc : hasCal ((Γ.code, p) :: Γ.below) = true
  · rw [if_pos hc] at h1 ⊢
    unfold treeL
    rw [Sem.wp_bind']
    show Sem.wp (model prog w) Γ (nsGet mainGlobals name) _ _ p s
    rw [Sem.wp_nsGet _ _ _ _ _ hg, hf]
    show Sem.wp (model prog w) Γ (PySem.call f vs >>= fun v => ret v) _ _ p s
    rw [Sem.wp_bind']
    exact Sem.wp_mono _ _ _ (fun a p' s' x => x) (fun _ _ _ x => x) _ _ h1
  · rw [if_neg hc] at h1 ⊢
    exact h1

/-- the library's head for a law's row, asked of contexts that bear the claim's caller alone (its own name is kept, in this namespace, for the head's line to find) -/
theorem PySem.W.holds_open {r : OpenRow} {q : Program} {loose : List Str} {Xt : Shared → Bool} {XP : (Str → Option Value) → Heap → Prop} {α : Type} {Yf : Shared → α} {Ya : World → α} {YP : World → Heap → Prop} {d : DefRec} {kwd : List (Str × PySem.Expr)} {N : Nat}
    (left : LeftO r.prog q loose Xt Yf Ya N) (hY : ∀ w s, Yf s = Ya w → YP w s.heap) (hYk : ∀ w h h', YP w h → (∀ b o, h.get? b = some o → h'.get? b = some o) → YP w h')
    (hX : ∀ s, Xt s = true → XP (s.heap.nsMap mainGlobals) s.heap) (hXk : ∀ mg h h', XP mg h → (∀ b o, h.get? b = some o → h'.get? b = some o) → XP mg h')
    (hdef : defOf q r.name = some (d, kwd)) (hp : r.prog.theDef r.name = some (d.params, d.body, d.scope)) (hk : kwWritten? d.params.kwonlyargs d.params.kw_defaults = some kwd) (hRf : ∀ s, Xt s = true → RecFacts r.records s.heap) (hwr : (!r.writes || r.records.isEmpty) = true)
    (k1 : r.wellSaid = true) (ok : (chainsOk q && opensWell r.prog && (frees r.toRowW && r.within.isEmpty)) = true) (hb : r.prog.bare) (hw : r.toRowW.promised)
    (call : WalkO q loose XP YP r.toRowW d kwd fun f vs => runC f vs) : r.Holds := by
  have ok' := ok
  obtain ⟨ok1, k5⟩ := Bool.and_eq_true_iff.mp ok'
  obtain ⟨hch, _⟩ := Bool.and_eq_true_iff.mp ok1
  have H := open_anyG (r := r.toRowW) (run := fun f vs => runC f vs) (tree := fun vs => treeC r.name vs) (defs := if r.pinned then [r.name] else []) (kps := r.keeps) (writes := r.writes) left hY hYk hX hXk hRf hwr ok hb hw
    (fun vs w s mg f Q E hg hf h => treeC_of hg hf h)
    (fun w s hg G n hn => by
      obtain rfl : n = r.name := by split at hn <;> simp_all
      exact pinned_of_view hg G hdef hp hk) fun w s₀ s₁ mg mb G Y args vs as hpre hlay L low => by
      obtain ⟨a, o, pm, cd, doc, dV, kV, h1, h2, h3, h4, h5⟩ := G.fn hdef
      exact ⟨.ref a, h1, call w s₀ s₁ mg mb G Y a o pm cd doc dV kV h2 h3 h4 h5 (defOf_name hdef ▸ h1) L.gens args vs as hpre hlay L.reads L.well (L.low low)⟩
  refine ⟨k1, hw, H.1, H.2.1, fun w => ⟨(H.2.2 w).1, fun s' hs' => ?_⟩⟩
  obtain ⟨s₀, hf, hg0, s, hT, hz, _⟩ := (left.behind hX hch w).2 s' hs'
  obtain ⟨s₀', a1, a2, s1', b1, b2, b3, b4, b5⟩ := (H.2.2 w).2 s' hs'
  obtain rfl : s₀ = s₀' := Option.some.inj (hf.symm.trans a1)
  exact ⟨s₀, a1, a2, s1', b1, b2, b3, b4, callFrom_real (name := r.name) (Shared.asleep_of_life (b1.2.1.trans hT.2.1.symm) hz) b5⟩

open_top hd for _root_.PySem.Challenge.rw_mg0046_01
end Mine
end

section
open PySem PySem.Calls PySem.W PyProof.Rows
set_option maxRecDepth 100000
set_option maxHeartbeats 8000000
namespace Mine

/-- the program's view without any statement: what a Top says of it does not hang on a code table -/
noncomputable def p0 : Program := { hd.view_39 with main := { hd.view_39.main with body := [] } }
noncomputable def l0 : List Str := startupNames ++ (looseW hd.view_39 [Str.ofString "Whitespace"] ++ ((recsOf hd.view_39).map (·.name) ++ ((litsOf hd.view_39).map (·.1) ++ ((clssOf hd.view_39 (looseW hd.view_39 [Str.ofString "Whitespace"])).map (·.name)))))

theorem top0 {mean : ExcName → Option Value} {mg mb : Str → Option Value} {h : Heap}
    (T : Top hd.view_39 (looseW hd.view_39 [Str.ofString "Whitespace"]) mean mg mb h) (hi : importsNone hd.view_39 = true) : Top p0 l0 mean mg mb h where
  g := T.g
  b := T.b
  nolimit := T.nolimit
  nodigits := T.nodigits
  fn := fun d hd => nomatch hd
  own := fun o ho => nomatch ho
  const := fun x d e => by cases e
  free := fun x h1 h2 h3 h4 h5 => by
    have h2' : ¬ x ∈ l0 := h2
    simp only [l0, List.mem_append, not_or] at h2'
    exact T.free x h2'.1 h2'.2.1 h2'.2.2.1 h2'.2.2.2.1 h2'.2.2.2.2
  builtins := T.builtins
  tab := fun d hd => nomatch hd
  bmain := T.bmain
  seer := fun _ => T.seer hi

abbrev AR (d u : Nat) (outer : List Env) : Around := { handled := none, depth := d, frames := some outer, guards := some [], units := u }

def Kept (h h' : Heap) : Prop := ∀ b o, h.get? b = some o → h'.get? b = some o

/-- what a def does, called with vs: it comes back with V i, keeps every object, and P holds of the heaps -/
def Does (w : World) (mean : ExcName → Option Value) (mg mb : Str → Option Value) (d u : Nat) (f : Addr) (vs : List Value) (Pre : Heap → Prop) {ι : Type} (V : ι → Value) (P : Heap → Heap → ι → Prop) : Prop :=
  ∀ (base : Heap) (outer : List Env) (s : Shared) (R : Result → Shared → Prop),
    Below (AR d u outer) base outer s.heap → (hd.heap_39 w.params).In s.heap → Top p0 l0 mean mg mb s.heap → Pre s.heap →
    (∀ i h' tk', Kept s.heap h' → P s.heap h' i → R (.ok (.ret (V i))) { s with heap := h', toks := tk' }) →
    codeAny (model PySem.Challenge.rw_mg0046_01.row.prog w) (AR d u outer) (.call (.ref f) ⟨vs, []⟩) R s

theorem code_wider {M : Model} {A : Around} {c : Code} {R : Result → Shared → Prop} {s : Shared} {d u : Nat} {outer : List Env}
    (h : codeAny M (AR d u outer) c R s) (hh : A.handled = none) (hf : A.frames = some outer) (hg : A.guards = some []) (hd : A.depth ≤ d) (hu : A.units ≤ u) : codeAny M A c R s := by
  intro Γ p hc hΓ
  refine h Γ p hc ⟨hΓ.1.trans hh, Nat.le_trans hΓ.2.1 hd, fun l e => ?_, fun g e => ?_, Nat.le_trans hΓ.2.2.2.2 hu⟩
  · exact hΓ.2.2.1 l (hf.trans e)
  · exact hΓ.2.2.2.1 g (hg.trans e)

theorem News.kept {h₀ h h' : Heap} {L : Addr} {news : List (Addr × Obj)} (N : News h₀ L h news) (k : Kept h h') : News h₀ L h' news :=
  fun p hp => ⟨k _ _ (N p hp).1, (N p hp).2⟩
theorem Fr.kept {h₀ h h' : Heap} {L : Addr} {m : Str → Option Value} (F : Fr h₀ L h m) (k : Kept h h') : Fr h₀ L h' m :=
  ⟨F.ns.keeps k, fun b o e => k _ _ (F.keep b o e), F.above⟩

theorem use {w : World} {mean : ExcName → Option Value} {mg mb : Str → Option Value} {d u : Nat} {f : Addr} {vs : List Value} {Pre : Heap → Prop} {ι : Type} {V : ι → Value} {P : Heap → Heap → ι → Prop}
    {A A₀ : Around} {base h₀ : Heap} {outer : List Env} {L : Addr} {m : Str → Option Value} {news : List (Addr × Obj)} {env : Env} {s : Shared} {Q E : Value → Shared → Prop}
    (C : Does w mean mg mb d u f vs Pre V P) (B : Below A₀ base outer h₀) (F : Fr h₀ L s.heap m) (X : (hd.heap_39 w.params).In h₀) (N : News h₀ L s.heap news) (T : Top p0 l0 mean mg mb h₀)
    (hA : A.frames = some (env :: outer)) (hf : env.frame = some L) (hke : env.scope.kind = .function) (hh : A.handled = none) (hg : A.guards = some []) (hd : A.depth ≤ d) (hu : A.units ≤ u)
    (hp : Pre s.heap)
    (k : ∀ i h' tk', Fr h₀ L h' m → News h₀ L h' news → Kept s.heap h' → P s.heap h' i → Q (V i) { s with heap := h', toks := tk' }) :
    wpAny (model PySem.Challenge.rw_mg0046_01.row.prog w) A (call (.ref f) vs) Q E s := by
  obtain ⟨_, BG, _, _⟩ := groundX (R := fun _ _ => True) (A := AR d u (env :: outer)) B F (News.nil (h₀ := h₀) (L := L) (h := s.heap)) rfl hf hke
  refine wpAny_call (code_wider (C base (env :: outer) s _ BG (X.keeps F.keep) (T.keeps F.keep) hp fun i h' tk' hk hP => ?_) hh hA hg hd hu)
  exact k i h' tk' (Mine.Fr.kept F hk) (Mine.News.kept N hk) hk hP

theorem enter {w : World} {K : Frag} {A : Around} {s : Shared} {R : Result → Shared → Prop} {p : Program} {loose : List Str} {mean : ExcName → Option Value} {mg mb : Str → Option Value}
    {name qual : Str} {params : Arguments} {body : List Stmt} {scope : Scope} {dV kV doc pm cdv ct oc : Value} {an od : Option Addr} {osl : Array (Option Value)} {f : Addr} {args : Args} {binds : List (Str × Value)} {prog : Program}
    (X : K.In s.heap) (T : Top p loose mean mg mb s.heap)
    (ho : K.lookup f = some ⟨oc, od, .func (fnOf name qual params body scope dV kV doc pm an cdv ct), osl⟩) (hcd : codeIn K cdv qual = true) (hroom : A.depth < recursionLimit)
    (hbind : BindsTo s (fnOf name qual params body scope dV kV doc pm an cdv ct) args binds) (hloc : ∀ y ∈ binds, scope.names.lookup y.1 = some .local)
    (h : ∀ L' h₁, Fr s.heap L' h₁ (fun y => binds.reverse.lookup y) → News s.heap L' h₁ [] →
      wpAny (model prog w) (A.deeper (envOf qual scope L' f cdv)) (execs body (envOf qual scope L' f cdv))
        (fun fl s' => R (.ok (.ret (match fl with | .ret v => v | _ => .none))) s')
        (fun e s' => wpAny (model prog w) (A.deeper (envOf qual scope L' f cdv)) (leaving (envOf qual scope L' f cdv) e) (fun _ s'' => R (.error e) s'') (fun e' s'' => R (.error e') s'') s')
        { s with heap := h₁, toks := s.toks + binds.length })
    (hco : scope.isCoroutine = false) (hgen : scope.isGenerator = false) (hk : scope.kind = .function)
    (hcell : ∀ x ∈ scope.names, x.2 ≠ .cell) : codeAny (model prog w) A (.call (.ref f) args) R s :=
  codeAny_call_def (fd := fnOf name qual params body scope dV kV doc pm an cdv ct) (body := body) (binds := binds) hroom (X _ _ ho) rfl T.nolimit (codeRec_of X hcd) rfl hbind hcell hloc
    (fun h₁ hns hk₁ => h _ h₁ ⟨hns, hk₁, Nat.le_refl _⟩ News.nil) hco hgen hk
end Mine
end

section
open PySem PySem.Calls PySem.W PyProof.Rows
set_option maxRecDepth 100000
set_option maxHeartbeats 8000000
namespace Mine

def Blank (c : Nat) : Prop := c = 32 ∨ c = 9

abbrev wsM (m₀ : Str → Option Value) (u : Option Value) (cA : Addr) (b n nt : Int) (tb tn tnt : Tok) : Str → Option Value := fun y =>
  if y = Str.ofString "ch" then u else if y = Str.ofString "count" then some (.ref cA) else if y = Str.ofString "b" then some (.int b tb)
  else if y = Str.ofString "n" then some (.int n tn) else if y = Str.ofString "nt" then some (.int nt tnt) else m₀ y

/-- the state between two turns of Whitespace's loop: i signs are taken, all blank -/
structure WsAt (x : Str) (rest : List (Addr × Obj)) (i : Nat) (b : Int) (cA : Addr) (vs : List Value) (ns : List Int) : Prop where
  taken : ∀ j, j < i → ∃ c, x.cps[j]? = some c ∧ Blank c
  b0 : 0 ≤ b
  b1 : b ≤ i
  areInts : IntsAre vs ns
  len : ns.length ≤ i + 1
  off : ∀ p ∈ rest, p.1 ≠ cA
  le : i ≤ x.length

def WsDone (h₀ : Heap) (L : Addr) (m₀ : Str → Option Value) (rest : List (Addr × Obj)) (x : Str) (s s' : Shared) : Prop :=
  ∃ i b nt tb tn tnt cA vs ns ep u h' tk, s' = { s with heap := h', toks := tk } ∧ WsAt x rest i b cA vs ns ∧ (x.cps[i]? = none ∨ ∃ c, x.cps[i]? = some c ∧ ¬ Blank c) ∧
    Fr h₀ L h' (wsM m₀ u cA b i nt tb tn tnt) ∧ News h₀ L h' ((cA, PySem.W.listOf vs.toArray ep) :: rest)
def WsPost (h₀ : Heap) (L : Addr) (m₀ : Str → Option Value) (rest : List (Addr × Obj)) (x : Str) (i : Nat) (I : Addr) (oI : Obj) (s : Shared) (f : Flow) (s' : Shared) : Prop :=
  match f with
  | .next => ∃ b nt tb tn tnt cA vs ns ep u h' tk, s' = { s with heap := h', toks := tk } ∧ WsAt x rest (i + 1) b cA vs ns ∧ cA ≠ I ∧
    Fr h₀ L h' (wsM m₀ u cA b ((i : Int) + 1) nt tb tn tnt) ∧ News h₀ L h' ((cA, PySem.W.listOf vs.toArray ep) :: (I, oI) :: rest)
  | .brk => WsDone h₀ L m₀ rest x s s'
  | _ => False

theorem sign_lt {x : Str} {i c : Nat} (h : x.cps[i]? = some c) : i < x.length := (Array.getElem?_eq_some_iff.mp h).1

theorem ws_loop {prog : Program} {w : World} {A : Around} {E : Value → Shared → Prop} {s : Shared} {env : Env} {h₀ : Heap} {body : List Stmt} {Q : Flow → Shared → Prop}
    {x : Str} {tx : Tok} {m₀ : Str → Option Value} {rest : List (Addr × Obj)} {l L : Addr} {tb tn tnt : Tok} (hL : env.locals = L)
    (hh : A.handled = none) (F : Fr h₀ L s.heap m₀) (N : News h₀ L s.heap ((l, PySem.W.listOf #[] 0) :: rest))
    (hc : m₀ (Str.ofString "count") = some (.ref l)) (hb : m₀ (Str.ofString "b") = some (.int 0 tb)) (hn : m₀ (Str.ofString "n") = some (.int 0 tn)) (hnt : m₀ (Str.ofString "nt") = some (.int 0 tnt))
    (hoff : ∀ p ∈ rest, p.1 ≠ l)
    (turn : ∀ i c t b nt tb tn tnt cA vs ns ep I oI h tk, x.cps[i]? = some c → WsAt x rest i b cA vs ns → cA ≠ I → (∀ p ∈ rest, p.1 ≠ I) →
      Fr h₀ L h (wsM m₀ (some (.str ⟨#[c]⟩ t)) cA b i nt tb tn tnt) → News h₀ L h ((cA, PySem.W.listOf vs.toArray ep) :: (I, oI) :: rest) →
      wpAny (model prog w) A (execs body env) (WsPost h₀ L m₀ rest x i I oI { s with heap := h, toks := tk }) E { s with heap := h, toks := tk })
    (done : ∀ s', WsDone h₀ L m₀ rest x s s' → Q .next s') :
    wpAny (model prog w) A (pyIter (.str x tx)) (fun it s₂ => LoopAtV prog w A h₀ env (Str.ofString "ch") body Q E it s₂) E s := by
  subst hL
  have key : ∀ (o : Obj) (St : Nat → Heap → Prop), Walks prog w A s.heap.objs.size [s.heap.objs.size] [s.heap.objs.size] x.cps.size (SignAt x) St → (∀ i h, St i h → ∃ o, h.get? s.heap.objs.size = some o) → St 0 (s.heap.push o) →
      LoopAtV prog w A h₀ env (Str.ofString "ch") body Q E (.ref s.heap.objs.size) { s with heap := s.heap.push o } := by
    intro o St Wk hSt hst
    have hI : ∀ p ∈ (l, PySem.W.listOf #[] 0) :: rest, p.1 ≠ s.heap.objs.size := fun p hp => Nat.ne_of_lt (Heap.lt_size (N p hp).1)
    let J : Nat → (Str → Option Value) → List (Addr × Obj) → Prop := fun i m news => ∃ b nt tb tn tnt cA vs ns ep u, m = wsM m₀ u cA b i nt tb tn tnt ∧ news = (cA, PySem.W.listOf vs.toArray ep) :: rest ∧ WsAt x rest i b cA vs ns ∧ cA ≠ s.heap.objs.size
    have hm0 : m₀ = wsM m₀ (m₀ (Str.ofString "ch")) l 0 ((0 : Nat) : Int) 0 tb tn tnt := by
      funext y
      unfold wsM
      split
      · rename_i e; rw [e]
      split
      · rename_i e; rw [e]; exact hc
      split
      · rename_i e; rw [e]; exact hb
      split
      · rename_i e; rw [e]; exact hn
      split
      · rename_i e; rw [e]; exact hnt
      rfl
    refine ⟨_, _, _, _, _, _, m₀, _, J, rfl, Wk, ?_, ?_, ?_, hst, F.push _, (fun p hp => ⟨Heap.get?_push_of_some _ (N p hp).1, (N p hp).2⟩), ?_, ?_, ?_⟩
    · intro hm
      exact absurd F.ns.lt ((List.mem_singleton.mp hm) ▸ Nat.lt_irrefl _)
    · intro b' hb
      rw [List.mem_singleton.mp hb]
      exact next_is_new F
    · intro p hp hm
      exact hI p hp (List.mem_singleton.mp hm)
    · exact ⟨0, 0, tb, tn, tnt, l, [], [], 0, m₀ (Str.ofString "ch"), hm0, rfl, ⟨fun j hj => absurd hj (Nat.not_lt_zero _), Int.le_refl _, Int.le_refl _, .nil, Nat.zero_le _, hoff, Nat.zero_le _⟩, hI _ (.head _)⟩
    · rintro i v m₁ news₁ s₁ own ⟨h, tk, rfl⟩ hin ⟨c, t, hci, rfl⟩ ⟨b, nt, tb, tn, tnt, cA, vs, ns, ep, u, rfl, rfl, at_, hcI⟩ hnw hown hown2 hown3 st F₁ N₁
      obtain ⟨oI, hoI⟩ := hSt _ _ st
      have hnone : h₀.get? s.heap.objs.size = none := next_is_new F
      have hmem : (s.heap.objs.size, oI) ∈ own := hown3 _ (List.mem_singleton.mpr rfl) hnone oI hoI
      have F₂ : Fr h₀ env.locals h (wsM m₀ (some (.str ⟨#[c]⟩ t)) cA b i nt tb tn tnt) := by
        have e : wsM m₀ (some (.str ⟨#[c]⟩ t)) cA b i nt tb tn tnt = fun y => if y = Str.ofString "ch" then some (.str ⟨#[c]⟩ t) else wsM m₀ u cA b i nt tb tn tnt y := by
          funext y
          unfold wsM
          by_cases hy : y = Str.ofString "ch"
          · rw [if_pos hy, if_pos hy]
          · rw [if_neg hy, if_neg hy, if_neg hy]
        rw [e]; exact F₁
      have N₂ : News h₀ env.locals h ((cA, PySem.W.listOf vs.toArray ep) :: (s.heap.objs.size, oI) :: rest) := fun p hp => by
        rcases List.mem_cons.mp hp with rfl | hp
        · exact N₁ _ (List.mem_append.mpr (.inr (.head _)))
        rcases List.mem_cons.mp hp with rfl | hp
        · exact N₁ _ (List.mem_append.mpr (.inl hmem))
        · exact N₁ _ (List.mem_append.mpr (.inr (.tail _ hp)))
      refine wpAny_mono (turn i c t b nt tb tn tnt cA vs ns ep s.heap.objs.size oI h tk hci at_ hcI (fun p hp => hI p (.tail _ hp)) F₂ N₂) (fun f s₂ p => ?_) fun _ _ e => e
      cases f with
      | next =>
        obtain ⟨b', nt', tb', tn', tnt', cA', vs', ns', ep', u', h', tk', rfl, at', hI', F', N'⟩ := p
        refine .next ⟨rfl, h', tk', _, _, rfl, F', fun q hq => ?_, fun q hq hm => ?_, ⟨b', nt', tb', tn', tnt', cA', vs', ns', ep', u', ?_, rfl, at', hI'⟩⟩
        · rcases List.mem_append.mp hq with hq | hq
          · have e1 : q.1 = s.heap.objs.size := List.mem_singleton.mp (hown q hq)
            have e2 := hown2 q hq
            rw [e1] at e2
            have e3 : q.2 = oI := (Option.some.inj (hoI.symm.trans e2)).symm
            have : q = (s.heap.objs.size, oI) := Prod.ext e1 e3
            rw [this]
            exact N' _ (.tail _ (.head _))
          · rcases List.mem_cons.mp hq with rfl | hq
            · exact N' _ (.head _)
            · exact N' _ (.tail _ (.tail _ hq))
        · rcases List.mem_cons.mp hq with rfl | hq
          · exact hI' (List.mem_singleton.mp hm)
          · exact hI q (.tail _ hq) (List.mem_singleton.mp hm)
        · rw [Int.natCast_add]; rfl
      | brk =>
        obtain ⟨i', b', nt', tb', tn', tnt', cA', vs', ns', ep', u', h', tk', rfl, r⟩ := p
        exact .brk (done _ ⟨i', b', nt', tb', tn', tnt', cA', vs', ns', ep', u', h', tk', rfl, r⟩)
      | cont => exact p.elim
      | ret v => exact p.elim
    · rintro h' tk m' news' F' N' hnw ⟨b, nt, tb, tn, tnt, cA, vs, ns, ep, u, rfl, rfl, at_, hcI⟩
      exact done _ ⟨_, b, nt, tb, tn, tnt, cA, vs, ns, ep, u, h', tk, rfl, at_, .inl (by simp), F', N'⟩
  cases ha : x.cps.all (· < 128)
  · exact wpAny_pyIter_wide ha (key _ _ (Walks.strWide hh _ x tx) (fun _ _ st => let ⟨o, ho, _⟩ := st; ⟨o, ho⟩) ⟨_, Heap.get?_push_size _ rfl, rfl, rfl⟩)
  · exact wpAny_pyIter_ascii ha (key _ _ (Walks.strAscii hh _ x tx) (fun _ _ st => let ⟨o, ho, _⟩ := st; ⟨o, ho⟩) ⟨_, Heap.get?_push_size _ rfl, rfl, rfl⟩)

section
variable {h₀ h' : Heap} {L : Addr} {m₀ : Str → Option Value} {rest : List (Addr × Obj)} {x : Str} {i c : Nat} {I cA D : Addr} {oI : Obj} {s : Shared} {tk : Nat} {u : Option Value} {b nt : Int} {tb tn tnt t1 t2 t3 : Tok} {vs vs' : List Value} {ns ns' : List Int} {ep ep' : Nat}

theorem one_eq {c : Nat} {x : String} {d : Nat} (e : Str.ofString x = ⟨#[d]⟩) (h : ((⟨#[c]⟩ : Str) == Str.ofString x) = true) : c = d := by
  rw [e] at h
  have h' := eq_of_beq h
  injection h' with h'
  injection h' with h'
  injection h'
theorem one_ne {c : Nat} {x : String} {d : Nat} (e : Str.ofString x = ⟨#[d]⟩) (h : ((⟨#[c]⟩ : Str) == Str.ofString x) = false) : c ≠ d := by
  rintro rfl
  rw [e] at h
  exact absurd (beq_self_eq_true _) (by rw [h]; exact Bool.false_ne_true)
theorem blank_space (h : ((⟨#[c]⟩ : Str) == Str.ofString " ") = true) : Blank c := .inl (one_eq (by decide +kernel) h)
theorem blank_tab (h : ((⟨#[c]⟩ : Str) == Str.ofString "\t") = true) : Blank c := .inr (one_eq (by decide +kernel) h)
theorem not_blank (h1 : ((⟨#[c]⟩ : Str) == Str.ofString " ") = false) (h2 : ((⟨#[c]⟩ : Str) == Str.ofString "\t") = false) : ¬ Blank c := fun e => e.elim (one_ne (by decide +kernel) h1) (one_ne (by decide +kernel) h2)

theorem taken_more (A : WsAt x rest i b cA vs ns) (hc : x.cps[i]? = some c) (hb : Blank c) : ∀ j, j < i + 1 → ∃ c, x.cps[j]? = some c ∧ Blank c := fun j hj => by
  rcases Nat.lt_or_ge j i with h | h
  · exact A.taken j h
  · have : j = i := by omega
    subst this
    exact ⟨c, hc, hb⟩

theorem ws_space (F : Fr h₀ L h' (fun y => if y = Str.ofString "b" then some (.int (b + 1) t1) else if y = Str.ofString "n" then some (.int ((i : Int) + 1) t2) else wsM m₀ u cA b i nt tb tn tnt y))
    (N : News h₀ L h' ((cA, PySem.W.listOf vs.toArray ep) :: (I, oI) :: rest)) (A : WsAt x rest i b cA vs ns) (hI : cA ≠ I) (hc : x.cps[i]? = some c) (hb : ((⟨#[c]⟩ : Str) == Str.ofString " ") = true) :
    WsPost h₀ L m₀ rest x i I oI s .next { s with heap := h', toks := tk } := by
  refine ⟨b + 1, nt, t1, t2, tnt, cA, vs, ns, ep, u, h', tk, rfl, ⟨taken_more A hc (blank_space hb), by have := A.b0; omega, by have := A.b1; omega, A.areInts, by have := A.len; omega, A.off, sign_lt hc⟩, hI, ?_, N⟩
  have e : wsM m₀ u cA (b + 1) ((i : Int) + 1) nt t1 t2 tnt = (fun y => if y = Str.ofString "b" then some (.int (b + 1) t1) else if y = Str.ofString "n" then some (.int ((i : Int) + 1) t2) else wsM m₀ u cA b i nt tb tn tnt y) := by
    funext y
    unfold wsM
    by_cases h1 : y = Str.ofString "b"
    · subst h1; rfl
    by_cases h2 : y = Str.ofString "n"
    · subst h2; rfl
    simp only [if_neg h1, if_neg h2]
  rw [e]; exact F

theorem ws_tab1 (F : Fr h₀ L h' (fun y => if y = Str.ofString "b" then some (.int 0 t1) else if y = Str.ofString "nt" then some (.int (nt + 1) t3) else if y = Str.ofString "n" then some (.int ((i : Int) + 1) t2) else wsM m₀ u cA b i nt tb tn tnt y))
    (N : News h₀ L h' ((cA, PySem.W.listOf vs'.toArray ep') :: (I, oI) :: rest)) (A : WsAt x rest i b cA vs ns) (hI : cA ≠ I) (hc : x.cps[i]? = some c) (hb : ((⟨#[c]⟩ : Str) == Str.ofString "\t") = true)
    (hi : IntsAre vs' ns') (hl : ns'.length ≤ i + 1 + 1) :
    WsPost h₀ L m₀ rest x i I oI s .next { s with heap := h', toks := tk } := by
  refine ⟨0, nt + 1, t1, t2, t3, cA, vs', ns', ep', u, h', tk, rfl, ⟨taken_more A hc (blank_tab hb), Int.le_refl _, by omega, hi, hl, A.off, sign_lt hc⟩, hI, ?_, N⟩
  have e : wsM m₀ u cA 0 ((i : Int) + 1) (nt + 1) t1 t2 t3 = (fun y => if y = Str.ofString "b" then some (.int 0 t1) else if y = Str.ofString "nt" then some (.int (nt + 1) t3) else if y = Str.ofString "n" then some (.int ((i : Int) + 1) t2) else wsM m₀ u cA b i nt tb tn tnt y) := by
    funext y
    unfold wsM
    by_cases h1 : y = Str.ofString "b"
    · subst h1; rfl
    by_cases h3 : y = Str.ofString "nt"
    · subst h3; rfl
    by_cases h2 : y = Str.ofString "n"
    · subst h2; rfl
    simp only [if_neg h1, if_neg h2, if_neg h3]
  rw [e]; exact F

theorem ws_tab2 {e1 e2 e3 : Addr × Obj} (F : Fr h₀ L h' (fun y => if y = Str.ofString "b" then some (.int 0 t1) else if y = Str.ofString "count" then some (.ref D) else if y = Str.ofString "nt" then some (.int (nt + 1) t3) else if y = Str.ofString "n" then some (.int ((i : Int) + 1) t2) else wsM m₀ u cA b i nt tb tn tnt y))
    (N : News h₀ L h' ((D, PySem.W.listOf vs'.toArray ep') :: e1 :: e2 :: e3 :: (I, oI) :: rest)) (A : WsAt x rest i b cA vs ns) (hI : D ≠ I) (hoff : ∀ p ∈ rest, p.1 ≠ D) (hc : x.cps[i]? = some c) (hb : ((⟨#[c]⟩ : Str) == Str.ofString "\t") = true)
    (hi : IntsAre vs' ns') (hl : ns'.length ≤ i + 1 + 1) :
    WsPost h₀ L m₀ rest x i I oI s .next { s with heap := h', toks := tk } := by
  refine ⟨0, nt + 1, t1, t2, t3, D, vs', ns', ep', u, h', tk, rfl, ⟨taken_more A hc (blank_tab hb), Int.le_refl _, by omega, hi, hl, hoff, sign_lt hc⟩, hI, ?_, fun p hp => N p ?_⟩
  · have e : wsM m₀ u D 0 ((i : Int) + 1) (nt + 1) t1 t2 t3 = (fun y => if y = Str.ofString "b" then some (.int 0 t1) else if y = Str.ofString "count" then some (.ref D) else if y = Str.ofString "nt" then some (.int (nt + 1) t3) else if y = Str.ofString "n" then some (.int ((i : Int) + 1) t2) else wsM m₀ u cA b i nt tb tn tnt y) := by
      funext y
      unfold wsM
      by_cases h1 : y = Str.ofString "b"
      · subst h1; rfl
      by_cases h4 : y = Str.ofString "count"
      · subst h4; rfl
      by_cases h3 : y = Str.ofString "nt"
      · subst h3; rfl
      by_cases h2 : y = Str.ofString "n"
      · subst h2; rfl
      simp only [if_neg h1, if_neg h2, if_neg h3, if_neg h4]
    rw [e]; exact F
  · rcases List.mem_cons.mp hp with rfl | hp
    · exact .head _
    · exact .tail _ (.tail _ (.tail _ (.tail _ hp)))

theorem ws_brk (F : Fr h₀ L h' (wsM m₀ u cA b i nt tb tn tnt)) (N : News h₀ L h' ((cA, PySem.W.listOf vs.toArray ep) :: (I, oI) :: rest)) (A : WsAt x rest i b cA vs ns) (hc : x.cps[i]? = some c)
    (h1 : ((⟨#[c]⟩ : Str) == Str.ofString " ") = false) (h2 : ((⟨#[c]⟩ : Str) == Str.ofString "\t") = false) : WsPost h₀ L m₀ rest x i I oI s .brk { s with heap := h', toks := tk } :=
  ⟨i, b, nt, tb, tn, tnt, cA, vs, ns, ep, u, h', tk, rfl, A, .inr ⟨c, hc, not_blank h1 h2⟩, F, fun p hp => N p (by
    rcases List.mem_cons.mp hp with rfl | hp
    · exact .head _
    · exact .tail _ (.tail _ hp))⟩
end
end Mine
end

section
open PySem PySem.Calls PySem.W PyProof.Rows
set_option maxRecDepth 100000
set_option maxHeartbeats 8000000
namespace Mine
theorem fillit (w : World) (h : Heap) (X : (hd.heap_39 w.params).In h) : PySem.Challenge.rw_mg0046_01 = PySem.Challenge.rw_mg0046_01 ∧ (hd.heap_39 w.params).In h := by
  k_fill; exact ⟨rfl, X⟩
local macro_rules | `(tactic| k_room) => `(tactic| exact Nat.le_of_ble_eq_true rfl)
local macro_rules | `(tactic| walk_at "call type:tuple") => `(tactic| (k_here; (with_reducible show wpAny _ _ (call (Value.type _) [Value.ref _]) _ _ _); k_dflt (refine' kde_tupleOf ?k1 ?k2 ?k3 ?k4 ?k5 ?_; (case k1 => k_asm); (case k2 => k_asm); (case k3 => exact News.isList (by k_asm) (by k_mem)); (case k4 => ((have hl8 := IntsAre.length (by assumption)); simp only [List.size_toArray]; omega)); (case k5 => exact rfl); k_whole); intro D' h' F' N' l1; (try k_lt l1); (try k_sweep)))
local macro_rules | `(tactic| walk_at "pyIter str") => `(tactic| (k_here; (with_unfolding_all refine' Mine.ws_loop ?kL ?kh ?kF ?kN ?kc ?kb ?kn ?knt ?ko ?_ ?_); (case kF => k_asm); (case kN => k_asm); (case kL => exact rfl); (case kh => exact rfl); (case kc => exact rfl); (case kb => exact rfl); (case kn => exact rfl); (case knt => exact rfl); (case ko => k_all); (all_goals first | (intro i9 c9 t9 b9 nt9 tb9 tn9 tnt9 cA9 vs9 ns9 ep9 I9 oI9 h9 tk9 hci9 at9 hcI9 hrI9 F9 N9; (have hMk9 := kstMark); (have hi9 := Mine.sign_lt hci9); (have hb0 := at9.b0); (have hb1 := at9.b1); (have hI9 := at9.areInts); (have hlen9 := at9.len); (have hcI8 := neN hcI9); (have hof9 := gnNe_of at9.off); (have hof8 := gnNe_of hrI9); (simp only [GnNe, and_true] at hof9 hof8)) | (intro s9 d9; obtain ⟨i9, b9, nt9, tb9, tn9, tnt9, cA9, vs9, ns9, ep9, u9, h9, tk9, e9, at9, hend9, F9, N9⟩ := d9; subst e9; (have hMk9 := kstMark); (have hi9 := at9.le); (have hI9 := at9.areInts); (have hlen9 := at9.len); (have hof9 := gnNe_of at9.off); (simp only [GnNe, and_true] at hof9))); (all_goals (try k_fold))))

def cutScope : Scope := { kind := .function, names := [(Str.ofString "text", .local), (Str.ofString "Whitespace", .globalImplicit), (Str.ofString "len", .globalImplicit)], isGenerator := false, isCoroutine := false }

theorem new_ws {w : World} {mean : ExcName → Option Value} {mg mb : Str → Option Value} {base h₀ : Heap} {outer : List Env} {L : Addr} {m : Str → Option Value} {s : Shared} {x : Str} {tx : Tok} {Q E : Value → Shared → Prop}
    (hx : x.length < 1000) (B : Below (AR 600 5000 outer) base outer h₀) (F : Fr h₀ L s.heap m) (X : (hd.heap_39 w.params).In h₀) (T : Top p0 l0 mean mg mb h₀)
    (k : ∀ x' d' es nn h' tk (i : Nat) t, Fr h₀ L h' m → News h₀ L h' [(x', instObj 97 d'), (d', dictOf es nn)] → getL (Str.ofString "n") es = some (some (.int i t)) → (∀ j, j < i → ∃ c, x.cps[j]? = some c ∧ Blank c) → (x.cps[i]? = none ∨ ∃ c, x.cps[i]? = some c ∧ ¬ Blank c) →
      Q (.ref x') { s with heap := h', toks := tk }) :
    wpAny (model PySem.Challenge.rw_mg0046_01.row.prog w) ((AR 600 5000 outer).deeper (envOf (Str.ofString "_law_cut") { kind := .function, names := [(Str.ofString "text", .local), (Str.ofString "Whitespace", .globalImplicit), (Str.ofString "len", .globalImplicit)], isGenerator := false, isCoroutine := false } L 115 (.ref 114)))
      (call (.ref 97) [.str x tx]) Q E s := by
  have N0 : News h₀ L s.heap [] := News.nil
  w_on
  k_steps
  all_goals (try dsimp only)
  · exact ws_space (by assumption) (by assumption) (by assumption) (by assumption) (by assumption) (by assumption)
  · refine ws_tab2 (by assumption) (by assumption) (by assumption) (by exact neN (by omega)) ?_ (by assumption) (by assumption) (by assumption) ?_
    · refine List.forall_mem_cons.mpr ⟨neN (by dsimp only; omega), List.forall_mem_cons.mpr ⟨neN (by dsimp only; omega), List.forall_mem_cons.mpr ⟨neN (by dsimp only; omega), List.forall_mem_nil _⟩⟩⟩
    · rename ((List.set _ _ _).length = _) => hl9
      rw [hl9, List.length_append]
      omega
  · refine ws_tab1 (by assumption) (by assumption) (by assumption) (by assumption) (by assumption) (by assumption) (by assumption) ?_
    rename ((List.set _ _ _).length = _) => hl9
    rw [hl9]
    omega
  · exact ws_brk (by assumption) (by assumption) (by assumption) (by assumption) (by assumption) (by assumption)
  · rename WsAt _ _ _ _ _ _ _ => at9
    refine k _ _ _ _ _ _ _ _ (by assumption) (fun p hp => (by assumption : News h₀ L _ (_ :: _ :: _ :: _ :: _)) p (.tail _ (.tail _ (.tail _ (.tail _ hp))))) (by k_get) at9.taken (by assumption)
end Mine
end

section
open PySem PySem.Calls PySem.W PyProof.Rows
set_option maxRecDepth 100000
namespace Mine

def isB (c : Nat) : Bool := c == 32 || c == 9
theorem isB_iff {c : Nat} : isB c = true ↔ Blank c := by
  unfold isB Blank
  rw [Bool.or_eq_true, beq_iff_eq, beq_iff_eq]
theorem isB_not {c : Nat} (h : ¬ Blank c) : isB c = false := by
  cases e : isB c with
  | false => rfl
  | true => exact absurd (isB_iff.mp e) h

def stripL (l : List Nat) : List Nat := ((l.dropWhile isB).reverse.dropWhile isB).reverse
def stripF (x : Str) : Str := ⟨(stripL x.cps.toList).toArray⟩

def LeadIs (l : List Nat) (i : Nat) : Prop := (∀ j, j < i → ∃ c, l[j]? = some c ∧ Blank c) ∧ (l[i]? = none ∨ ∃ c, l[i]? = some c ∧ ¬ Blank c)

theorem LeadIs.drop : ∀ {l : List Nat} {i : Nat}, LeadIs l i → l.drop i = l.dropWhile isB ∧ i ≤ l.length
  | [], i, h => by
    cases i with
    | zero => exact ⟨rfl, Nat.le_refl _⟩
    | succ i =>
      obtain ⟨c, hc, _⟩ := h.1 0 (Nat.succ_pos _)
      cases hc
  | c :: l, 0, h => by
    rcases h.2 with h2 | ⟨d, h2, hd⟩
    · cases h2
    · cases h2
      rw [List.dropWhile_cons, isB_not hd]
      exact ⟨rfl, Nat.zero_le _⟩
  | c :: l, i + 1, h => by
    obtain ⟨d, hd, hb⟩ := h.1 0 (Nat.succ_pos _)
    cases hd
    have ih := LeadIs.drop (l := l) (i := i) ⟨fun j hj => by
      obtain ⟨e, he, hb⟩ := h.1 (j + 1) (Nat.succ_lt_succ hj)
      exact ⟨e, by simpa using he, hb⟩, by simpa using h.2⟩
    rw [List.dropWhile_cons, isB_iff.mpr hb, List.drop_succ_cons]
    exact ⟨ih.1, Nat.succ_le_succ ih.2⟩

theorem strip_of {l : List Nat} {i k : Nat} (h1 : LeadIs l i) (h2 : LeadIs (l.drop i).reverse k) : (l.drop i).take ((l.drop i).length - k) = stripL l := by
  have e1 := h1.drop.1
  have e2 := h2.drop.1
  unfold stripL
  rw [← e1, ← e2, List.drop_reverse, List.reverse_reverse]

theorem str_ext {x y : Str} (h : x.cps.toList = y.cps.toList) : x = y := Str.ext' (Array.toList_inj.mp h)
theorem stripF_list (x : Str) : (stripF x).cps.toList = stripL x.cps.toList := by
  show (stripL x.cps.toList).toArray.toList = _
  rw [List.toList_toArray]

theorem toList_length (x : Str) : x.cps.toList.length = x.length := by simp [Str.length]
theorem slice_from_list {x : Str} {i : Nat} (h : i ≤ x.length) : (Txt.slice x (some (i : Int)) none).cps.toList = x.cps.toList.drop i := by
  have e : Txt.slice x (some (i : Int)) none = ⟨((x.cps.toList.drop (i : Int).toNat).take ((x.cps.toList.length : Int) - i).toNat).toArray⟩ :=
    StrLaws.sliceText_from ⟨by omega, by rw [toList_length]; omega⟩
  rw [e]
  show ((x.cps.toList.drop (i : Int).toNat).take ((x.cps.toList.length : Int) - i).toNat).toArray.toList = _
  rw [List.toList_toArray, Int.toNat_natCast, List.take_of_length_le]
  rw [List.length_drop]; omega
theorem slice_to_list {x : Str} {j : Int} (h : 0 ≤ j ∧ j ≤ x.length) : (Txt.slice x none (some j)).cps.toList = x.cps.toList.take j.toNat := by
  have e : Txt.slice x none (some j) = ⟨((x.cps.toList.drop 0).take (j - 0).toNat).toArray⟩ :=
    StrLaws.sliceText_to ⟨h.1, by rw [toList_length]; omega⟩
  rw [e]
  show ((x.cps.toList.drop 0).take (j - 0).toNat).toArray.toList = _
  rw [List.toList_toArray, List.drop_zero, Int.sub_zero]
theorem slice_list {x : Str} {i j : Int} (h : 0 ≤ i ∧ i ≤ j ∧ j ≤ x.length) : (Txt.slice x (some i) (some j)).cps.toList = (x.cps.toList.drop i.toNat).take (j - i).toNat := by
  have e : Txt.slice x (some i) (some j) = ⟨((x.cps.toList.drop i.toNat).take (j - i).toNat).toArray⟩ :=
    StrLaws.sliceText_plain ⟨h.1, h.2.1, by rw [toList_length]; omega⟩
  rw [e]
theorem rev_list (x : Str) (u : Tok) : (Txt.sliceBy x none none (-1, u)).cps.toList = x.cps.toList.reverse := by
  rw [step_rev_list]
  apply List.ext_getElem
  · simp [Str.length]
  · intro i h1 h2
    simp only [List.length_map, List.length_range] at h1
    simp only [List.getElem_map, List.getElem_range, List.getElem_reverse]
    have : x.length - 1 - i < x.cps.size := by
      have : x.length = x.cps.size := rfl
      omega
    rw [Array.getD_eq_getD_getElem?, Array.getElem?_eq_getElem this, Option.getD_some, Array.getElem_toList]
    congr 1

theorem at_list {x : Str} {i : Nat} : x.cps[i]? = x.cps.toList[i]? := by simp
theorem leadIs_of {x : Str} {i : Nat} (h1 : ∀ j, j < i → ∃ c, x.cps[j]? = some c ∧ Blank c) (h2 : x.cps[i]? = none ∨ ∃ c, x.cps[i]? = some c ∧ ¬ Blank c) : LeadIs x.cps.toList i :=
  ⟨fun j hj => by rw [← at_list]; exact h1 j hj, by rw [← at_list]; exact h2⟩

theorem cut_eq {x : Str} {i k : Nat} {u : Tok} (h1 : ∀ j, j < i → ∃ c, x.cps[j]? = some c ∧ Blank c) (h2 : x.cps[i]? = none ∨ ∃ c, x.cps[i]? = some c ∧ ¬ Blank c)
    (h3 : ∀ j, j < k → ∃ c, (Txt.sliceBy (Txt.slice x (some (i : Int)) none) none none (-1, u)).cps[j]? = some c ∧ Blank c)
    (h4 : (Txt.sliceBy (Txt.slice x (some (i : Int)) none) none none (-1, u)).cps[k]? = none ∨ ∃ c, (Txt.sliceBy (Txt.slice x (some (i : Int)) none) none none (-1, u)).cps[k]? = some c ∧ ¬ Blank c) :
    Txt.slice (Txt.slice x (some (i : Int)) none) none (some (((Txt.slice x (some (i : Int)) none).length : Int) - k)) = stripF x := by
  have L1 := leadIs_of h1 h2
  have hi : i ≤ x.length := by rw [← toList_length]; exact L1.drop.2
  have e1 := slice_from_list hi
  have L2 := leadIs_of h3 h4
  rw [rev_list, e1] at L2
  have hk := L2.drop.2
  rw [List.length_reverse] at hk
  have hlen : (Txt.slice x (some (i : Int)) none).length = (x.cps.toList.drop i).length := by rw [← toList_length, e1]
  apply str_ext
  rw [slice_to_list ⟨by omega, by omega⟩, stripF_list, ← strip_of L1 L2, e1, hlen]
  congr 1
  omega

theorem blank_in {x : Str} {j : Int} (h0 : 0 ≤ j) (h1 : j < x.length) : (!(Builtin.Str.occurrences (Str.ofString " \t") (Txt.item x j) 0 (Str.ofString " \t").length 1).isEmpty) = isB (x.cps.toList.getD j.toNat 0) := by
  have hj : j.toNat < x.cps.size := by
    have : x.length = x.cps.size := rfl
    omega
  have e : Txt.item x j = ⟨#[x.cps.toList.getD j.toNat 0]⟩ := by
    unfold Txt.item Txt.charAt
    have e1 : seqIndex? j x.length = some j.toNat := by
      have e0 : (if j < 0 then j + (x.length : Int) else j) = j := if_neg (by omega)
      show (if (decide (0 ≤ (if j < 0 then j + (x.length : Int) else j)) && decide ((if j < 0 then j + (x.length : Int) else j) < (x.length : Int))) = true then some (if j < 0 then j + (x.length : Int) else j).toNat else none) = _
      rw [e0, if_pos (by rw [Bool.and_eq_true, decide_eq_true_eq, decide_eq_true_eq]; exact ⟨h0, h1⟩)]
    rw [e1]
    simp [hj]
  rw [e, StrLaws.found_one]
  have e2 : (Str.ofString " \t").cps.toList = [32, 9] := by decide +kernel
  rw [e2]
  generalize x.cps.toList.getD j.toNat 0 = c
  unfold isB
  simp [Bool.decide_or]
  rw [Bool.eq_iff_iff]; simp

theorem bare_eq {x : Str} {a b : Int} (ha0 : 0 ≤ a) (ha1 : a ≤ max 0 (x.length : Int))
    (ha : ∀ j : Int, 0 ≤ j → j < a → (if j < (x.length : Int) then if (!(Builtin.Str.occurrences (Str.ofString " \t") (Txt.item x j) 0 (Str.ofString " \t").length 1).isEmpty) = true then true else false else false) = true)
    (hae : (if a < (x.length : Int) then if (!(Builtin.Str.occurrences (Str.ofString " \t") (Txt.item x a) 0 (Str.ofString " \t").length 1).isEmpty) = true then true else false else false) = false)
    (hb1 : b ≤ (x.length : Int)) (hb0 : min (x.length : Int) a ≤ b)
    (hb : ∀ j : Int, b < j → j ≤ (x.length : Int) → (if a < j then if (!(Builtin.Str.occurrences (Str.ofString " \t") (Txt.item x (j - 1)) 0 (Str.ofString " \t").length 1).isEmpty) = true then true else false else false) = true)
    (hbe : (if a < b then if (!(Builtin.Str.occurrences (Str.ofString " \t") (Txt.item x (b - 1)) 0 (Str.ofString " \t").length 1).isEmpty) = true then true else false else false) = false) :
    Txt.slice x (some a) (some b) = stripF x := by
  have hab : a ≤ b := by omega
  obtain ⟨i, rfl⟩ := Int.eq_ofNat_of_zero_le ha0
  obtain ⟨k, rfl⟩ := Int.eq_ofNat_of_zero_le (Int.le_trans ha0 hab)
  have hlen := toList_length x
  have get : ∀ j : Nat, j < x.length → x.cps.toList[j]? = some (x.cps.toList.getD j 0) := fun j hj => by
    have : j < x.cps.toList.length := by omega
    simp [List.getD_eq_getElem?_getD, List.getElem?_eq_getElem this]
  have L1 : LeadIs x.cps.toList i := by
    refine ⟨fun j hj => ?_, ?_⟩
    · have h := ha j (by omega) (by omega)
      rw [if_pos (by omega), blank_in (by omega) (by omega)] at h
      refine ⟨_, get j (by omega), isB_iff.mp ?_⟩
      have : ((j : Int)).toNat = j := by omega
      rw [this] at h
      cases e : isB (x.cps.toList.getD j 0) with
      | true => rfl
      | false => rw [e] at h; simp at h
    · by_cases hi : i < x.length
      · right
        refine ⟨_, get i hi, fun hb => ?_⟩
        rw [if_pos (by omega), blank_in (by omega) (by omega)] at hae
        have : ((i : Int)).toNat = i := by omega
        rw [this, isB_iff.mpr hb] at hae
        simp at hae
      · left
        exact List.getElem?_eq_none (by omega)
  have hdl : (x.cps.toList.drop i).length = x.length - i := by rw [List.length_drop, hlen]
  have rget : ∀ j : Nat, j < x.length - i → (x.cps.toList.drop i).reverse[j]? = some (x.cps.toList.getD (x.length - 1 - j) 0) := fun j hj => by
    rw [List.getElem?_reverse (by omega), List.getElem?_drop, hdl]
    have : i + (x.length - i - 1 - j) = x.length - 1 - j := by omega
    rw [this]
    exact get _ (by omega)
  have L2 : LeadIs (x.cps.toList.drop i).reverse (x.length - k) := by
    refine ⟨fun j hj => ?_, ?_⟩
    · have h := hb ((x.length : Int) - j) (by omega) (by omega)
      by_cases hij : (i : Int) < (x.length : Int) - j
      · rw [if_pos hij, blank_in (by omega) (by omega)] at h
        refine ⟨_, rget j (by omega), isB_iff.mp ?_⟩
        have : ((x.length : Int) - j - 1).toNat = x.length - 1 - j := by omega
        rw [this] at h
        cases e : isB (x.cps.toList.getD (x.length - 1 - j) 0) with
        | true => rfl
        | false => rw [e] at h; simp at h
      · rw [if_neg hij] at h; cases h
    · by_cases hik : i < k
      · right
        rw [if_pos (by omega), blank_in (by omega) (by omega)] at hbe
        refine ⟨_, rget _ (by omega), fun hb => ?_⟩
        have e1 : x.length - 1 - (x.length - k) = ((k : Int) - 1).toNat := by omega
        rw [e1] at hb
        rw [isB_iff.mpr hb] at hbe
        simp at hbe
      · left
        refine List.getElem?_eq_none ?_
        rw [List.length_reverse, hdl]; omega
  apply str_ext
  rw [slice_list ⟨by omega, hab, hb1⟩, stripF_list, ← strip_of L1 L2, hdl]
  have e1 : (i : Int).toNat = i := by omega
  rw [e1]
  congr 1
  have : i ≤ x.length := by rw [← hlen]; exact L1.drop.2
  omega
end Mine
end

section
open PySem PySem.Calls PySem.W PyProof.Rows
set_option maxRecDepth 100000
set_option maxHeartbeats 8000000
namespace Mine
theorem fillit2 (w : World) (h : Heap) (X : (hd.heap_39 w.params).In h) : PySem.Challenge.rw_mg0046_01 = PySem.Challenge.rw_mg0046_01 ∧ (hd.heap_39 w.params).In h := by
  k_fill; exact ⟨rfl, X⟩
local macro_rules | `(tactic| k_room) => `(tactic| exact Nat.le_of_ble_eq_true rfl)

theorem bare_does (w : World) (mean : ExcName → Option Value) (mg mb : Str → Option Value) (x : Str) (tx : Tok) (hx : x.length < 1000) :
    Does w mean mg mb 600 5000 122 [.str x tx] (fun _ => True) (ι := Tok) (fun t => .str (stripF x) t) (fun _ _ _ => True) := by
  intro base outer s R B X T _ hret
  w_on
  
  refine' Mine.enter ?k3 ?k5 ?k6 ?k7 ?k8 ?k9 ?kB ?_ ?c2 ?c3 ?c4 ?c5
  (case k3 => assumption)
  (case k5 => assumption)
  (case k6 => k_is)
  (case k7 => k_is)
  (case k8 => exact Nat.le_of_ble_eq_true rfl)
  (case k9 => exact BindsTo.of_eq rfl)
  (case kB => exact locs rfl)
  (case c2 => exact rfl)
  (case c3 => exact rfl)
  (case c4 => exact rfl)
  (case c5 => decide)
  intro L' h' F' N'
  (try dsimp only)
  (try k_fold)
  
  k_steps
  (rename_i kF _ _)
  dsimp only
  rw [bare_eq (by assumption) (by assumption) (by assumption) (by assumption) (by assumption) (by assumption) (by assumption) (by assumption)]
  exact hret _ _ _ kF.keep trivial


local macro_rules | `(tactic| walk_at "call ref") => `(tactic| (k_here; (with_reducible show wpAny _ _ (call (Value.ref _) [Value.str _ _]) _ _ _); (with_unfolding_all refine' Mine.new_ws ?k1 ?k2 ?k3 ?k4 ?k5 ?_); (case k1 => first | omega | ((rw [step_rev_len]); first | omega | (refine Nat.lt_of_le_of_lt (PySem.Txt.slice_le _ _ _) ?_; omega))); (case k2 => k_asm); (case k3 => k_asm); (case k4 => k_asm); (case k5 => k_asm); k_whole; intro x' d' es' nn' h' tk' i' t' F' N' hn' ht' he'))
local macro_rules | `(tactic| walk_at "getAttr ref") => `(tactic| (k_here; k_dflt (refine' get_own ?k1 ?k2 ?k3 ?k4 ?k5 ?k6 ?k7 ?k8 ?k9 ?_; (case k1 => k_asm); (case k2 => k_asm); (case k3 => k_inst); (case k4 => k_is); (case k5 => k_is); (case k6 => k_is); (case k7 => k_is); (case k8 => assumption); (case k9 => k_handed); k_whole)))

theorem cut_does (w : World) (mean : ExcName → Option Value) (mg mb : Str → Option Value) (x : Str) (tx : Tok) (hx : x.length < 1000) :
    Does w mean mg mb 600 5000 115 [.str x tx] (fun _ => True) (ι := Tok) (fun t => .str (stripF x) t) (fun _ _ _ => True) := by
  intro base outer s R B X T _ hret
  w_on
  
  refine' Mine.enter ?k3 ?k5 ?k6 ?k7 ?k8 ?k9 ?kB ?_ ?c2 ?c3 ?c4 ?c5
  (case k3 => assumption)
  (case k5 => assumption)
  (case k6 => k_is)
  (case k7 => k_is)
  (case k8 => exact Nat.le_of_ble_eq_true rfl)
  (case k9 => exact BindsTo.of_eq rfl)
  (case kB => exact locs rfl)
  (case c2 => exact rfl)
  (case c3 => exact rfl)
  (case c4 => exact rfl)
  (case c5 => decide)
  intro L' h' F' N'
  (try dsimp only)
  (try k_fold)
  
  k_steps
  (rename_i kF _ _)
  rw [cut_eq (by assumption) (by assumption) (by assumption) (by assumption)]
  exact hret _ _ _ kF.keep trivial

end Mine
end

section
open PySem PySem.Calls PySem.W PyProof.Rows
set_option maxRecDepth 100000
set_option maxHeartbeats 8000000
namespace Mine

/-- the claim's caller stands in the context's stack -/
def CalB (l : List (Code × Pos)) : Prop := hasCal l = true
def CalIn (Γ : Ctx) : Prop := ∀ p, hasCal ((Γ.code, p) :: Γ.below) = true

/-- wpAny, asked of the contexts that bear the claim's caller alone -/
def wpCal {α : Type} (M : Model) (A : Around) (t : Sem α) (Q : α → Shared → Prop) (E : Value → Shared → Prop) (s : Shared) : Prop :=
  ∀ Γ p, Γ.In A → CalIn Γ → Sem.wp M Γ t (fun a _ s' => Q a s') (fun e _ s' => E e s') p s
def codeCal (M : Model) (A : Around) (c : Code) (R : Result → Shared → Prop) (s : Shared) : Prop :=
  ∀ Γ p, Γ.code = c → Γ.Below A → hasCal Γ.below = true → wpCode M Γ R p s

section
variable {α β : Type} {M : Model} {A : Around} {E : Value → Shared → Prop} {s : Shared}
theorem wpCal.of {t : Sem α} {Q : α → Shared → Prop} (h : wpAny M A t Q E s) : wpCal M A t Q E s := fun Γ p hΓ _ => h Γ p hΓ
theorem codeCal.of {c : Code} {R : Result → Shared → Prop} (h : codeAny M A c R s) : codeCal M A c R s := fun Γ p hc hΓ _ => h Γ p hc hΓ
theorem wpCal_pure {a : α} {Q : α → Shared → Prop} (h : Q a s) : wpCal M A (pure a) Q E s := fun _ _ _ _ => h
theorem wpCal_mono {t : Sem α} {Q Q' : α → Shared → Prop} {E' : Value → Shared → Prop} (h : wpCal M A t Q E s) (hQ : ∀ a s, Q a s → Q' a s) (hE : ∀ e s, E e s → E' e s) : wpCal M A t Q' E' s :=
  fun Γ p hΓ hc => Sem.wp_mono M Γ t (fun a _ s => hQ a s) (fun e _ s => hE e s) p s (h Γ p hΓ hc)
theorem wpCal_bind {m : Sem α} {f : α → Sem β} {Q : β → Shared → Prop} (h : wpCal M A m (fun a s' => wpCal M A (f a) Q E s') E s) : wpCal M A (m >>= f) Q E s := fun Γ p hΓ hc => by
  rw [Sem.wp_bind']
  exact Sem.wp_mono M Γ m (fun a p' s' h' => h' Γ p' hΓ hc) (fun _ _ _ h' => h') p s (h Γ p hΓ hc)
/-- the first part by the library's walk, the rest with the caller known -/
theorem wpCal_first {m : Sem α} {f : α → Sem β} {Q : β → Shared → Prop} (h : wpAny M A m (fun a s' => wpCal M A (f a) Q E s') E s) : wpCal M A (m >>= f) Q E s := wpCal_bind (wpCal.of h)
theorem wpCal_holding {vs : List Value} {m : Sem α} {Q : α → Shared → Prop} (h : wpCal M A m Q E s) : wpCal M A (holding vs m) Q E s :=
  fun Γ p hΓ hc => by rw [Sem.wp_holding]; exact h Γ p hΓ hc
theorem wpCal_standAt {pos : Pos} {Q : Unit → Shared → Prop} (h : Q () s) : wpCal M A (standAt pos) Q E s := fun _ _ _ _ => h
theorem wpCal_attempt {m : Sem α} {Q : Except Value α → Shared → Prop} (h : wpCal M A m (fun a => Q (.ok a)) (fun e => Q (.error e)) s) : wpCal M A m.attempt Q E s :=
  fun Γ p hΓ hc => by rw [Sem.wp_attempt]; exact h Γ p hΓ hc
theorem wpCal_onRaise {m : Sem α} {k : Value → Sem Unit} {Q : α → Shared → Prop}
    (h : wpCal M A m Q (fun e s' => wpCal M A (k e) (fun _ s'' => E e s'') E s') s) : wpCal M A (m.onRaise k) Q E s := fun Γ p hΓ hc => by
  rw [Sem.wp_onRaise]
  exact Sem.wp_mono M Γ m (fun _ _ _ h' => h') (fun e p' s' h' => h' Γ p' hΓ hc) p s (h Γ p hΓ hc)

theorem enter_cal {Γ : Ctx} (h : CalIn Γ) (c : Code) (hd : Option Value) (p : Pos) : hasCal (Γ.enter c hd p).below = true := h p
theorem wpCal_call {f : Value} {pos : List Value} {kw : List (Str × Value)} {Q : Value → Shared → Prop}
    (hc : codeCal M A (.call f ⟨pos, kw⟩) (fun r s' => match r with | .ok (.ret v) => Q v s' | .ok _ => False | .error e => E e s') s) : wpCal M A (call f pos kw) Q E s := fun Γ p hΓ hcal => by
  unfold PySem.call
  rw [Sem.wp_runValue]
  exact hc _ p rfl (hΓ.enter (.call f ⟨pos, kw⟩) none p (by intro x; cases x)) (enter_cal hcal _ none p)

theorem codeCal_mono {c : Code} {R R' : Result → Shared → Prop} (h : codeCal M A c R s) (hR : ∀ r s, R r s → R' r s) : codeCal M A c R' s := fun Γ p hc hΓ hcal => wpCode_mono hR (h Γ p hc hΓ hcal)
theorem cal_below {Γ : Ctx} (h : hasCal Γ.below = true) : CalIn Γ := fun p => by
  unfold hasCal at h ⊢
  rw [List.any_cons, h, Bool.or_true]
theorem codeCal_of_tree {c : Code} {R : Result → Shared → Prop}
    (h : wpCal M (A.under c) (M.den c) (fun fin s' => match fin with | .done f => R (.ok f) s' | .again c' => c'.quiet = true ∧ codeCal M A c' R s') (fun e s' => R (.error e) s') s) : codeCal M A c R s := fun Γ p hc hΓ hcal => by
  rw [wpCode_iff_wp, hc]
  refine Sem.wp_mono M Γ _ (fun fin p' s' h' => ?_) (fun _ _ _ h' => h') p s (h Γ p (hc ▸ hΓ.in) (cal_below hcal))
  cases fin with
  | done f => exact h'
  | again c' => exact ⟨h'.1, h'.2 (Γ.goto c') p' rfl (hΓ.goto c') hcal⟩

theorem cal_wider {c : Code} {R : Result → Shared → Prop} {d u : Nat} {outer : List Env}
    (h : codeCal M (AR d u outer) c R s) (hh : A.handled = none) (hf : A.frames = some outer) (hg : A.guards = some []) (hd : A.depth ≤ d) (hu : A.units ≤ u) : codeCal M A c R s := by
  intro Γ p hc hΓ hcal
  refine h Γ p hc ⟨hΓ.1.trans hh, Nat.le_trans hΓ.2.1 hd, fun l e => ?_, fun g e => ?_, Nat.le_trans hΓ.2.2.2.2 hu⟩ hcal
  · exact hΓ.2.2.1 l (hf.trans e)
  · exact hΓ.2.2.2.1 g (hg.trans e)

variable {env : Env}
theorem wpCal_execs_cons {st : Stmt} {rest : List Stmt} {Q : Flow → Shared → Prop}
    (h : wpCal M A (exec st env) (fun f s' => match f with | .next => wpCal M A (execs rest env) Q E s' | f => Q f s') E s) : wpCal M A (execs (st :: rest) env) Q E s := fun Γ p hΓ hcal => by
  rw [execs_cons, Sem.wp_bind']
  refine Sem.wp_mono M Γ _ (fun f p' s' h' => ?_) (fun _ _ _ h' => h') _ _ (h Γ p hΓ hcal)
  cases f <;> first | exact h' Γ p' hΓ hcal | exact h'
theorem wpCal_execs_nil {Q : Flow → Shared → Prop} (h : Q .next s) : wpCal M A (execs [] env) Q E s := fun _ _ _ _ => h

theorem wpCal_If {test : PySem.Expr} {body orelse : List Stmt} {pos : Pos} {Q : Flow → Shared → Prop}
    (h : wpCal M A (isTrue test env (eval test env)) (fun b s₂ => if b then wpCal M A (execs body env) Q E s₂ else wpCal M A (execs orelse env) Q E s₂) E s) :
    wpCal M A (exec (.If test body orelse pos) env) Q E s := fun Γ p hΓ hcal => by
  simp only [exec_If, Sem.wp_bind', Sem.wp_cmd_standAt]
  refine Sem.wp_mono M Γ _ (fun b p₂ s₂ h₂ => ?_) (fun _ _ _ h' => h') _ _ (h Γ _ hΓ hcal)
  cases b <;> exact h₂ Γ p₂ hΓ hcal

theorem wpCal_Assign_Name {x : Str} {pos' : Pos} {value : PySem.Expr} {pos : Pos} {Q : Flow → Shared → Prop}
    (h : wpCal M A (eval value env) (fun v s₁ => wpAny M A (storeName env x v) (fun _ => Q .next) E s₁) E s)
    (hs : swapsWith value (some (.Name x pos')) pos.line env = pure false := by rfl) : wpCal M A (exec (.Assign [.Name x pos'] value pos) env) Q E s := fun Γ p hΓ hcal => by
  simp only [exec_Assign_Name env x pos' value pos hs, Sem.wp_bind', Sem.wp_cmd_standAt, Sem.wp_bindName, Sem.wp_pure']
  exact Sem.wp_mono M Γ _ (fun v _ s₁ h₁ => h₁ Γ _ hΓ) (fun _ _ _ h' => h') _ _ (h Γ _ hΓ hcal)

theorem wpCal_Call_Name {id : Str} {p pos : Pos} {args : List PySem.Expr} {keywords : List Keyword} {Q : Value → Shared → Prop}
    (h : wpAny M A (eval (.Name id p) env) (fun f s₁ => wpCal M A (callWith pos f [] (backTo pos (starEach args env)) (backToKw pos (keywordEach keywords env))) Q E s₁) E s) :
    wpCal M A (eval (.Call (.Name id p) args keywords pos) env) Q E s := by
  rw [arm_eval_Call_Name']
  exact wpCal_first h

theorem cal_callWith_type {pos : Pos} {T : String} {first : List Value} {args : List (Bool × Sem Value)} {Q : Value → Shared → Prop} (hplain : args.any (·.1) = false)
    (h : wpAny M A (evalArgs (.type T) true args []) (fun a s₁ => wpCal M A (call (.type T) (first ++ a.pos) a.kw) Q E s₁) E s) : wpCal M A (callWith pos (.type T) first args []) Q E s := by
  unfold callWith
  refine wpCal_bind (wpCal_holding (wpCal_mono (wpCal.of h) (fun a s₁ h₁ => wpCal_bind (wpCal_standAt ?_)) fun _ _ x => x))
  simp only [hplain, List.any_nil, Bool.or_false]
  refine wpCal_bind (wpCal_pure ?_)
  exact wpCal_bind (wpCal_mono h₁ (fun r s₂ hr => wpCal.of (wpAny_bind (wpAny_holding (wpAny_point (wpAny_pure hr))))) fun _ _ x => x)

theorem cal_callWith_K {K : Frag} {pos : Pos} {f : Value} {first : List Value} {e : PySem.Expr} {rest : List PySem.Expr} {Q : Value → Shared → Prop} (hk : keepIn K f = true)
    (h : wpAny M A (spliced (backTo pos (starEach (e :: rest) env))) (fun vs s₁ => K.In s₁.heap ∧ wpCal M A (call f (first ++ vs)) Q E s₁) E s)
    (he : starEach (e :: rest) env = (false, eval e env) :: starEach rest env := by rfl) (hplain : (backTo pos (starEach rest env)).any (·.1) = false := by rfl) :
    wpCal M A (callWith pos f first (backTo pos (starEach (e :: rest) env)) []) Q E s := by
  rw [he] at h ⊢
  have hpl : ((backTo pos ((false, eval e env) :: starEach rest env)).any (·.1) || ([] : List (Option Str × Sem Value)).any (·.1.isNone)) = false := by
    show ((false || (backTo pos (starEach rest env)).any (·.1)) || false) = false
    rw [hplain]; rfl
  have h' : wpAny M A (evalArgs f true (backTo pos ((false, eval e env) :: starEach rest env)) []) (fun a s₁ => K.In s₁.heap ∧ wpCal M A (call f (first ++ a.pos) a.kw) Q E s₁) E s := evalArgs_plain h
  unfold callWith
  refine wpCal_bind (wpCal_holding (wpCal_mono (wpCal.of h') (fun a s₁ h₁ => wpCal_bind (wpCal_standAt ?_)) fun _ _ x => x))
  obtain ⟨k, hk', L⟩ := keeps_K (M := M) hk _ h₁.1
  simp only [hpl]
  refine wpCal_first (L.here ?_)
  have tail : ∀ {t : Sem Value}, wpCal M A t Q E s₁ → wpCal M A (t >>= fun r => holding [r] point >>= fun _ => pure r) Q E s₁ :=
    fun ht => wpCal_bind (wpCal_mono ht (fun r s₂ hr => wpCal.of (wpAny_bind (wpAny_holding (wpAny_point (wpAny_pure hr))))) fun _ _ x => x)
  have marked (mk : Value) : wpCal M A (callMarked mk f (first ++ a.pos) a.kw) Q E s₁ := by
    intro Γ p hΓ hcal
    have := h₁.2 Γ p hΓ hcal
    unfold callMarked
    first | (rw [Sem.wp_keep]; exact this) | simpa using this
  rcases hk' with rfl | rfl | rfl <;> dsimp only <;> first | exact tail h₁.2 | (split <;> first | exact tail h₁.2 | exact tail (marked _))
end

section
variable {prog : Program} {w : World} {A : Around} {E : Value → Shared → Prop} {s : Shared} {env : Env}
theorem wpCal_Try_except {body orelse : List Stmt} {h₀ : ExceptHandler} {hs : List ExceptHandler} {pos : Pos} {Q : Flow → Shared → Prop}
    (h : wpCal (model prog w) A (execs body env) (fun f s₁ => match f with | .next => wpCal (model prog w) A (execs orelse env) Q E s₁ | f => Q f s₁)
      (fun e s₁ => wpAny (model prog w) A (noteFrame e env) (fun _ s₂ => wpAny (model prog w) A (setFlight e none) (fun _ s₃ => wpAny (model prog w) A (handleBy e env (h₀ :: hs)) Q E s₃) E s₂) E s₁) s) :
    wpCal (model prog w) A (exec (.Try body (h₀ :: hs) orelse [] pos) env) Q E s := by
  rw [arm_exec_Try]
  refine wpCal_bind (wpCal_standAt ?_)
  unfold tryStmt
  simp only [List.isEmpty_nil, if_true, List.isEmpty_cons, Bool.false_and, Bool.false_eq_true, if_false]
  refine wpCal_bind (wpCal_attempt (wpCal_mono h (fun f s₁ h₁ => ?_) fun e s₁ h₁ => ?_))
  · cases f <;> first | exact h₁ | exact wpCal_pure h₁
  · exact wpCal.of (wpAny_bind (wpAny_mono h₁ (fun _ _ h₂ => wpAny_bind h₂) fun _ _ x => x))

variable {R : Result → Shared → Prop}
theorem codeCal_func {body : List Stmt}
    (h : wpCal (model prog w) (A.deeper env) (execs body env) (fun f s' => R (.ok (.ret (match f with | .ret v => v | _ => .none))) s')
      (fun e s' => wpAny (model prog w) (A.deeper env) (leaving env e) (fun _ s'' => R (.error e) s'') (fun e' s'' => R (.error e') s'') s') s) : codeCal (model prog w) A (.func body env) R s := by
  refine codeCal_of_tree ?_
  show wpCal _ (A.deeper env) (do point; match ← (execs body env).onRaise (leaving env) with | .ret v => ret v | _ => ret .none) _ _ s
  refine wpCal_bind (wpCal.of (wpAny_point (wpCal_bind (wpCal_onRaise (wpCal_mono h (fun f s' h' => ?_) fun _ _ h' => wpCal.of h')))))
  cases f <;> exact wpCal_pure h'

theorem codeCal_call_def {a : Addr} {o : Obj} {fd : FuncData} {body : List Stmt} {args : Args} {binds : List (Str × Value)}
    (hroom : A.depth < recursionLimit) (ho : s.heap.get? a = some o) (hd' : o.data = .func fd) (hlim : s.heap.NoLimit) (hcd : s.heap.CodeRec fd.code fd.qualname)
    (hbody : fd.body = .stmts body) (hbind : BindsTo s fd args binds)
    (hcell : ∀ x ∈ fd.scope.names, x.2 ≠ .cell) (hloc : ∀ x ∈ binds, fd.scope.names.lookup x.1 = some .local)
    (h : ∀ h₀, h₀.Ns s.heap.objs.size (fun x => binds.reverse.lookup x) → (∀ b o, s.heap.get? b = some o → h₀.get? b = some o) →
      wpCal (model prog w) (A.deeper (callEnv fd s.heap.objs.size a)) (execs body (callEnv fd s.heap.objs.size a)) (fun f s' => R (.ok (.ret (match f with | .ret v => v | _ => .none))) s')
        (fun e s' => wpAny (model prog w) (A.deeper (callEnv fd s.heap.objs.size a)) (leaving (callEnv fd s.heap.objs.size a) e) (fun _ s'' => R (.error e) s'') (fun e' s'' => R (.error e') s'') s')
        { s with heap := h₀, toks := s.toks + binds.length })
    (hco : fd.scope.isCoroutine = false) (hgen : fd.scope.isGenerator = false) (hk : fd.scope.kind = .function) : codeCal (model prog w) A (.call (.ref a) args) R s := by
  refine codeCal_of_tree ?_
  show wpCal _ A.in1 (callAny (.ref a) args) _ _ s
  simp only [callAny]
  refine wpCal_first (wpAny_load ho ?_)
  obtain ⟨c, oc, vs, tq, hc, hoc, hdc, hq⟩ := hcd
  simp only [hd', callFunction, hco, hgen, hbody, hc]
  refine wpCal_first (m := field (.ref c) 1) (wpAny_field hoc hdc hq (wpCal_first (wpAny_pure ?_)))
  refine wpCal_first (hbind _ _ _ _ ?_)
  refine wpCal_first (wpAny_newFunctionEnv hcell hloc (fun h₀ hns₀ hsb₀ => wpCal_first (wpAny_enterFrame (hlim.fresh _ hsb₀) hroom (wpCal_pure (And.intro rfl ?_)))) hk)
  have hk₁ : ∀ b o, s.heap.get? b = some o → h₀.get? b = some o := fun b o e => hsb₀.extBut b o (Nat.ne_of_lt (Heap.lt_size e)) (Heap.get?_push_of_some _ e)
  have z := codeCal_func (h h₀ hns₀ hk₁)
  unfold callEnv at z
  rw [hc] at z
  exact z
end
end Mine
end

section
open PySem PySem.Calls PySem.W PySem.NumText PyProof.Rows
set_option maxRecDepth 100000
set_option maxHeartbeats 4000000
namespace Mine

theorem not_python {own : List String} {st : List (Code × Pos)} (h : hasCal st = true) : pythonCodeMadeTheCall own (st.map (·.1)) = false := by
  unfold pythonCodeMadeTheCall
  have e : ((st.map (·.1)).any fun c => match c with | .builtin "claim.caller" _ => true | _ => false) = true := by
    unfold hasCal at h
    rw [List.any_map]
    exact h
  rw [Bool.and_eq_false_iff, Bool.and_eq_false_iff]
  refine .inl (.inl ?_)
  rw [Bool.not_eq_false']
  exact e

theorem cal_mark {M : Model} {A : Around} {E : Value → Shared → Prop} {s : Shared} {own : List String} {e : Value} {Q : Unit → Shared → Prop} (h : Q () s) : wpCal M A (markTheRefusal own e) Q E s := by
  intro Γ p hΓ hcal
  unfold markTheRefusal
  rw [Sem.wp_bind']
  show Sem.wp M Γ (Sem.stack .pure) _ _ p s
  rw [Sem.wp_stack]
  show Sem.wp M Γ (if pythonCodeMadeTheCall own (((Γ.code, p) :: Γ.below).map (·.1)) = true then _ else _) _ _ p s
  rw [not_python (hcal p)]
  exact h

theorem sb_first {α β : Type} {M : Model} {A : Around} {E : Value → Shared → Prop} {s : Shared} {m : Sem α} {f : α → Sem β} {Q : β → Shared → Prop} (h : wpAny M A m (fun a s' => wpCal M A (f a) Q E s') E s) : wpCal M A (Sem.bind m f) Q E s := wpCal_bind (wpCal.of h)
theorem sb_bind {α β : Type} {M : Model} {A : Around} {E : Value → Shared → Prop} {s : Shared} {m : Sem α} {f : α → Sem β} {Q : β → Shared → Prop} (h : wpCal M A m (fun a s' => wpCal M A (f a) Q E s') E s) : wpCal M A (Sem.bind m f) Q E s := wpCal_bind h

theorem cal_ite_t {α : Type} {M : Model} {A : Around} {E : Value → Shared → Prop} {s : Shared} {c : Prop} [Decidable c] {a b : Sem α} {Q : α → Shared → Prop} (hc : c) (h : wpCal M A a Q E s) : wpCal M A (if c then a else b) Q E s := by rw [if_pos hc]; exact h
theorem cal_ite_f {α : Type} {M : Model} {A : Around} {E : Value → Shared → Prop} {s : Shared} {c : Prop} [Decidable c] {a b : Sem α} {Q : α → Shared → Prop} (hc : ¬ c) (h : wpCal M A b Q E s) : wpCal M A (if c then a else b) Q E s := by rw [if_neg hc]; exact h


theorem refused {prog : Program} {w : World} {A : Around} {E : Value → Shared → Prop} {s : Shared} {x : Str} {t : Tok} {Q : Value → Shared → Prop} {own : List String} {msg : Str → Str} (hh : A.handled = none) (hx : (reprText x).length ≤ sizeLine) (hm : ∀ y, (msg y).length ≤ sizeLine)
    (k : ∀ h' e tk, Heap.NewExc s.heap h' e "ValueError" → E (.ref e) { s with heap := h', toks := tk }) :
    wpCal (model prog w) A (do
      let shown ← pyRepr (.str x t)
      let m ← mkStr (msg shown)
      let refusal ← newExc (Value.type "ValueError") [m]
      markTheRefusal own refusal
      raiseNew refusal : Sem Value) Q E s := by
  refine wpCal_first (wpAny_pyRepr_str (wpCal_first (wpAny_mkStr (wpCal_first (wpAny_newExc_plain plainExc_ValueError fun h' e hx => wpCal_bind (cal_mark (wpCal.of (wpAny_raiseNew_none hh ?_))))) (hm _))) hx)
  exact k h' e _ hx.newExc

theorem msg_fits {a : Str} {y : Str} (h : a.length ≤ 100) : (a ++ ({ cps := y.cps.extract 0 200 } : Str)).length ≤ sizeLine := by
  rw [Str.length_append]
  have h2 : ({ cps := y.cps.extract 0 200 } : Str).length ≤ 200 := by
    show (y.cps.extract 0 200).size ≤ 200
    rw [Array.size_extract]; omega
  rw [sizeLine_eq]; omega

theorem text_raises {prog : Program} {w : World} {A : Around} {E : Value → Shared → Prop} {s : Shared} {x : Str} {t : Tok} {Q : Value → Shared → Prop} (hh : A.handled = none) (hx : (reprText x).length ≤ sizeLine)
    (hs : (numSeenOf x).length ≤ 640) (hn : PySem.intText? x = none)
    (k : ∀ h' e tk, Heap.NewExc s.heap h' e "ValueError" → E (.ref e) { s with heap := h', toks := tk }) :
    wpCal (model prog w) A ((int_private% "intFromText") (.str x t) (numTextOf x) 10) Q E s := by
  have hr := (read0 x hs).resolve_left (by rintro ⟨n, e, _⟩; rw [hn] at e; cases e)
  refine cal_ite_t hs ?_
  refine wpCal_first (wpAny_pure ?_)
  dsimp only
  rcases hr.2 with hr | ⟨i, hr, hne⟩
  · rw [show (int_private% "readNumeral") 0 10 (List.takeWhile (fun x => x != 0) (numTextOf x)) = _ from hr]
    dsimp only
    refine wpCal_first (wpAny_pure ?_)
    refine cal_ite_f (by simp) ?_
    refine wpCal_first (wpAny_rule ?_)
    refine wpCal_first (wpAny_pure ?_)
    exact refused hh hx (fun y => msg_fits (by decide +kernel)) k
  · rw [show (int_private% "readNumeral") 0 10 (List.takeWhile (fun x => x != 0) (numTextOf x)) = _ from hr]
    dsimp only
    refine cal_ite_f hne ?_
    refine wpCal_first (wpAny_rule ?_)
    refine wpCal_first (wpAny_pure ?_)
    exact refused hh hx (fun y => msg_fits (by decide +kernel)) k

theorem object_raises {prog : Program} {w : World} {A : Around} {E : Value → Shared → Prop} {s : Shared} {x : Str} {t : Tok} {Q : Value → Shared → Prop} (hh : A.handled = none) (hx : (reprText x).length ≤ sizeLine)
    (hs : (numSeenOf x).length ≤ 640) (hn : PySem.intText? x = none)
    (k : ∀ h' e tk, Heap.NewExc s.heap h' e "ValueError" → E (.ref e) { s with heap := h', toks := tk }) :
    wpCal (model prog w) A ((int_private% "intFromObject") (.str x t)) Q E s := by
  have f3 := KIN.str_int
  have f4 := KIN.str_idx
  have f5 := KIN.str_trunc
  have f6 : typeOf (.str x t) = pure (.type "str") := rfl
  refine sb_first ?_
  repeat wp_step
  refine sb_first ?_
  repeat wp_step
  refine cal_ite_f (by simp) ?_
  refine sb_first ?_
  repeat wp_step
  refine sb_first ?_
  repeat wp_step
  exact text_raises hh hx hs hn k

theorem new_raises {prog : Program} {w : World} {A : Around} {E : Value → Shared → Prop} {s : Shared} {x : Str} {t : Tok} {Q : PySem.Fin → Shared → Prop} (hh : A.handled = none) (hx : (reprText x).length ≤ sizeLine)
    (hs : (numSeenOf x).length ≤ 640) (hn : PySem.intText? x = none)
    (k : ∀ h' e tk, Heap.NewExc s.heap h' e "ValueError" → E (.ref e) { s with heap := h', toks := tk }) :
    wpCal (model prog w) A (Builtin.«int.__new__» ⟨[.type "int", .str x t], []⟩) Q E s := by
  have f1 := F.conv_sub_int
  have f2 := F.madeHere_int
  unfold Builtin.«int.__new__»
  refine sb_first ?_
  repeat wp_step
  refine cal_ite_f (by decide) ?_
  refine sb_first ?_
  repeat wp_step
  refine cal_ite_f (by decide) ?_
  refine sb_first ?_
  repeat wp_step
  refine cal_ite_f (by simp) ?_
  refine cal_ite_f (by simp) ?_
  refine sb_first (wpAny_pure ?_)
  exact sb_bind (object_raises hh hx hs hn k)

theorem codeCal_builtin {prog : Program} {w : World} {A : Around} {s : Shared} {R : Result → Shared → Prop} {id : String} {args : Args} {b : Builtin} (hb : entryFor table id = some b)
    (h : wpCal (model prog w) (A.under (.builtin id args)) (b args)
      (fun fin s' => match fin with | .done f => R (.ok f) s' | .again c' => c'.quiet = true ∧ codeCal (model prog w) A c' R s') (fun e s' => R (.error e) s') s) :
    codeCal (model prog w) A (.builtin id args) R s := by
  refine codeCal_of_tree ?_
  show wpCal _ _ (match entryFor table id with | some b => b args | none => unsupported ((withoutEnding? id "#data").getD id)) _ _ s
  rw [hb]; exact h

theorem int_raises {prog : Program} {w : World} {A : Around} {E : Value → Shared → Prop} {s : Shared} {x : Str} {t : Tok} {Q : Value → Shared → Prop} (hh : A.handled = none) (hx : (reprText x).length ≤ sizeLine)
    (hs : (numSeenOf x).length ≤ 640) (hn : PySem.intText? x = none)
    (k : ∀ h' e tk, Heap.NewExc s.heap h' e "ValueError" → E (.ref e) { s with heap := h', toks := tk }) :
    wpCal (model prog w) A (call (.type "int") [.str x t]) Q E s := by
  have hc : codeCal (model prog w) A (.builtin "type.__call__" ⟨[.type "int", .str x t], []⟩) (fun r s' => match r with | .ok (.ret v) => Q v s' | .ok _ => False | .error e => E e s') s := by
    refine codeCal_builtin F.entry_type_call ?_
    have f1 := F.typeCall_int_1 (.str x t)
    have f2 := F.called_int.made
    obtain ⟨c, tl, f3⟩ := F.called_int.mro
    unfold Builtin.«type.__call__»
    refine cal_ite_f (by decide) ?_
    refine cal_ite_f (fun h => absurd (F.called_int.canCreate.symm.trans h) Bool.false_ne_true) ?_
    refine sb_first (wpAny_of_eq f1 ?_)
    refine sb_first (wpAny_of_eq f3 ?_)
    refine cal_ite_f (by simp) ?_
    refine sb_first (wpAny_of_eq f2 ?_)
    refine sb_first (wpAny_pure ?_)
    refine sb_bind (wpCal_holding (wpCal_call (codeCal_of_tree ?_)))
    refine sb_first (wpAny_of_eq (F.newCall_int_1 (.str x t)) (wpCal_pure ⟨Code.quiet_builtin _ (by decide +kernel), codeCal_builtin F.entry_int_new ?_⟩))
    exact new_raises hh hx hs hn k
  refine wpCal_call (codeCal_of_tree ?_)
  exact wpCal_pure ⟨Code.quiet_builtin _ (by decide +kernel), hc⟩
end Mine
end

section
open PySem PySem.Calls PySem.W PySem.Spec PyProof.Rows
set_option maxRecDepth 100000
set_option maxHeartbeats 4000000
namespace Mine

/-- the frames' places -/
abbrev frs (l : List Env) : List Addr := l.filterMap (·.frame)

section
variable {prog : Program} {w : World} {A₀ : Around} {E : Value → Shared → Prop} {s' : Shared} {base h₀ h : Heap} {outer : List Env} {L a e : Addr} {m : Str → Option Value} {name : Str} {scope : Scope} {cd : Value} {Q : Unit → Shared → Prop} {X : String} {news : List (Addr × Obj)}

/-- a new exception is noted in a frame with frames below it: those change in their slots alone -/
theorem note_turn (K : Below A₀ base outer h₀) (hx : Heap.NewExc h s'.heap e X) (F : Fr h₀ L h m) (N : News h₀ L h news)
    (k : ∀ h' g', KtsTurn (frs outer) h₀ g' → Below A₀ base outer g' → TT.HeldN g' L h' m e X news → Q () { s' with heap := h' }) (hk : scope.kind = .function := by rfl) :
    wpAny (model prog w) (A₀.deeper (envOf name scope L a cd)) (noteFrame (.ref e) (envOf name scope L a cd)) Q E s' := by
  have K' := K.push (name := name) (a := a) (cd := cd) F hk
  have hin : ∀ env ∈ (envOf name scope L a cd :: outer), ∀ b, env.frame = some b → b ∈ (envOf name scope L a cd :: outer).filterMap (·.frame) := fun env he b hb => List.mem_filterMap.mpr ⟨env, he, hb⟩
  have nin : ∀ q ∈ news, q.1 ∉ (envOf name scope L a cd :: outer).filterMap (·.frame) := fun q hq hm => by
    obtain ⟨env, he, hf⟩ := List.mem_filterMap.mp hm
    rcases List.mem_cons.mp he with rfl | he
    · exact (N q hq).2.1 (Option.some.inj hf).symm
    · obtain ⟨o, ho, _⟩ := (K.frames.mem (List.mem_filterMap.mpr ⟨env, he, hf⟩)).2
      rw [(N q hq).2.2] at ho; cases ho
  obtain ⟨ob, tp, he, hcls, hd⟩ := hx.there
  have hen : (hideAll h ((envOf name scope L a cd :: outer).filterMap (·.frame))).get? e = none := by
    cases q : (hideAll h ((envOf name scope L a cd :: outer).filterMap (·.frame))).get? e with
    | none => rfl
    | some o => have := of_hideAll _ q; rw [hx.new] at this; cases this
  unfold noteFrame
  simp only [show (envOf name scope L a cd).frame = some L from rfl]
  refine wpAny_bind (wpAny_field he hd (x := .none) rfl ?_)
  rw [if_neg (by decide)]
  refine wpAny_entryW (base := hideAll h ((envOf name scope L a cd :: outer).filterMap (·.frame))) (a0 := tp) K'.stack ((funFrames_hide K'.frames hin).of_keeps fun b o hb _ => ⟨o, hx.keeps b o hb, rfl⟩) rfl he (fun b o hb => hx.keeps b o (of_hideAll _ hb)) hen hd (by show 1 < 6; decide) rfl fun h' hN => ?_
  obtain ⟨k1, k2, k3, k4⟩ := hN
  have up : h.UpToSlots h' := (Heap.UpToSlots.of_keeps hx.keeps).trans k4
  obtain ⟨g', T, F', B'⟩ := kts_ground (name := name) (scope := scope) (a := a) (cd := cd) K F (fun b o e nm => hideAll_get _ e nm) k1 up
  obtain ⟨oe, vs, T', oT, ts, he', ⟨hcl, _⟩, hd', h1, hnT, hTe, hT, hdT, h3⟩ := k3
  have hTin : T' ∉ (envOf name scope L a cd :: outer).filterMap (·.frame) := fun hm => by
    obtain ⟨_, o, ho, hnf⟩ := k2.mem hm
    rw [hT] at ho
    cases ho
    exact hnf _ hdT
  have hTL : T' ≠ L := fun q => hTin (by rw [q]; exact List.mem_filterMap.mpr ⟨_, .head _, rfl⟩)
  have hTh : h.get? T' = none := by
    cases hq : h.get? T' with
    | none => rfl
    | some o => rw [hideAll_get _ hq hTin] at hnT; cases hnT
  have g0 : ∀ {b}, h.get? b = none → g'.get? b = none := fun hb => T.none_ _ (kts_none F.keep hb)
  refine k h' g' T B' ⟨⟨F', ⟨oe, vs, T', oT, ts, he', hcl.trans hcls, hd', h1, hT, hdT, h3, hTL, hTe, g0 hTh⟩, g0 hx.new⟩, fun p hp => ⟨k1 _ _ (hideAll_get _ (N p hp).1 (nin p hp)), (N p hp).2.1, T.none_ _ (N p hp).2.2⟩, ?_⟩
  intro ob ws tb e1 e2 e3 p hp q
  rw [he'] at e1
  cases e1
  rw [hd'] at e2
  cases e2
  rw [h1] at e3
  cases e3
  have p1 := (N p hp).1
  rw [q, hTh] at p1
  cases p1
end

abbrev tobj (ps : Array Value) : Obj := { cls := .none, data := .fields ps }

/-- what a def does, called with vs in a context that bears the claim's caller: as Does, but frames below may change in their slots, and the table at 30 may grow -/
def DoesG (w : World) (mean : ExcName → Option Value) (mg mb : Str → Option Value) (d u : Nat) (f : Addr) (vs : List Value) (Pre : Heap → Prop) {ι : Type} (V : ι → Value) (W : ι → List (Addr × Obj)) (P : ι → Prop) : Prop :=
  ∀ (base : Heap) (outer : List Env) (s : Shared) (g : Heap) (ps : Array Value) (R : Result → Shared → Prop),
    Below (AR d u outer) base outer g → (hd.heap_39 w.params).In base → Top p0 l0 mean mg mb base → Kept g s.heap → g.objs.size ≤ s.heap.objs.size → g.get? 30 = none → s.heap.get? 30 = some (tobj ps) → TriplesOk ps.toList → AllBare s.gens → Pre g →
    (∀ i g' h' tk' gens' ps', KtsTurn (frs outer) g g' → Kept g' h' → h'.get? 30 = some (tobj ps') → TriplesOk ps'.toList → AllBare gens' → (∀ p ∈ W i, h'.get? p.1 = some p.2 ∧ g'.get? p.1 = none) → P i →
      R (.ok (.ret (V i))) { s with heap := h', toks := tk', gens := gens' }) →
    codeCal (model PySem.Challenge.rw_mg0046_01.row.prog w) (AR d u outer) (.call (.ref f) ⟨vs, []⟩) R s

theorem below_up {A : Around} {base g h : Heap} {outer : List Env} (B : Below A base outer g) (k : Kept g h) : Below A base outer h :=
  ⟨B.stack, fun b o e => k b o (B.stays b o e), B.frames.of_keeps fun b o e _ => ⟨o, k b o e, rfl⟩⟩

theorem DoesG.of_does {w : World} {mean : ExcName → Option Value} {mg mb : Str → Option Value} {d u : Nat} {f : Addr} {vs : List Value} {Pre : Heap → Prop} {ι : Type} {V : ι → Value} {W : ι → List (Addr × Obj)} {P : ι → Prop} {PH : Heap → Heap → ι → Prop}
    (C : Does w mean mg mb d u f vs Pre V PH) (hpre : ∀ g h, Kept g h → Pre g → Pre h) (hW : ∀ h h' i, PH h h' i → (∀ p ∈ W i, h'.get? p.1 = some p.2 ∧ h.get? p.1 = none) ∧ P i) : DoesG w mean mg mb d u f vs Pre V W P := by
  intro base outer s g ps R B X T k hsz h30 hps hT hG hp hR
  have B' := below_up B k
  refine codeCal.of (C base outer s R B' (X.keeps B'.stays) (T.keeps B'.stays) (hpre g _ k hp) fun i h' tk' hk hP => ?_)
  obtain ⟨h1, h2⟩ := hW _ _ _ hP
  exact hR i g h' tk' s.gens ps KtsTurn.refl (fun b o e => hk b o (k b o e)) (hk _ _ hps) hT hG (fun p hp => ⟨(h1 p hp).1, kts_none k (h1 p hp).2⟩) h2

theorem enterG {w : World} {K : Frag} {A : Around} {s : Shared} {R : Result → Shared → Prop} {p : Program} {loose : List Str} {mean : ExcName → Option Value} {mg mb : Str → Option Value} {base g : Heap} {ps : Array Value} {outer : List Env} {A₁ : Around}
    {name qual : Str} {params : Arguments} {body : List Stmt} {scope : Scope} {dV kV doc pm cdv ct oc : Value} {an od : Option Addr} {osl : Array (Option Value)} {f : Addr} {args : Args} {binds : List (Str × Value)} {prog : Program}
    (B : Below A₁ base outer g) (X : K.In base) (T : Top p loose mean mg mb base) (k : Kept g s.heap) (hsz : g.objs.size ≤ s.heap.objs.size) (h30 : g.get? 30 = none) (hps : s.heap.get? 30 = some (tobj ps))
    (ho : K.lookup f = some ⟨oc, od, .func (fnOf name qual params body scope dV kV doc pm an cdv ct), osl⟩) (hcd : codeIn K cdv qual = true) (hroom : A.depth < recursionLimit)
    (hbind : BindsTo s (fnOf name qual params body scope dV kV doc pm an cdv ct) args binds) (hloc : ∀ y ∈ binds, scope.names.lookup y.1 = some .local)
    (h : ∀ L' h₁, Fr g L' h₁ (fun y => binds.reverse.lookup y) → News g L' h₁ [(30, tobj ps)] → K.In g → Top p loose mean mg mb g →
      wpCal (model prog w) (A.deeper (envOf qual scope L' f cdv)) (execs body (envOf qual scope L' f cdv))
        (fun fl s' => R (.ok (.ret (match fl with | .ret v => v | _ => .none))) s')
        (fun e s' => wpAny (model prog w) (A.deeper (envOf qual scope L' f cdv)) (leaving (envOf qual scope L' f cdv) e) (fun _ s'' => R (.error e) s'') (fun e' s'' => R (.error e') s'') s')
        { s with heap := h₁, toks := s.toks + binds.length })
    (hco : scope.isCoroutine = false) (hgen : scope.isGenerator = false) (hk : scope.kind = .function)
    (hcell : ∀ x ∈ scope.names, x.2 ≠ .cell) : codeCal (model prog w) A (.call (.ref f) args) R s := by
  have st : Kept base s.heap := fun b o e => k b o (B.stays b o e)
  have X' := X.keeps st
  refine codeCal_call_def (fd := fnOf name qual params body scope dV kV doc pm an cdv ct) (body := body) (binds := binds) hroom (X' _ _ ho) rfl (T.keeps st).nolimit (codeRec_of X' hcd) rfl hbind hcell hloc
    (fun h₁ hns hk₁ => h _ h₁ ⟨hns, fun b o e => hk₁ b o (k b o e), hsz⟩ (fun q hq => ?_) (X.keeps B.stays) (T.keeps B.stays)) hco hgen hk
  obtain rfl := List.mem_singleton.mp hq
  exact ⟨hk₁ _ _ hps, Nat.ne_of_lt (Heap.lt_size hps), h30⟩

theorem useG {w : World} {mean : ExcName → Option Value} {mg mb : Str → Option Value} {d u : Nat} {f : Addr} {vs : List Value} {Pre : Heap → Prop} {ι : Type} {V : ι → Value} {W : ι → List (Addr × Obj)} {P : ι → Prop}
    {A A₀ : Around} {base h₀ : Heap} {outer : List Env} {L : Addr} {m : Str → Option Value} {news : List (Addr × Obj)} {s : Shared} {Q E : Value → Shared → Prop} {ps : Array Value} {name : Str} {scope : Scope} {a : Addr} {cd : Value}
    (C : DoesG w mean mg mb d u f vs Pre V W P) (B : Below A₀ base outer h₀) (F : Fr h₀ L s.heap m) (XB : (hd.heap_39 w.params).In base) (TB : Top p0 l0 mean mg mb base) (N : News h₀ L s.heap ((30, tobj ps) :: news)) (hT : TriplesOk ps.toList) (hG : AllBare s.gens)
    (hne : ∀ p ∈ news, p.2.cls ≠ .none)
    (hA : A.frames = some (envOf name scope L a cd :: outer)) (hke : scope.kind = .function) (hh : A.handled = none) (hg : A.guards = some []) (hdp : A.depth ≤ d) (hu : A.units ≤ u)
    (hp : ∀ g, (∀ p ∈ news, g.get? p.1 = some p.2) → Kept g s.heap → Pre g)
    (k : ∀ i h' tk' gens' ps' h₀', KtsTurn (frs outer) h₀ h₀' → Below A₀ base outer h₀' → Fr h₀' L h' m → News h₀' L h' ((30, tobj ps') :: (W i ++ news)) → (hd.heap_39 w.params).In h₀' → Top p0 l0 mean mg mb h₀' → TriplesOk ps'.toList → AllBare gens' → P i →
      Q (V i) { s with heap := h', toks := tk', gens := gens' }) :
    wpCal (model PySem.Challenge.rw_mg0046_01.row.prog w) A (call (.ref f) vs) Q E s := by
  have N1 : News h₀ L s.heap [(30, tobj ps)] := fun q hq => N q (by obtain rfl := List.mem_singleton.mp hq; exact .head _)
  obtain ⟨FG, BG, _, _⟩ := groundX (R := fun _ _ => True) (A := AR d u (envOf name scope L a cd :: outer)) (env := envOf name scope L a cd) B F N1 rfl rfl hke
  have h30 : ([((30 : Addr), tobj ps)].map (·.1)) = [30] := rfl
  rw [h30] at FG BG
  have n30 : ∀ p ∈ news, p.1 ≠ 30 := fun p hp q => by
    have e1 := (N p (.tail _ hp)).1
    have e2 := (N1 _ (.head _)).1
    rw [q, e2] at e1
    exact hne p hp (by rw [← Option.some.inj e1])
  have gnews : ∀ p ∈ news, (hideAll s.heap [30]).get? p.1 = some p.2 := fun p hp => hideAll_get _ (N p (.tail _ hp)).1 (fun q => n30 p hp (List.mem_singleton.mp q))
  have hk : Kept (hideAll s.heap [30]) s.heap := fun b o e => of_hideAll _ e
  refine wpCal_call (cal_wider (C base (envOf name scope L a cd :: outer) s (hideAll s.heap [30]) ps _ BG XB TB hk (Nat.le_of_eq (hideAll_size _ _)) (hideAll_none _ (.head _)) (N1 _ (.head _)).1 hT hG (hp _ gnews hk) fun i g' h' tk' gens' ps' T' k' hps' hT' hG' hW hP => ?_) hh hA hg hdp hu)
  have nin : ∀ q ∈ news, q.1 ∉ frs (envOf name scope L a cd :: outer) := fun q hq hm => by
    rcases kts_mem hm with z | z
    · exact (N q (.tail _ hq)).2.1 z
    · obtain ⟨o, ho, _⟩ := (B.frames.mem z).2
      rw [(N q (.tail _ hq)).2.2] at ho; cases ho
  have up : (hideAll s.heap [30]).UpToSlots h' := fun b o e _ => by
    obtain ⟨sl, hs⟩ := T'.up e
    exact ⟨sl, k' _ _ hs⟩
  obtain ⟨h₀', T₀, F₀, B₀⟩ := kts_ground (name := name) (scope := scope) (a := a) (cd := cd) (B := hideAll (hideAll s.heap [30]) (frs (envOf name scope L a cd :: outer))) B FG (fun b o e nm => hideAll_get _ e nm)
    (fun b o e => by
      have nb : b ∉ frs (envOf name scope L a cd :: outer) := fun hm => by rw [hideAll_none _ hm] at e; cases e
      exact k' b o (T'.other b o (of_hideAll _ e) nb)) up
  obtain ⟨oL, esL, epL, hL, hLd, hLk, hLf⟩ := FG.ns
  obtain ⟨slL, hL'⟩ := T'.up hL
  have dom : ∀ {b}, g'.get? b = none → h₀'.get? b = none := fun {b} hb => T₀.none_ _ (by
    cases q : h₀.get? b with
    | none => rfl
    | some o =>
      obtain ⟨sl, hs⟩ := T'.up (FG.keep b o q)
      rw [hb] at hs; cases hs)
  refine k i h' tk' gens' ps' h₀' T₀ B₀ F₀ (List.forall_mem_cons.mpr ⟨⟨hps', (N1 _ (.head _)).2.1, T₀.none_ _ (N1 _ (.head _)).2.2⟩, fun q hq => ?_⟩) (XB.keeps B₀.stays) (TB.keeps B₀.stays) hT' hG' hP
  rcases List.mem_append.mp hq with hq | hq
  · exact ⟨(hW q hq).1, fun z => (by have := (hW q hq).2; rw [z, hL'] at this; cases this), dom (hW q hq).2⟩
  · exact ⟨k' _ _ (T'.other _ _ (gnews q hq) (nin q hq)), (N q (.tail _ hq)).2.1, T₀.none_ _ (N q (.tail _ hq)).2.2⟩
end Mine
end

section
open PySem PySem.Calls PySem.W PyProof.Rows
set_option maxRecDepth 100000
set_option maxHeartbeats 4000000
namespace Mine
section
variable {M : Model} {A : Around} {E : Value → Shared → Prop} {s : Shared} {env : Env}
theorem wpCal_Return {e : PySem.Expr} {pos : Pos} {Q : Flow → Shared → Prop} (h : wpCal M A (eval e env) (fun v s' => Q (.ret v) s') E s) : wpCal M A (exec (.Return (some e) pos) env) Q E s := by
  rw [exec_Return_some]
  exact wpCal_bind (wpCal_standAt (wpCal_bind (wpCal_mono h (fun v s' h' => wpCal_pure h') fun _ _ x => x)))
theorem wpCal_and2 {e₁ e₂ : PySem.Expr} {pos : Pos} {Q : Value → Shared → Prop}
    (h : wpAny M A (eval e₁ env) (fun v s₁ => wpAny M A (truthy v) (fun c s₂ => if c then wpCal M A (eval e₂ env) Q E s₂ else Q v s₂) E s₁) E s) :
    wpCal M A (eval (.BoolOp .And [e₁, e₂] pos) env) Q E s := by
  show wpCal M A (do
    let v ← eval e₁ env
    standAt pos
    let c ← holding [v] (truthy v)
    match BoolOp.And, c with
    | .And, false | .Or, true => pure v
    | _, _ => boolOp pos .And [eval e₂ env]) Q E s
  refine wpCal_first (wpAny_mono h (fun v s₁ h₁ => wpCal_bind (wpCal_standAt (wpCal_first (wpAny_holding (wpAny_mono h₁ (fun c s₂ h₂ => ?_) fun _ _ x => x))))) fun _ _ x => x)
  cases c with
  | false => exact wpCal_pure h₂
  | true => exact h₂
theorem wpCal_Compare1 {l : PySem.Expr} {op : CmpOp} {r : PySem.Expr} {pos : Pos} {Q : Value → Shared → Prop}
    (h : wpCal M A (eval l env) (fun a s₁ => wpAny M A (eval r env) (fun b s₂ => wpAny M A (compareOp op a b) Q E s₂) E s₁) E s)
    (hm : behindInMarks op r = false := by with_unfolding_all rfl) :
    wpCal M A (eval (.Compare l [op] [r] pos) env) Q E s := fun Γ p hΓ hcal => by
  simp only [eval_Compare1, markedBehindIn_of_false hm, Sem.wp_bind', Sem.wp_holding, Sem.wp_cmd_standAt, Sem.wp_operate]
  exact Sem.wp_mono M Γ _ (fun a p₁ s₁ h₁ => Sem.wp_mono M Γ _ (fun b _ s₂ h₂ => h₂ Γ _ hΓ) (fun _ _ _ h' => h') _ _ (h₁ Γ p₁ hΓ))
    (fun _ _ _ h' => h') _ _ (h Γ p hΓ hcal)
theorem wpCal_isTrue_not {x : PySem.Expr} {pos : Pos} {whole : Sem Value} {Q : Bool → Shared → Prop} (h : wpCal M A (isTrue x env (eval x env)) (fun c s' => Q (!c) s') E s) :
    wpCal M A (isTrue (.UnaryOp .Not x pos) env whole) Q E s := by
  show wpCal M A (do return !(← isTrue x env (eval x env))) Q E s
  exact wpCal_bind (wpCal_mono h (fun c s' h' => wpCal_pure h') fun _ _ x => x)
theorem wpCal_isTrue_or2 {x y : PySem.Expr} {pos : Pos} {whole : Sem Value} {Q : Bool → Shared → Prop}
    (h : wpCal M A (isTrue x env (eval x env)) (fun c s' => if c then Q true s' else wpCal M A (isTrue y env (eval y env)) Q E s') E s) :
    wpCal M A (isTrue (.BoolOp .Or [x, y] pos) env whole) Q E s := by
  show wpCal M A (do
    match BoolOp.Or, ← isTrue x env (eval x env) with
    | .And, false => pure false
    | .Or, true => pure true
    | _, _ => allTrue .Or [y] env) Q E s
  refine wpCal_bind (wpCal_mono h (fun c s' h' => ?_) fun _ _ x => x)
  cases c with
  | true => exact wpCal_pure h'
  | false =>
    show wpCal M A (do
      match BoolOp.Or, ← isTrue y env (eval y env) with
      | .And, false => pure false
      | .Or, true => pure true
      | _, _ => allTrue .Or [] env) Q E s'
    have h'' : wpCal M A (isTrue y env (eval y env)) Q E s' := h'
    refine wpCal_bind (wpCal_mono h'' (fun c s' h' => ?_) fun _ _ x => x)
    cases c with
    | true => exact wpCal_pure h'
    | false => exact wpCal_pure h'
theorem wpCal_isTrue_plain {e : PySem.Expr} {whole : Sem Value} {Q : Bool → Shared → Prop} (h : wpCal M A whole (fun v s₁ => wpAny M A (truthy v) Q E s₁) E s)
    (he : isTrue e env whole = (do let v ← whole; standAt e.pos; holding [v] (truthy v)) := by rfl) : wpCal M A (isTrue e env whole) Q E s := by
  rw [he]
  exact wpCal_bind (wpCal_mono h (fun v s₁ h₁ => wpCal_bind (wpCal_standAt (wpCal_holding (wpCal.of h₁)))) fun _ _ x => x)
end
end Mine
end

section
open PySem PySem.Calls PySem.W PyProof.Rows
set_option maxRecDepth 100000
set_option maxHeartbeats 8000000
namespace Mine
theorem fillit8 (w : World) (h : Heap) (X : (hd.heap_39 w.params).In h) : PySem.Challenge.rw_mg0046_01 = PySem.Challenge.rw_mg0046_01 ∧ (hd.heap_39 w.params).In h := by
  k_fill; exact ⟨rfl, X⟩
local macro_rules | `(tactic| k_room) => `(tactic| exact Nat.le_of_ble_eq_true rfl)

structure GoOn : Prop where
def StopMark8 (P : Prop) : Prop := P
theorem stop_here8 {P : Prop} (h : StopMark8 P) : P := h
local macro_rules | `(tactic| walk_at "binaryOp Add str str") => `(tactic| ((fail_if_success (rename GoOn => zz9)); refine stop_here8 ?_))

abbrev sysL : List Str := [Str.ofString "SunOS", Str.ofString "SunOS", Str.ofString "SunOS", Str.ofString " SunOS\t", Str.ofString "win32", Str.ofString "win16", Str.ofString "\twin32", Str.ofString "Darwin"]
abbrev leadL : List Str := [Str.ofString "", Str.ofString "", Str.ofString " ", Str.ofString "\t"]
abbrev gapL : List Str := [Str.ofString "", Str.ofString "", Str.ofString " ", Str.ofString "\t "]
abbrev restL : List Str := [Str.ofString "", Str.ofString ".8", Str.ofString ".10 SP", Str.ofString "."]
abbrev verL : List Str := [Str.ofString "Generic", Str.ofString " v 1\t", Str.ofString "", Str.ofString "a\tb c"]
abbrev mTxt (m : Int) : Str := Str.ofString (toString m)
inductive CoreOk (m : Int) : Str → Option Int → Prop
  | plain : CoreOk m (mTxt m) (some m)
  | under : CoreOk m (mTxt m ++ Str.ofString "_0") (some (m * 10))
  | b : CoreOk m (mTxt m ++ Str.ofString "b") none
  | v : CoreOk m (Str.ofString "V" ++ mTxt m) none
  | plus : CoreOk m (Str.ofString "+" ++ mTxt m) none
  | nil : CoreOk m (Str.ofString "") none
structure RowOk (sys rel ver : Str) (val : Option Int) (rest : Str) : Prop where
  sysIn : sys ∈ sysL
  verIn : ver ∈ verL
  restIn : rest ∈ restL
  relIs : ∃ m lead core gap, 0 ≤ m ∧ m < 1000 ∧ lead ∈ leadL ∧ gap ∈ gapL ∧ CoreOk m core val ∧ rel = lead ++ core ++ gap ++ rest

abbrev optV (val : Option Int) (t : Tok) : Value := match val with | none => .none | some v => .int v t

structure RowI where
  t : Addr
  l : Addr
  sys : Str
  rel : Str
  ver : Str
  val : Option Int
  rest : Str
  t1 : Tok
  t2 : Tok
  t3 : Tok
  t4 : Tok
  t5 : Tok
abbrev RowI.news (i : RowI) : List (Addr × Obj) := [(i.t, { cls := .type "tuple", data := .seq #[.ref i.l, optV i.val i.t4, .str i.rest i.t5] }), (i.l, PySem.W.listOf #[.str i.sys i.t1, .str i.rel i.t2, .str i.ver i.t3] 0)]
theorem row_pack {h₀ h : Heap} {L : Addr} {i : RowI} {rest : List (Addr × Obj)} (N : News h₀ L h (i.news ++ rest)) : ∀ p ∈ i.news, h.get? p.1 = some p.2 ∧ h₀.get? p.1 = none :=
  fun p hp => ⟨(N p (List.mem_append.mpr (.inl hp))).1, (N p (List.mem_append.mpr (.inl hp))).2.2⟩
theorem nilN {h₀ h : Heap} {L : Addr} {m : Str → Option Value} (_ : Fr h₀ L h m) : News h₀ L h [] := News.nil
theorem getD_mem {l : List Str} {i : Nat} {d : Str} (h : i < l.length) : l.getD i d ∈ l := by
  rw [List.getD, List.getElem?_eq_getElem h]
  exact List.getElem_mem h
theorem len_of {l : List Str} {x : Str} {n : Nat} (h : x ∈ l) (hl : (l.all fun y => decide (y.length ≤ n)) = true) : x.length ≤ n := of_decide_eq_true (List.all_eq_true.mp hl x h)

theorem row_does (w : World) (mean : ExcName → Option Value) (mg mb : Str → Option Value) (x : Int) (tx : Tok)  :
    Does w mean mg mb 600 5000 108 [.int x tx] (fun _ => True) (ι := RowI) (fun i => .ref i.t) (fun h h' i => RowOk i.sys i.rel i.ver i.val i.rest ∧ ∀ p ∈ i.news, h'.get? p.1 = some p.2 ∧ h.get? p.1 = none) := by
  intro base outer s R B X T _ hret
  w_on
  k_with "table" => skip
  refine' Mine.enter ?k3 ?k5 ?k6 ?k7 ?k8 ?k9 ?kB ?_ ?c2 ?c3 ?c4 ?c5
  (case k3 => assumption)
  (case k5 => assumption)
  (case k6 => k_is)
  (case k7 => k_is)
  (case k8 => exact Nat.le_of_ble_eq_true rfl)
  (case k9 => exact BindsTo.of_eq rfl)
  (case kB => exact locs rfl)
  (case c2 => exact rfl)
  (case c3 => exact rfl)
  (case c4 => exact rfl)
  (case c5 => decide)
  intro L' h' F' N'
  (try dsimp only)
  (try k_fold)
  k_steps
  unfold StopMark8
  have go9 : GoOn := ⟨⟩
  generalize hq9 : (if x.fdiv 7 < 0 then -x.fdiv 7 else x.fdiv 7) = q9 at *
  have hv9 := getD_mem (l := verL) (d := Str.empty) (i := (((q9.fdiv 512).fmod 1000).fmod 4).toNat) (by assumption)
  generalize verL.getD (((q9.fdiv 512).fmod 1000).fmod 4).toNat Str.empty = ver9 at *
  have hm0 : 0 ≤ (q9.fdiv 512).fmod 1000 := Int.fmod_nonneg_of_pos _ (by decide)
  have hm1 : (q9.fdiv 512).fmod 1000 < 1000 := Int.fmod_lt_of_pos _ (by decide)
  generalize (q9.fdiv 512).fmod 1000 = m9 at *
  have hs9 := getD_mem (l := sysL) (d := Str.empty) (i := (q9.fmod 8).toNat) (by assumption)
  generalize sysL.getD (q9.fmod 8).toNat Str.empty = sys9 at *
  have hl9 := getD_mem (l := leadL) (d := Str.empty) (i := ((q9.fdiv 8).fmod 4).toNat) (by assumption)
  generalize leadL.getD ((q9.fdiv 8).fmod 4).toNat Str.empty = lead9 at *
  have hg9 := getD_mem (l := gapL) (d := Str.empty) (i := ((q9.fdiv 32).fmod 4).toNat) (by assumption)
  generalize gapL.getD ((q9.fdiv 32).fmod 4).toNat Str.empty = gap9 at *
  have hr9 := getD_mem (l := restL) (d := Str.empty) (i := ((q9.fdiv 128).fmod 4).toNat) (by assumption)
  generalize restL.getD ((q9.fdiv 128).fmod 4).toNat Str.empty = rest9 at *
  have ls9 := len_of (n := 20) hs9 (by decide +kernel)
  have ll9 := len_of (n := 20) hl9 (by decide +kernel)
  have lg9 := len_of (n := 20) hg9 (by decide +kernel)
  have lr9 := len_of (n := 20) hr9 (by decide +kernel)
  have lv9 := len_of (n := 20) hv9 (by decide +kernel)
  (rename Fr _ _ _ _ => F9)
  (rename News _ _ _ _ => N9)
  have N8 := nilN F9
  clear N9 hq9
  repeat ((rename (Int.toNat _ < _) => z9); clear z9)
  repeat ((rename (@LT.lt Nat _ _ _ ∧ _) => z9); clear z9)
  dsimp only at F9 ⊢
  k_steps
  all_goals (try dsimp only)
  · exact hret ⟨_, _, _, _, _, some _, _, _, _, _, _, _⟩ _ _ (Fr.keep (by assumption)) ⟨⟨hs9, hv9, hr9, _, _, _, _, hm0, hm1, hl9, hg9, .plain, rfl⟩, row_pack (i := ⟨_, _, _, _, _, some _, _, _, _, _, _, _⟩) (by assumption)⟩
  · exact hret ⟨_, _, _, _, _, some _, _, _, _, _, _, _⟩ _ _ (Fr.keep (by assumption)) ⟨⟨hs9, hv9, hr9, _, _, _, _, hm0, hm1, hl9, hg9, .plain, rfl⟩, row_pack (i := ⟨_, _, _, _, _, some _, _, _, _, _, _, _⟩) (by assumption)⟩
  · exact hret ⟨_, _, _, _, _, some _, _, _, _, _, _, _⟩ _ _ (Fr.keep (by assumption)) ⟨⟨hs9, hv9, hr9, _, _, _, _, hm0, hm1, hl9, hg9, .under, rfl⟩, row_pack (i := ⟨_, _, _, _, _, some _, _, _, _, _, _, _⟩) (by assumption)⟩
  · exact hret ⟨_, _, _, _, _, none, _, _, _, _, s.toks, _⟩ _ _ (Fr.keep (by assumption)) ⟨⟨hs9, hv9, hr9, _, _, _, _, hm0, hm1, hl9, hg9, .b, rfl⟩, row_pack (i := ⟨_, _, _, _, _, none, _, _, _, _, s.toks, _⟩) (by assumption)⟩
  · exact hret ⟨_, _, _, _, _, none, _, _, _, _, s.toks, _⟩ _ _ (Fr.keep (by assumption)) ⟨⟨hs9, hv9, hr9, _, _, _, _, hm0, hm1, hl9, hg9, .v, rfl⟩, row_pack (i := ⟨_, _, _, _, _, none, _, _, _, _, s.toks, _⟩) (by assumption)⟩
  · exact hret ⟨_, _, _, _, _, none, _, _, _, _, s.toks, _⟩ _ _ (Fr.keep (by assumption)) ⟨⟨hs9, hv9, hr9, _, _, _, _, hm0, hm1, hl9, hg9, .plus, rfl⟩, row_pack (i := ⟨_, _, _, _, _, none, _, _, _, _, s.toks, _⟩) (by assumption)⟩
  · exact hret ⟨_, _, _, _, _, none, _, _, _, _, s.toks, _⟩ _ _ (Fr.keep (by assumption)) ⟨⟨hs9, hv9, hr9, _, _, _, _, hm0, hm1, hl9, hg9, .nil, rfl⟩, row_pack (i := ⟨_, _, _, _, _, none, _, _, _, _, s.toks, _⟩) (by assumption)⟩
end Mine
end

section
open PySem PySem.Calls PySem.W PyProof.Rows
set_option maxRecDepth 100000
set_option maxHeartbeats 4000000
namespace Mine
section
variable {prog : Program} {w : World} {A : Around} {E : Value → Shared → Prop} {s : Shared} {h₀ : Heap} {L : Addr} {m : Str → Option Value} {env : Env}

abbrev tupA (its : Array Value) : Obj := { cls := .type "tuple", data := .seq its }
def TupAt (ax : Addr) (its : Array Value) (nw : List (Addr × Obj)) : Prop := (ax, tupA its) ∈ nw

theorem TupAt.isT {ax : Addr} {its : Array Value} {nw : List (Addr × Obj)} {h : Heap} (S : TupAt ax its nw) (N : News h₀ L h nw) : h.IsTuple ax its := ⟨_, (N _ S).1, rfl, 0, rfl⟩

theorem tup_st {ax I : Addr} {its : Array Value} (i : Nat) (h h' : Heap) (o : Obj) (nw : List (Addr × Obj)) (st : h.IsTupleIter I ax i ∧ h.IsTuple ax its) (e : h.get? I = some o) (e' : h'.get? I = some o)
    (_ : ∀ b o, h₀.get? b = some o → h'.get? b = some o) (N : News h₀ L h' nw) (S : TupAt ax its nw) : h'.IsTupleIter I ax i ∧ h'.IsTuple ax its :=
  ⟨st.1.at fun o' q => by rw [e] at q; cases q; exact e', S.isT N⟩

/-- a list comprehension over a tuple of the ledger, its list bound to a name -/
theorem assign_comp_tup {elt iter : PySem.Expr} {x y : Str} {px py : Pos} {scope : Scope} {cl : List (Str × Addr)} {pos spos : Pos} {Q : Flow → Shared → Prop} {ax : Addr} {its : Array Value} {news : List (Addr × Obj)} (_F₀ : Fr h₀ L s.heap m) (_N₀ : News h₀ L s.heap news) (hLe : env.locals = L)
    (hsw : swapsWith (.ListComp elt [⟨.Name x px, iter, [], 0⟩] scope pos) (some (.Name y py)) spos.line env = pure true)
    (hclos : closureFor scope env = pure cl) (hcell : ∀ z ∈ scope.names, z.2 ≠ .cell) (hkind : scope.kind = .function)
    (hnames : ∀ z ∈ scope.names, z.2 = .local → scope.names.lookup z.1 = some .local) (hx : scope.names.lookup x = some .local)
    (hy : env.kindOf y = some .local) (hp : (env.scope.kind == .class || (env.scope.kind == .module && env.locals != env.globals)) = false) (hh : A.handled = none) (hsz : its.size ≤ sizeLine)
    (h : wpAny (model prog w) A (eval iter env) (fun xv s₁ => xv = .ref ax ∧ Fr h₀ L s₁.heap m ∧ News h₀ L s₁.heap news ∧ TupAt ax its news ∧
      ∀ g, LCg.CompRest prog w A h₀ L m env elt x scope cl { s₁ with heap := g } (TupAt ax its) (fun i v => its[i]? = some v) (LCg.FinA h₀ L m { s₁ with heap := g } y Q) its.size 0 [] news) E s)
    (hs : ∀ x, foldedSetIterable iter env x = pure x := by intro _; rfl) :
    wpAny (model prog w) A (exec (.Assign [.Name y py] (.ListComp elt [⟨.Name x px, iter, [], 0⟩] scope pos) spos) env) Q E s := by
  subst hLe
  rw [exec_Assign_Name_used _ _ _ _ hsw]
  refine wpAny_bind (wpAny_standAt (wpAny_bind ?_))
  show wpAny _ A (do let _ ← comprehension (.ListComp elt [⟨.Name x px, iter, [], 0⟩] scope pos) scope env _ (newList []) false (eval iter env) (some (assign (.Name y py) env))) _ _ s
  refine wpAny_bind (wpAny_mono (wpAny_comprehension_free (use := some (assign (.Name y py) env)) (Q := fun _ s' => Q .next s') rfl hs hclos hkind hnames
    (wpAny_mono h (fun xv s₁ h₁ => ?_) fun _ _ e => e)) (fun _ s' hq => wpAny_pure (wpAny_pure hq)) fun _ _ e => e)
  obtain ⟨rfl, F, N, S, R⟩ := h₁
  have hl := S.isT N
  have hlt : ax < s₁.heap.objs.size := Heap.lt_size (N _ S).1
  refine wpAny_pyIter_tuple hl ?_
  have up : ∀ b o, s₁.heap.get? b = some o → (s₁.heap.push { cls := .type "tuple_iterator", data := .fields #[.ref ax, .int 0 0] }).get? b = some o := fun b o e => Heap.get?_push_of_some _ e
  refine LCg.block_U (Walks.tuple hh s₁.heap.objs.size ax (Nat.ne_of_lt hlt) its) hsz (fun i h st => by obtain ⟨o, e, _⟩ := st.1; exact ⟨o, e⟩) tup_st hcell hkind hx ⟨⟨_, Heap.get?_push_size _ rfl, rfl, rfl⟩, hl.at fun o e => up _ o e⟩ (fun b hb => ?_)
    (F.keeps up) (N.grown up) (Nat.ne_of_lt F.ns.lt) (next_is_new F) (fun p hp => Nat.ne_of_lt (Heap.lt_size (N p hp).1)) S (R _) ?_
  · show b < (s₁.heap.push _).objs.size
    rw [Heap.size_push]
    rcases List.mem_cons.mp hb with rfl | hb
    · exact Nat.lt_succ_self _
    · rw [List.mem_singleton.mp hb]; exact Nat.lt_succ_of_lt hlt
  · intro D C h' tk m' ys news' F' N' o1 hn hC₀ hD₀ hCL hDL hCD offC fin
    show wpAny _ A (assign (.Name y py) env (.ref D)) _ _ _
    refine wpAny_assign_Name (wpAny_storeName_local hy F'.ns (fun h₂ hn₂ hs₂ => ?_) hp)
    have hL₀ : h₀.get? env.locals = none := Heap.get?_none_of_le F'.above
    have F₂ : Fr h₀ env.locals h₂ (fun z => if z = y then some (.ref D) else m z) := ⟨hn₂, fun b o e => hs₂.extBut b o (fun q => by rw [q, hL₀] at e; cases e) (F'.keep b o e), F'.above⟩
    refine ⟨m', hn.sameBut hs₂ hCL, fun h'' hs'' => fin D h'' _ (F₂.change hs'' hCL hC₀) (fun p hp => ?_) o1⟩
    have z : h₂.get? p.1 = some p.2 := hs₂.extBut _ _ (N' p hp).2.1 (N' p hp).1
    refine ⟨hs''.extBut _ _ ?_ z, (N' p hp).2⟩
    rcases List.mem_cons.mp hp with rfl | hp
    · exact Ne.symm hCD
    · exact offC p hp
end
end Mine
end

section
open PySem PySem.Calls PySem.W PyProof.Rows
set_option maxRecDepth 100000
set_option maxHeartbeats 8000000
namespace Mine
theorem fillit9 (w : World) (h : Heap) (X : (hd.heap_39 w.params).In h) : PySem.Challenge.rw_mg0046_01 = PySem.Challenge.rw_mg0046_01 ∧ (hd.heap_39 w.params).In h := by
  k_fill; exact ⟨rfl, X⟩
local macro_rules | `(tactic| k_room) => `(tactic| exact Nat.le_of_ble_eq_true rfl)

def StopMark9 (P : Prop) : Prop := P
theorem stop_here9 {P : Prop} (h : StopMark9 P) : P := h
local macro_rules | `(tactic| walk_at "call ref") => `(tactic| (k_here; (with_reducible first | show wpAny _ _ (call (Value.ref 129) _) _ _ _ | show wpAny _ _ (call (Value.ref 122) _) _ _ _); refine stop_here9 ?_))
local macro_rules | `(tactic| walk_at "call ref") => `(tactic| (k_here; (with_reducible show wpAny _ _ (call (Value.ref 122) _) _ _ _); k_dflt ((refine' Mine.use (Mine.bare_does _ _ _ _ _ _ ?k1) ?k2 ?k3 ?k4 ?k5 ?k6 ?k7 ?k8 ?k9 ?c1 ?c2 ?c3 ?c4 ?c5 ?_); (case k2 => k_asm); (case k3 => k_asm); (case k4 => k_asm); (case k5 => k_asm); (case k6 => k_asm); (case k1 => exact Nat.lt_of_lt_of_le (m := 500) (by assumption) (by decide)); (case k7 => exact rfl); (case k8 => exact rfl); (case k9 => exact rfl); (case c1 => exact rfl); (case c2 => exact rfl); (case c3 => exact Nat.le_of_ble_eq_true rfl); (case c4 => exact Nat.le_of_ble_eq_true rfl); (case c5 => exact True.intro)); intro _ h' tk' F' N' _ _; (try k_sweep)))
local macro_rules | `(tactic| k_ne) => `(tactic| ((try dsimp only); (with_reducible rename ((_ ∧ _ ∧ _) ∧ _) => off9); first | with_reducible exact off9.1.1 | with_reducible exact off9.1.2.1 | with_reducible exact off9.1.2.2 | with_reducible exact off9.2.1.1 | with_reducible exact off9.2.1.2.1 | with_reducible exact off9.2.1.2.2 | with_reducible exact off9.2.2.1.1 | with_reducible exact off9.2.2.1.2.1 | with_reducible exact off9.2.2.1.2.2 | with_reducible exact off9.2.2.2.1.1 | with_reducible exact off9.2.2.2.1.2.1 | with_reducible exact off9.2.2.2.1.2.2 | with_reducible exact off9.2.2.2.2.1.1 | with_reducible exact off9.2.2.2.2.1.2.1 | with_reducible exact off9.2.2.2.2.1.2.2 | with_reducible exact off9.2.2.2.2.2.1.1 | with_reducible exact off9.2.2.2.2.2.1.2.1 | with_reducible exact off9.2.2.2.2.2.1.2.2 | with_reducible exact off9.2.1 | with_reducible exact off9.2.2.1 | with_reducible exact off9.2.2.2 | with_reducible exact off9.2.2.1 | with_reducible exact off9.2.2.2.1 | with_reducible exact off9.2.2.2.2 | with_reducible exact off9.2.2.2.1 | with_reducible exact off9.2.2.2.2.1 | with_reducible exact off9.2.2.2.2.2 | with_reducible exact off9.2.2.2.2.1 | with_reducible exact off9.2.2.2.2.2.1 | with_reducible exact off9.2.2.2.2.2.2 | with_reducible exact off9.2.2.2.2.2.1 | with_reducible exact off9.2.2.2.2.2.2.1 | with_reducible exact off9.2.2.2.2.2.2.2))
local macro_rules | `(tactic| kun_lst) => `(tactic| exact Fr.lst (by assumption) (by assumption))
local macro_rules | `(tactic| lcg_src) => `(tactic| ((show (_, _) ∈ _); k_mem))

abbrev tup3 (a b c : Str) (ta tb tc : Tok) : Obj := { cls := .type "tuple", data := .seq #[.str a ta, .str b tb, .str c tc] }
def undF (a : Str) : Str := Txt.join (Str.ofString "_") (Txt.split a (Str.ofString " "))
def nameS (a b c : Str) : Str := Txt.join (Str.ofString "-") (([a, b, c].filter fun x => x != Str.ofString "").map undF)
def nameF (a b c : Str) : Str := nameS (stripF a) (stripF b) (stripF c)

theorem strip_len (a : Str) : (stripF a).length ≤ a.length := by
  have h : ∀ (l : List Nat), (l.dropWhile isB).length ≤ l.length := fun l => (List.dropWhile_sublist _).length_le
  rw [← toList_length, stripF_list, ← toList_length]
  unfold stripL
  rw [List.length_reverse]
  refine Nat.le_trans (h _) ?_
  rw [List.length_reverse]
  exact h _

section
variable {a b c : Str}
theorem name_tff (h1 : (a != Str.ofString "") = true) (h2 : (b != Str.ofString "") = false) (h3 : (c != Str.ofString "") = false) : nameS a b c = Txt.join (Str.ofString "-") [undF a] := by
  unfold nameS; simp only [List.filter, h1, h2, h3, List.map_cons, List.map_nil]
theorem name_tft (h1 : (a != Str.ofString "") = true) (h2 : (b != Str.ofString "") = false) (h3 : (c != Str.ofString "") = true) : nameS a b c = Txt.join (Str.ofString "-") [undF a, undF c] := by
  unfold nameS; simp only [List.filter, h1, h2, h3, List.map_cons, List.map_nil]
theorem name_ttf (h1 : (a != Str.ofString "") = true) (h2 : (b != Str.ofString "") = true) (h3 : (c != Str.ofString "") = false) : nameS a b c = Txt.join (Str.ofString "-") [undF a, undF b] := by
  unfold nameS; simp only [List.filter, h1, h2, h3, List.map_cons, List.map_nil]
theorem name_ttt (h1 : (a != Str.ofString "") = true) (h2 : (b != Str.ofString "") = true) (h3 : (c != Str.ofString "") = true) : nameS a b c = Txt.join (Str.ofString "-") [undF a, undF b, undF c] := by
  unfold nameS; simp only [List.filter, h1, h2, h3, List.map_cons, List.map_nil]
end
/-- the state behind _law_holds' third statement -/
def Named (g : Heap) (L : Addr) (m : Str → Option Value) (news : List (Addr × Obj)) (nm : Str) (s : Shared) (f : Flow) (s' : Shared) : Prop :=
  f = .next ∧ ∃ h' tk t, s' = { s with heap := h', toks := tk } ∧ Fr g L h' (fun z => if z = Str.ofString "name" then some (.str nm t) else m z) ∧ News g L h' news

theorem News.swap4 {h₀ h : Heap} {L : Addr} {p q r t : Addr × Obj} (N : News h₀ L h [p, q, r, t]) : News h₀ L h [t, r] :=
  List.forall_mem_cons.mpr ⟨N _ (.tail _ (.tail _ (.tail _ (.head _)))), List.forall_mem_cons.mpr ⟨N _ (.tail _ (.tail _ (.head _))), List.forall_mem_nil _⟩⟩
theorem named_end {s : Shared} {g h' : Heap} {L : Addr} {m : Str → Option Value} {news : List (Addr × Obj)} {nm nm' : Str} {t : Tok} {tk : Nat} (F : Fr g L h' (fun z => if z = Str.ofString "name" then some (.str nm' t) else m z)) (N : News g L h' news) (e : nm = nm') : Named g L m news nm s .next { s with heap := h', toks := tk } := by
  subst e; exact ⟨rfl, h', tk, t, rfl, F, N⟩
theorem shaped3 {a b c : Str} (h1 : PyData.strOk a = true) (h2 : PyData.strOk b = true) (h3 : PyData.strOk c = true) : SeqAt.shaped (.tuple [.str a, .str b, .str c]) = true := by
  simp [SeqAt.shaped, PyData.canLay0, PyData.canLayAll0, PyData.depth, PyData.depthAll, h1, h2, h3]
theorem eqv3 {a b c : Str} : PyData.eqv (.tuple [.str a, .str b, .str c]) (.tuple [.str a, .str b, .str c]) = true := by
  simp [PyData.eqv, PyData.eqvAll]
theorem named_mono {M : Model} {A : Around} {t : Sem Flow} {Q : Flow → Shared → Prop} {E : Value → Shared → Prop} {s : Shared} {g : Heap} {L : Addr} {m : Str → Option Value} (_ : Fr g L s.heap m) (news : List (Addr × Obj)) (nm : Str)
    (h : wpAny M A t (Named g L m news nm s) E s) (k : ∀ h' tk t, Fr g L h' (fun z => if z = Str.ofString "name" then some (.str nm t) else m z) → News g L h' news → Q .next { s with heap := h', toks := tk }) : wpAny M A t Q E s :=
  wpAny_mono h (fun f s' ⟨e, h', tk, t, e', F, N⟩ => by subst e; subst e'; exact k h' tk t F N) fun _ _ x => x

theorem News.addW {h₀ h h' : Heap} {L D : Addr} {o : Obj} {m : Str → Option Value} {news : List (Addr × Obj)} (N : News h₀ L h' news) (F : Fr h₀ L h m) (hD : h'.get? D = some o) (hn : h.get? D = none) : News h₀ L h' ((D, o) :: news) :=
  List.forall_mem_cons.mpr ⟨⟨hD, fun e => (by obtain ⟨oL, _, _, hL, _⟩ := F.ns; rw [show D = L from e, hL] at hn; cases hn), kts_none F.keep hn⟩, N⟩

theorem cnt_le (c : Nat) : ∀ l : List Nat, cnt c l ≤ l.length
  | [] => by rw [cnt_nil]; exact Int.le_refl _
  | d :: l => by
    have := cnt_le c l
    rw [cnt_cons, List.length_cons]
    split <;> omega
theorem News.tail1 {h₀ h : Heap} {L : Addr} {p : Addr × Obj} {news : List (Addr × Obj)} (N : News h₀ L h (p :: news)) : News h₀ L h news := fun q hq => N q (.tail _ hq)
theorem sum_all : ∀ (l : List Str) (n : Nat), (∀ y ∈ l, y.length ≤ n) → (l.map (·.length)).sum ≤ n * l.length
  | [], n, _ => by simp
  | y :: l, n, h => by
    have h1 := sum_all l n fun z hz => h z (.tail _ hz)
    have h2 := h y (.head _)
    simp only [List.map_cons, List.sum_cons, List.length_cons]
    rw [Nat.mul_succ]
    omega
theorem split_n (x : Str) : (Txt.split x (Str.ofString " ")).length ≤ x.length + 1 := by
  have h := split_len x 32
  have e : (⟨#[32]⟩ : Str) = Str.ofString " " := by decide +kernel
  rw [e] at h
  have h2 := cnt_le 32 x.cps.toList
  rw [toList_length] at h2
  omega
theorem und_len (x : Str) (h : ∀ y ∈ Txt.split x (Str.ofString " "), y.length ≤ x.length) (hx : x.length < 500) : ((Txt.split x (Str.ofString " ")).map (·.length)).sum + (Txt.split x (Str.ofString " ")).length ≤ 250000 ∧ (undF x).length ≤ 250000 := by
  have h1 := sum_all _ _ h
  have h2 := split_n x
  have h3 := Nat.mul_le_mul (show x.length ≤ 499 by omega) (show (Txt.split x (Str.ofString " ")).length ≤ 500 by omega)
  have h4 := StrLaws.join_length_le (Str.ofString "_") (Txt.split x (Str.ofString " "))
  have h5 : (Str.ofString "_").length = 1 := by decide +kernel
  rw [h5, Nat.mul_one] at h4
  have h6 : undF x = Str.join (Str.ofString "_") (Txt.split x (Str.ofString " ")) := StrLaws.glued_eq_join _ _
  rw [h6]
  omega
theorem und_join {prog : Program} {w : World} {A : Around} {E : Value → Shared → Prop} {s : Shared} {Q : Value → Shared → Prop} {D : Addr} {l : List (Str × Tok)} {x : Str} {t : Tok} (hl : s.heap.IsList D (strValues l).toArray) (hi : StrsAre (strValues l) (l.map fun x => x.1)) (he : (l.map fun x => x.1) = Txt.split x (Str.ofString " "))
    (ha : ∀ y ∈ l.map (fun x => x.1), y.length ≤ x.length) (hx : x.length < 500) (h : ∀ t' k, (undF x).length ≤ 250000 → Q (.str (undF x) t') { s with toks := k }) : wpAny (model prog w) A (call (.builtin "str.join") [.str (Str.ofString "_") t, .ref D]) Q E s := by
  rw [he] at ha hi
  obtain ⟨h1, h2⟩ := und_len x ha hx
  exact join_listW hl hi (by decide +kernel) (by omega) fun t' k => h t' k h2
local macro_rules | `(tactic| walk_at "call builtin:str.join") => `(tactic| (k_here; (k_dflt (first
  | refine join_listW (x := Str.ofString "-") (ys := []) (News.isList (by k_asm) (by k_mem)) StrsAre.nil (by decide +kernel) (by decide) ?_
  | refine join_listW (x := Str.ofString "-") (ys := [_]) (News.isList (by k_asm) (by k_mem)) (StrsAre.cons _ _ StrsAre.nil) (by decide +kernel) (by (simp only [List.map_cons, List.map_nil, List.sum_cons, List.sum_nil, List.length_cons, List.length_nil]); omega) ?_
  | refine join_listW (x := Str.ofString "-") (ys := [_, _]) (News.isList (by k_asm) (by k_mem)) (StrsAre.cons _ _ (StrsAre.cons _ _ StrsAre.nil)) (by decide +kernel) (by (simp only [List.map_cons, List.map_nil, List.sum_cons, List.sum_nil, List.length_cons, List.length_nil]); omega) ?_
  | refine join_listW (x := Str.ofString "-") (ys := [_, _, _]) (News.isList (by k_asm) (by k_mem)) (StrsAre.cons _ _ (StrsAre.cons _ _ (StrsAre.cons _ _ StrsAre.nil))) (by decide +kernel) (by (simp only [List.map_cons, List.map_nil, List.sum_cons, List.sum_nil, List.length_cons, List.length_nil]); omega) ?_)); intro _ _))
local macro_rules | `(tactic| walk_at "call builtin:str.join") => `(tactic| (k_here; (k_dflt (refine und_join (by is_list) (by assumption) (by assumption) (by assumption) (by omega) ?_)); intro _ _ _; (rename News _ _ _ _ => N8'); (have N9' := News.tail1 N8'); clear N8'))

theorem holds_does (w : World) (mean : ExcName → Option Value) (mg mb : Str → Option Value) (l : Addr) (x y z r : Str) (tx ty tz tr : Tok) (val : Option Int) (tv : Tok) (a b c res : Str) (hx : x.length < 500) (hy : y.length < 500) (hz : z.length < 500) (hr : r.length < 100) (ha : a.length < 500) (hb : b.length < 500) (hc : c.length < 500)
    (CT : Does w mean mg mb 600 5000 129 [.ref l, optV val tv, .str r tr] (fun h => h.IsList l #[.str x tx, .str y ty, .str z tz]) (ι := Addr × Tok × Tok × Tok) (fun i => .ref i.1) (fun h h' i => h'.get? i.1 = some (tup3 a b c i.2.1 i.2.2.1 i.2.2.2) ∧ h.get? i.1 = none))
    (CA : ∀ tx ty tz, DoesG w mean mg mb 600 5000 28 [.str x tx, .str y ty, .str z tz] (fun _ => True) (ι := Addr × Tok × Tok × Tok) (fun i => .ref i.1) (fun i => [(i.1, tup3 a b c i.2.1 i.2.2.1 i.2.2.2)]) (fun _ => True))
    (CP : ∀ ta tb tc, DoesG w mean mg mb 600 5000 35 [.str a ta, .str b tb, .str c tc] (fun _ => True) (ι := Tok) (fun t => .str res t) (fun _ => []) (fun _ => True))
    (hres : res = nameF a b c) (hna : (stripF a != Str.ofString "") = true) (oka : PyData.strOk a = true) (okb : PyData.strOk b = true) (okc : PyData.strOk c = true) :
    DoesG w mean mg mb 590 4900 134 [.ref l, optV val tv, .str r tr] (fun g => g.IsList l #[.str x tx, .str y ty, .str z tz]) (ι := Unit) (fun _ => .bool true) (fun _ => []) (fun _ => True) := by
  intro base outer s g ps R B XB TB hk hsz h30 hps hT hG hlst hret
  w_on
  refine' Mine.enterG (binds := [(Str.ofString "fields", .ref l), (Str.ofString "value", optV val tv), (Str.ofString "rest", .str r tr)]) B XB TB hk hsz h30 hps ?k6 ?k7 ?k8 ?k9 ?kB ?_ ?c2 ?c3 ?c4 ?c5
  (case k6 => k_is)
  (case k7 => k_is)
  (case k8 => exact Nat.le_of_ble_eq_true rfl)
  (case k9 => exact BindsTo.of_eq rfl)
  (case kB => exact locs rfl)
  (case c2 => exact rfl)
  (case c3 => exact rfl)
  (case c4 => exact rfl)
  (case c5 => decide)
  intro L' h' F' N' X T
  (try dsimp only)
  refine wpCal_execs_cons (wpCal.of ?_)
  k_fold
  k_steps
  unfold StopMark9
  (rename Fr g L' _ _ => F8)
  refine use CT B F8 X (by assumption) T rfl rfl rfl rfl rfl (Nat.le_of_ble_eq_true rfl) (Nat.le_of_ble_eq_true rfl) (Fr.lst F8 hlst) ?_
  intro i9 h9 tk9 F9 N9 k9 hP9
  obtain ⟨D9, ta9, tb9, tc9⟩ := i9
  dsimp only at hP9 ⊢
  have N7 := News.addW N9 F8 hP9.1 hP9.2
  clear F8 N9 hP9 k9
  k_steps
  (try k_unfold)
  (try dsimp only)
  refine wpCal_execs_cons (wpCal.of ?_)
  k_fold
  (rename Fr g L' _ _ => F6)
  (rename News g L' _ _ => N6)
  refine assign_comp_tup (ax := D9) (its := #[.str a ta9, .str b tb9, .str c tc9]) F6 N6 rfl (by with_unfolding_all rfl) rfl (by decide) rfl (by decide) rfl rfl rfl rfl (Nat.le_of_ble_eq_true rfl) ?_
  refine wpAny_Name (wpAny_loadName_local rfl rfl F6.ns rfl ?_) (by decide)
  refine ⟨rfl, F6, N6, .head _, fun g9 => ?_⟩
  clear F6 N6
  lcg_lit
  k_steps
  (try k_unfold)
  (try dsimp only)
  (try k_sweep)
  (rename Fr g L' _ _ => F5)
  (rename News g L' _ _ => N5)
  have la9 := strip_len a
  have lb9 := strip_len b
  have lc9 := strip_len c
  unfold nameF at hres
  generalize stripF a = sa at *
  generalize stripF b = sb at *
  generalize stripF c = sc at *
  refine wpCal_execs_cons (wpCal.of ?_)
  refine named_mono F5 [(30, tobj ps), (D9, tup3 a b c ta9 tb9 tc9)] (nameS sa sb sc) ?_ ?_
  · k_fold
    k_steps
    all_goals (refine named_end (by assumption) (News.swap4 (by assumption)) ?_)
    all_goals (first
      | exact name_ttt (a := sa) (b := sb) (c := sc) (by assumption) (by assumption) (by assumption)
      | exact name_ttf (a := sa) (b := sb) (c := sc) (by assumption) (by assumption) (by assumption)
      | exact name_tft (a := sa) (b := sb) (c := sc) (by assumption) (by assumption) (by assumption)
      | exact name_tff (a := sa) (b := sb) (c := sc) (by assumption) (by assumption) (by assumption))
  clear F5 N5
  intro h4 tk4 t4 F4 N4
  (try dsimp only)
  generalize nameS sa sb sc = nm at *
  subst hres
  refine wpCal_execs_cons (wpCal.of ?_)
  k_fold
  k_steps
  (try k_unfold)
  (try dsimp only)
  (rename Fr g L' _ _ => F3)
  (rename News g L' _ _ => N3)
  refine wpCal_execs_cons (wpCal_Assign_Name (wpCal_Call_Name ?_))
  k_steps
  refine cal_callWith_K (K := hd.heap_39 w.params) (by k_is) ?_
  k_steps
  refine useG (A := (AR 590 4900 outer).deeper _) (CA _ _ _) B F3 XB TB N3 hT hG (List.forall_mem_cons.mpr ⟨(by intro q; cases q), List.forall_mem_nil _⟩) rfl rfl rfl rfl (Nat.le_of_ble_eq_true rfl) (Nat.le_of_ble_eq_true rfl) (fun _ _ _ => True.intro) ?_
  intro i2 h2 tk2 gens2 ps2 g2 TT2 B2 F2 N2 X2 T2 hT2 hG2 _
  obtain ⟨D2, ta2, tb2, tc2⟩ := i2
  clear F3 N3 X T B hlst
  (try dsimp only at F2 N2 ⊢)
  simp only [List.cons_append, List.nil_append] at N2
  k_steps
  (try dsimp only)
  have haa : (a == a) = true := beq_self_eq_true _
  have hbb : (b == b) = true := beq_self_eq_true _
  have hcc : (c == c) = true := beq_self_eq_true _
  have hrr : (res == res) = true := beq_self_eq_true _
  refine wpCal_execs_cons (wpCal_Return (wpCal_and2 ?_))
  k_steps
  (rename News g2 L' _ _ => N1)
  have hsh := shaped3 oka okb okc
  refine eq_dataH (reads_tuple_at (News.get N1 (.tail _ (.head _))) rfl rfl (ReadsAll.cons (Reads.str _ _) (ReadsAll.cons (Reads.str _ _) (ReadsAll.cons (Reads.str _ _) ReadsAll.nil)))) (reads_tuple_at (News.get N1 (.tail _ (.tail _ (.head _)))) rfl rfl (ReadsAll.cons (Reads.str _ _) (ReadsAll.cons (Reads.str _ _) (ReadsAll.cons (Reads.str _ _) ReadsAll.nil)))) hsh hsh (by ke_room) ?_
  rw [eqv3]
  k_steps
  refine wpCal_Compare1 (wpCal_Call_Name ?_)
  k_steps
  refine cal_callWith_K (K := hd.heap_39 w.params) (by k_is) ?_
  k_steps
  (rename Fr g2 L' _ _ => F1)
  refine useG (A := (AR 590 4900 outer).deeper _) (CP _ _ _) B2 F1 XB TB N1 hT2 hG2 (List.forall_mem_cons.mpr ⟨(by intro q; cases q), List.forall_mem_cons.mpr ⟨(by intro q; cases q), List.forall_mem_nil _⟩⟩) rfl rfl rfl rfl (Nat.le_of_ble_eq_true rfl) (Nat.le_of_ble_eq_true rfl) (fun _ _ _ => True.intro) ?_
  intro i0 h0 tk0 gens0 ps0 g0 TT0 B0 F0 N0 X0 T0 hT0 hG0 _
  clear F1 N1 X2 T2 B2
  (try dsimp only at F0 N0 ⊢)
  simp only [List.nil_append] at N0
  k_steps
  (try dsimp only)
  rw [hrr]
  exact hret () g0 _ _ _ _ (TT2.trans TT0) (Fr.keep (by assumption)) (News.get (o := tobj ps0) (by assumption) (.head _)) hT0 hG0 (List.forall_mem_nil _) True.intro
end Mine
end

section
open PySem PySem.Calls PySem.W PySem.Spec PyProof.Rows
set_option maxRecDepth 100000
set_option maxHeartbeats 4000000
namespace Mine

theorem slot_filter_next : Slot "filter" "__next__" "filter.__next__" :=
  .of (owner := "filter") (n := "__next__") (by rw [typeLookup_type, builtinLookup_eq_fast]; kernel_rfl) (by decide +kernel) (by decide +kernel) (by decide +kernel)
    (by first | exact .inl (by decide +kernel) | exact .inr (by decide +kernel)) (by rw [isSubtype_type]; kernel_rfl)
theorem slot_filter_iter : Slot "filter" "__iter__" "filter.__iter__" :=
  .of (owner := "filter") (n := "__iter__") (by rw [typeLookup_type, builtinLookup_eq_fast]; kernel_rfl) (by decide +kernel) (by decide +kernel) (by decide +kernel)
    (by first | exact .inl (by decide +kernel) | exact .inr (by decide +kernel)) (by rw [isSubtype_type]; kernel_rfl)
theorem slot_filter_init : Slot "filter" "__init__" "object.__init__" :=
  .of (owner := "object") (n := "__init__") (by rw [typeLookup_type, builtinLookup_eq_fast]; kernel_rfl) (by decide +kernel) (by decide +kernel) (by decide +kernel)
    (by first | exact .inl (by decide +kernel) | exact .inr (by decide +kernel)) (by rw [isSubtype_type]; kernel_rfl)
theorem owner_filter : Manifest.owners.lookup (String.ofList ['r', 'e', 't', 'l', 'i', 'f'].reverse) = some Manifest.sig_filter := by kernel_rfl
theorem args_filter_next_1 (a : Value) : argsOk "filter.__next__" ⟨[a], []⟩ := by
  unfold argsOk; rw [signature?_of (id := "filter.__next__") (n := ['_', '_', 't', 'x', 'e', 'n', '_', '_']) (o := ['r', 'e', 't', 'l', 'i', 'f']) (by kernel_rfl) owner_filter]; kernel_rfl
theorem args_filter_iter_1 (a : Value) : argsOk "filter.__iter__" ⟨[a], []⟩ := by
  unfold argsOk; rw [signature?_of (id := "filter.__iter__") (n := ['_', '_', 'r', 'e', 't', 'i', '_', '_']) (o := ['r', 'e', 't', 'l', 'i', 'f']) (by kernel_rfl) owner_filter]; kernel_rfl
theorem entry_filter_next : entryFor table "filter.__next__" = some Builtin.«filter.__next__» := entryFor_of_tree (by kernel_rfl)
theorem entry_filter_iter : entryFor table "filter.__iter__" = some Builtin.«dict_keyiterator.__iter__» :=
  entryFor_alias (id' := "dict_keyiterator.__iter__") (by kernel_rfl) (by first | rfl | decide +kernel | (unfold String.splitOn; simp +decide [String.splitOnAux])) (by decide +kernel) (by kernel_rfl)
theorem mro_filter : mroOf (.type "filter") = pure [.type "filter", .type "object"] := by rw [mroOf_type]; kernel_rfl
theorem lookup_filter_new : typeLookup (.type "filter") "__new__" = pure (some (.builtin "filter.__new__")) := by rw [typeLookup_type, builtinLookup_eq_fast]; kernel_rfl
theorem called_filter : TypeCalled "filter" "filter.__new__" "object.__init__" :=
  ⟨by decide +kernel, by decide +kernel, ⟨_, _, mro_filter⟩, madeBy_type mro_filter lookup_filter_new (by decide +kernel), by decide +kernel, by rw [isSubtype_type]; kernel_rfl, slot_filter_init⟩
theorem typeCall_filter_2 (a b : Value) : checkTypeCall "filter" ⟨[a, b], []⟩ = pure () := by kernel_rfl
theorem newCall_filter_2 (a b : Value) : checkBuiltinCall "filter.__new__" ⟨[.type "filter", a, b], []⟩ = pure () := by kernel_rfl
theorem entry_filter_new : entryFor table "filter.__new__" = some Builtin.«filter.__new__» := entryFor_of_tree (by kernel_rfl)
theorem sub_filter : isSubtype (.type "filter") (.type "filter") = pure true := by rw [isSubtype_type]; kernel_rfl

abbrev filtO (J : Addr) : Obj := { cls := .type "filter", data := .fields #[.builtin "len", .ref J] }
abbrev titer (ax : Addr) : Obj := { cls := .type "tuple_iterator", data := .fields #[.ref ax, .int 0 0] }

theorem meets_filter_new (ax : Addr) (xs : Array Value) :
    Meets (Builtin.«filter.__new__» ⟨[.type "filter", .builtin "len", .ref ax], []⟩) (fun _ R s => s.heap.IsTuple ax xs ∧
      R (.ok (.ret (.ref (s.heap.push (titer ax)).objs.size))) { s with heap := (s.heap.push (titer ax)).push (filtO s.heap.objs.size) }) :=
  .of_wp fun prog w A R s h => by
    obtain ⟨hp, g, d, tk, os⟩ := s; obtain ⟨hl1, h⟩ := h
    have hsub := sub_filter
    have hL1 : Heap.IsTuple (Shared.heap ⟨hp, g, d, tk, os⟩) ax xs := hl1
    wp_walk using wpAny_pyIter_tuple hL1
    exact ⟨_, rfl, h⟩

section
variable {prog : Program} {w : World} {A : Around} {E : Value → Shared → Prop} {s : Shared}

theorem call_filter {ax : Addr} {xs : Array Value} {Q : Value → Shared → Prop} (hl1 : s.heap.IsTuple ax xs)
    (h : ∀ h', h'.get? (s.heap.objs.size + 1) = some (filtO s.heap.objs.size) → h'.IsTupleIter s.heap.objs.size ax 0 → h'.objs.size = s.heap.objs.size + 2 →
      (∀ c o, s.heap.get? c = some o → h'.get? c = some o) → Q (.ref (s.heap.objs.size + 1)) { s with heap := h' }) :
    wpAny (model prog w) A (call (.type "filter") [.builtin "len", .ref ax]) Q E s := by
  refine callType_new called_filter (by decide) (typeCall_filter_2 _ _) (newCall_filter_2 _ _) (fun obj => F.args_object_init_3 obj _ _) entry_filter_new
    (meets_filter_new ax xs) ⟨hl1, ?_⟩
  have z1 : (s.heap.push (titer ax)).objs.size = s.heap.objs.size + 1 := Heap.size_push ..
  have z2 : ((s.heap.push (titer ax)).push (filtO s.heap.objs.size)).objs.size = s.heap.objs.size + 2 := by rw [Heap.size_push, z1]
  have g2 : ((s.heap.push (titer ax)).push (filtO s.heap.objs.size)).get? (s.heap.push (titer ax)).objs.size = some _ := Heap.get?_push_size _ rfl
  have g1 : ((s.heap.push (titer ax)).push (filtO s.heap.objs.size)).get? s.heap.objs.size = some _ := Heap.get?_push_of_some _ (Heap.get?_push_size _ rfl)
  show _ ∧ _
  rw [z1] at g2 ⊢
  exact ⟨⟨_, g2, rfl⟩, h _ g2 ⟨_, g1, rfl, rfl⟩ z2 fun c o x => Heap.get?_push_of_some _ (Heap.get?_push_of_some _ x)⟩

theorem cs_item {it t : Addr} {i : Nat} {items} {x : Value} {Q : Option Value → Shared → Prop} (hit : s.heap.IsTupleIter it t i)
    (ht : s.heap.IsTuple t items) (hx : items[i]? = some x)
    (hQ : ∀ h', h'.IsTupleIter it t (i + 1) → Heap.SameBut it s.heap h' → Q (some x) { s with heap := h' }) :
    wpAny (model prog w) A (callSpecial? (.ref it) (Str.ofString "__next__")) Q E s := by
  obtain ⟨o, ho, hc, hd⟩ := id hit
  obtain ⟨ol, hol, _, nl, hdl⟩ := ht
  refine (wpAny_callSpecial?_slot (name := Str.ofString "__next__") hit.typeIs F.slot_tuple_iterator_next
    (wpAny_call_entry F.slot_tuple_iterator_next hit.typeIs F.entry_tuple_iterator_next ?_ (F.args_tuple_iterator_next_1 _)))
  show wpAny _ _ (field (.ref it) 0 >>= _) _ _ s
  refine wpAny_bind (wpAny_field ho hd (x := .ref t) rfl ?_)
  show wpAny _ _ (if (Value.ref t == Value.none) = true then _ else _) _ _ s
  rw [if_neg (show ¬ ((Value.ref t == Value.none) = true) from Bool.false_ne_true)]
  show wpAny _ _ (field (.ref it) 1 >>= _) _ _ s
  refine wpAny_bind (wpAny_field ho hd (x := .int i 0) rfl ?_)
  show wpAny _ _ (seqItems? (.ref t) >>= _) _ _ s
  refine wpAny_bind (wpAny_seqItems hol hdl ?_)
  simp only [Int.toNat_natCast, hx]
  refine wpAny_bind (wpAny_setField ho hd (by simp) (wpAny_pure ⟨x, rfl, hQ _ ?_ (Heap.SameBut.update ..)⟩))
  exact ⟨_, Heap.get?_update_self _ ho (Obj.isFreed_of_fields (Obj.data_mapFields hd _)), (Obj.cls_mapFields ..).trans hc, by
    rw [Obj.data_mapFields hd]; simp [rawInt]⟩

theorem cs_end {it t : Addr} {i : Nat} {items} {Q : Option Value → Shared → Prop} (hh : A.handled = none)
    (hit : s.heap.IsTupleIter it t i) (ht : s.heap.IsTuple t items) (hx : items[i]? = none)
    (hE : ∀ h' e, Heap.ExtBut it s.heap h' → (∃ o, h'.get? e = some o ∧ o.cls = .type "StopIteration") → E (.ref e) { s with heap := h' }) :
    wpAny (model prog w) A (callSpecial? (.ref it) (Str.ofString "__next__")) Q E s := by
  obtain ⟨o, ho, hc, hd⟩ := id hit
  obtain ⟨ol, hol, _, nl, hdl⟩ := ht
  refine (wpAny_callSpecial?_slot (name := Str.ofString "__next__") hit.typeIs F.slot_tuple_iterator_next
    (wpAny_call_entry F.slot_tuple_iterator_next hit.typeIs F.entry_tuple_iterator_next ?_ (F.args_tuple_iterator_next_1 _)))
  show wpAny _ _ (field (.ref it) 0 >>= _) _ _ s
  refine wpAny_bind (wpAny_field ho hd (x := .ref t) rfl ?_)
  show wpAny _ _ (if (Value.ref t == Value.none) = true then _ else _) _ _ s
  rw [if_neg (show ¬ ((Value.ref t == Value.none) = true) from Bool.false_ne_true)]
  show wpAny _ _ (field (.ref it) 1 >>= _) _ _ s
  refine wpAny_bind (wpAny_field ho hd (x := .int i 0) rfl ?_)
  show wpAny _ _ (seqItems? (.ref t) >>= _) _ _ s
  refine wpAny_bind (wpAny_seqItems hol hdl ?_)
  simp only [Int.toNat_natCast, hx]
  refine wpAny_bind (wpAny_rule (wpAny_bind (wpAny_setField ho hd (by simp) ?_)))
  show wpAny _ _ (newExc (.type "StopIteration") [] >>= _) _ _ _
  refine wpAny_bind ?_
  simp only [newExc, newTuple]
  refine wpAny_bind (wpAny_newObj_type ?_ (by size_fits))
  refine wpAny_bind (m := firstArgMember _ _) (wpAny_of_eq (a := Value.none) (by first | rfl | (simp only [firstArgMember]; rfl)) ?_)
  refine wpAny_newObj_type ?_ (by size_fits)
  simp only [raiseNew]
  refine wpAny_bind (wpAny_handled ?_)
  first | rw [show A.in1.handled = none from hh] | rw [hh]
  refine wpAny_bind (wpAny_pure (wpAny_throw ?_))
  exact hE _ _ (((Heap.SameBut.update ..).extBut.push _).push _) ⟨_, Heap.get?_push_size _ rfl, rfl⟩
end
end Mine
end

section
open PySem PySem.Calls PySem.W PySem.Spec PyProof.Rows
set_option maxRecDepth 100000
set_option maxHeartbeats 4000000
namespace Mine

theorem codeAny_builtin {prog : Program} {w : World} {A : Around} {s : Shared} {R : Result → Shared → Prop} {id : String} {args : Args} {b : Builtin} (hb : entryFor table id = some b)
    (h : wpAny (model prog w) (A.under (.builtin id args)) (b args)
      (fun fin s' => match fin with | .done f => R (.ok f) s' | .again c' => c'.quiet = true ∧ codeAny (model prog w) A c' R s') (fun e s' => R (.error e) s') s) :
    codeAny (model prog w) A (.builtin id args) R s := by
  refine codeAny_of_tree ?_
  show wpAny _ _ (match entryFor table id with | some b => b args | none => unsupported ((withoutEnding? id "#data").getD id)) _ _ s
  rw [hb]; exact h

/-- the texts that are not empty -/
def full (l : List (Str × Tok)) : List (Str × Tok) := l.filter fun p => p.1.length != 0

structure FiltAt (I J ax : Addr) (l : List (Str × Tok)) (k : Nat) (h : Heap) : Prop where
  filt : h.get? I = some (filtO J)
  iter : h.IsTupleIter J ax k
  tup : h.IsTuple ax (strValues l).toArray

section
variable {prog : Program} {w : World} {A : Around} {s : Shared}

theorem filt_tree {I J ax : Addr} {l : List (Str × Tok)} {k : Nat} {p : Str × Tok} {Q : PySem.Fin → Shared → Prop} {E : Value → Shared → Prop} (hJI : I ≠ J) (hJa : ax ≠ J) (st : FiltAt I J ax l k s.heap) (hp : l[k]? = some p) (hl : p.1.length < 1000)
    (h : ∀ h' tk, FiltAt I J ax l (k + 1) h' → (∀ b o, b ≠ J → s.heap.get? b = some o → h'.get? b = some o) → Q (if p.1.length != 0 then .done (.ret (.str p.1 p.2)) else .again (.builtin "filter.__next__" ⟨[.ref I], []⟩)) { s with heap := h', toks := tk }) :
    wpAny (model prog w) A (Builtin.«filter.__next__» ⟨[.ref I], []⟩) Q E s := by
  have hx : (strValues l).toArray[k]? = some (.str p.1 p.2) := by
    rw [List.getElem?_toArray]; unfold strValues; rw [List.getElem?_map, hp]; rfl
  unfold Builtin.«filter.__next__»
  show wpAny _ _ (field (.ref I) 0 >>= _) _ _ s
  refine wpAny_bind (wpAny_field st.filt rfl (x := .builtin "len") rfl ?_)
  refine wpAny_bind (wpAny_field st.filt rfl (x := .ref J) rfl ?_)
  refine wpAny_bind (cs_item st.iter st.tup hx fun h' hit hs => ?_)
  dsimp only
  refine wpAny_bind (wpAny_holding ?_)
  rw [if_neg (by decide)]
  refine wpAny_bind (P.len_str (by omega) ?_)
  refine wpAny_holding (P.truthy_int ?_)
  have st' : FiltAt I J ax l (k + 1) h' := ⟨hs.extBut _ _ hJI st.filt, hit, st.tup.extBut hs.extBut hJa⟩
  have hQ := fun tk => h h' tk st' fun b o hb e => hs.extBut b o hb e
  have e : (((p.1.length : Nat) : Int) != 0) = (p.1.length != 0) := by
    cases hq : p.1.length with
    | zero => rfl
    | succ n => simp; omega
  rw [e]
  by_cases hc : (p.1.length != 0) = true
  · rw [if_pos hc]
    have := hQ (s.toks + 1 + 1)
    rw [if_pos hc] at this
    exact wpAny_pure this
  · rw [if_neg hc]
    have := hQ (s.toks + 1 + 1)
    rw [if_neg hc] at this
    exact wpAny_pure this

theorem filt_item {I J ax : Addr} {l : List (Str × Tok)} (hJI : I ≠ J) (hJa : ax ≠ J) (hl : ∀ p ∈ l, p.1.length < 1000) : ∀ (rest : List (Str × Tok)) (k : Nat) (s : Shared) (p : Str × Tok) (more : List (Str × Tok)) (R : Result → Shared → Prop), l.drop k = rest → full rest = p :: more → FiltAt I J ax l k s.heap →
    (∀ k' h' tk, FiltAt I J ax l k' h' → full (l.drop k') = more → (∀ b o, b ≠ J → s.heap.get? b = some o → h'.get? b = some o) → R (.ok (.ret (.str p.1 p.2))) { s with heap := h', toks := tk }) →
    codeAny (model prog w) A (.builtin "filter.__next__" ⟨[.ref I], []⟩) R s
  | [], _, _, _, _, _, _, hf, _, _ => by cases hf
  | q :: rest, k, s, p, more, R, hd, hf, st, hR => by
    have hq : l[k]? = some q := by rw [← List.head?_drop, hd]; rfl
    have hd' : l.drop (k + 1) = rest := by rw [← List.tail_drop, hd]; rfl
    refine codeAny_builtin entry_filter_next (filt_tree hJI hJa st hq (hl q (List.mem_of_getElem? hq)) fun h' tk st' hk => ?_)
    by_cases hc : (q.1.length != 0) = true
    · rw [if_pos hc]
      have e : full (q :: rest) = q :: full rest := by exact List.filter_cons_of_pos (p := fun (p : Str × Tok) => p.1.length != 0) hc
      rw [e] at hf
      cases hf
      exact hR _ h' tk st' (by rw [hd']) hk
    · rw [if_neg hc]
      have e : full (q :: rest) = full rest := by exact List.filter_cons_of_neg (p := fun (p : Str × Tok) => p.1.length != 0) hc
      rw [e] at hf
      refine ⟨Code.quiet_builtin _ (by decide +kernel), ?_⟩
      exact filt_item hJI hJa hl rest (k + 1) _ p more R hd' hf st' fun k' h'' tk' a b c => hR k' h'' tk' a b fun x o hx e => c x o hx (hk x o hx e)

theorem filt_end {I J ax : Addr} {l : List (Str × Tok)} (hh : A.handled = none) (hJI : I ≠ J) (hJa : ax ≠ J) (hl : ∀ p ∈ l, p.1.length < 1000) : ∀ (rest : List (Str × Tok)) (k : Nat) (s : Shared) (R : Result → Shared → Prop), l.drop k = rest → full rest = [] → FiltAt I J ax l k s.heap →
    (∀ h' tk e, (∀ b o, b ≠ J → s.heap.get? b = some o → h'.get? b = some o) → (∃ o, h'.get? e = some o ∧ o.cls = .type "StopIteration") → R (.error (.ref e)) { s with heap := h', toks := tk }) →
    codeAny (model prog w) A (.builtin "filter.__next__" ⟨[.ref I], []⟩) R s
  | [], k, s, R, hd, _, st, hR => by
    have hx : (strValues l).toArray[k]? = none := by
      rw [List.getElem?_toArray]; unfold strValues; rw [List.getElem?_map]
      rw [← List.head?_drop, hd]; rfl
    refine codeAny_builtin entry_filter_next ?_
    unfold Builtin.«filter.__next__»
    show wpAny _ _ (field (.ref I) 0 >>= _) _ _ s
    refine wpAny_bind (wpAny_field st.filt rfl (x := .builtin "len") rfl ?_)
    refine wpAny_bind (wpAny_field st.filt rfl (x := .ref J) rfl ?_)
    exact wpAny_bind (cs_end (A := A.under _) hh st.iter st.tup hx fun h' e hs he => hR h' s.toks e hs he)
  | q :: rest, k, s, R, hd, hf, st, hR => by
    have hq : l[k]? = some q := by rw [← List.head?_drop, hd]; rfl
    have hd' : l.drop (k + 1) = rest := by rw [← List.tail_drop, hd]; rfl
    refine codeAny_builtin entry_filter_next (filt_tree hJI hJa st hq (hl q (List.mem_of_getElem? hq)) fun h' tk st' hk => ?_)
    by_cases hc : (q.1.length != 0) = true
    · have e : full (q :: rest) = q :: full rest := by exact List.filter_cons_of_pos (p := fun (p : Str × Tok) => p.1.length != 0) hc
      rw [e] at hf
      cases hf
    · rw [if_neg hc]
      have e : full (q :: rest) = full rest := by exact List.filter_cons_of_neg (p := fun (p : Str × Tok) => p.1.length != 0) hc
      rw [e] at hf
      refine ⟨Code.quiet_builtin _ (by decide +kernel), ?_⟩
      exact filt_end hh hJI hJa hl rest (k + 1) _ R hd' hf st' fun h'' tk' e' b c => hR h'' tk' e' (fun x o hx e => b x o hx (hk x o hx e)) c

theorem walks_filter (hh : A.handled = none) {I J ax : Addr} {l : List (Str × Tok)} (hJI : I ≠ J) (hJa : ax ≠ J) (hl : ∀ p ∈ l, p.1.length < 1000) :
    Walks prog w A I [I, J, ax] [J] (full l).length (fun i v => ∃ p, (full l)[i]? = some p ∧ v = .str p.1 p.2) (fun i h => ∃ k, FiltAt I J ax l k h ∧ full (l.drop k) = (full l).drop i) where
  sub := fun b hb => by simp at hb; simp [hb]
  frame := fun _ _ _ ⟨k, st, e⟩ hk => ⟨k, ⟨hk I (by simp) _ st.filt, st.iter.at fun o e => hk J (by simp) o e, st.tup.at fun o e => hk ax (by simp) o e⟩, e⟩
  item := fun i s Q E hi ⟨k, st, e⟩ hQ => by
    have hT : s.TypeIs (.ref I) "filter" := ⟨_, st.filt, rfl⟩
    have hi' : (full l).drop i = (full l)[i] :: (full l).drop (i + 1) := (List.drop_eq_getElem_cons hi)
    rw [hi'] at e
    unfold pyNext
    refine wpAny_bind (wpAny_attempt (wpAny_callSpecial?_slot (name := Str.ofString "__next__") hT slot_filter_next (wpAny_call (codeAny_call_builtin_code (Code.quiet_builtin _ (by decide +kernel)) (slot_filter_next.check _ _ _ _ _ _ _ _ hT (args_filter_next_1 _) ?_)))))
    refine filt_item hJI hJa hl _ k s _ _ _ rfl e st fun k' h' tk st' e' hk => ?_
    exact wpAny_pure (hQ _ h' tk ⟨_, List.getElem?_eq_getElem hi, rfl⟩ ⟨k', st', e'⟩ fun b o hb x => hk b o (fun q => hb (by simp [q])) x)
  done := fun s Q E ⟨k, st, e⟩ hQ => by
    have hT : s.TypeIs (.ref I) "filter" := ⟨_, st.filt, rfl⟩
    rw [List.drop_length] at e
    unfold pyNext
    refine wpAny_bind (wpAny_attempt (wpAny_callSpecial?_slot (name := Str.ofString "__next__") hT slot_filter_next (wpAny_call (codeAny_call_builtin_code (Code.quiet_builtin _ (by decide +kernel)) (slot_filter_next.check _ _ _ _ _ _ _ _ hT (args_filter_next_1 _) ?_)))))
    refine filt_end hh hJI hJa hl _ k s _ rfl e st fun h' tk e' hk he => ?_
    obtain ⟨o, ho, hc⟩ := he
    refine wpAny_bind (wpAny_isInstance (T := "StopIteration") (b := true) ⟨o, ho, hc⟩ isSubtype_stop ?_)
    exact wpAny_pure (hQ h' tk fun b o hb x => hk b o (fun q => hb (by simp [q])) x)
  self := fun _ s Q E ⟨k, st, e⟩ hQ => by
    have hT : s.TypeIs (.ref I) "filter" := ⟨_, st.filt, rfl⟩
    refine wpAny_pyIter_slot hT slot_filter_iter (wpAny_call_entry slot_filter_iter hT entry_filter_iter ?_ (args_filter_iter_1 _))
    show wpAny _ _ (ret (.ref I)) _ _ s
    exact wpAny_pure ⟨_, rfl, "filter", _, hT, slot_filter_next.lookup, hQ⟩
end
end Mine
end

section
open PySem PySem.Calls PySem.W PySem.Spec PyProof.Rows
set_option maxRecDepth 100000
set_option maxHeartbeats 4000000
namespace Mine

section
variable {prog : Program} {w : World} {A : Around} {s s₁ : Shared} {R : Result → Shared → Prop}
theorem codeCal_call_var {a : Addr} {o : Obj} {fd : FuncData} {body : List Stmt} {args : Args} {binds : List (Str × Value)}
    (hroom : A.depth < recursionLimit) (ho : s.heap.get? a = some o) (hd' : o.data = .func fd) (hlim : s₁.heap.NoLimit) (hcd : s.heap.CodeRec fd.code fd.qualname)
    (hbody : fd.body = .stmts body) (hbind : ∀ (M : Model) (A : Around) (E : Value → Shared → Prop) (Q : List (Str × Value) → Shared → Prop), Q binds s₁ → wpAny M A (bindArgs fd args) Q E s)
    (hcell : ∀ x ∈ fd.scope.names, x.2 ≠ .cell) (hloc : ∀ x ∈ binds, fd.scope.names.lookup x.1 = some .local)
    (h : ∀ h₀, h₀.Ns s₁.heap.objs.size (fun x => binds.reverse.lookup x) → (∀ b o, s₁.heap.get? b = some o → h₀.get? b = some o) →
      wpCal (model prog w) (A.deeper (callEnv fd s₁.heap.objs.size a)) (execs body (callEnv fd s₁.heap.objs.size a)) (fun f s' => R (.ok (.ret (match f with | .ret v => v | _ => .none))) s')
        (fun e s' => wpAny (model prog w) (A.deeper (callEnv fd s₁.heap.objs.size a)) (leaving (callEnv fd s₁.heap.objs.size a) e) (fun _ s'' => R (.error e) s'') (fun e' s'' => R (.error e') s'') s')
        { s₁ with heap := h₀, toks := s₁.toks + binds.length })
    (hco : fd.scope.isCoroutine = false) (hgen : fd.scope.isGenerator = false) (hk : fd.scope.kind = .function) : codeCal (model prog w) A (.call (.ref a) args) R s := by
  refine codeCal_of_tree ?_
  show wpCal _ A.in1 (callAny (.ref a) args) _ _ s
  simp only [callAny]
  refine wpCal_first (wpAny_load ho ?_)
  obtain ⟨c, oc, vs, tq, hc, hoc, hdc, hq⟩ := hcd
  simp only [hd', callFunction, hco, hgen, hbody, hc]
  refine wpCal_first (m := field (.ref c) 1) (wpAny_field hoc hdc hq (wpCal_first (wpAny_pure ?_)))
  refine wpCal_first (hbind _ _ _ _ ?_)
  refine wpCal_first (wpAny_newFunctionEnv hcell hloc (fun h₀ hns₀ hsb₀ => wpCal_first (wpAny_enterFrame (hlim.fresh _ hsb₀) hroom (wpCal_pure (And.intro rfl ?_)))) hk)
  have hk₁ : ∀ b o, s₁.heap.get? b = some o → h₀.get? b = some o := fun b o e => hsb₀.extBut b o (Nat.ne_of_lt (Heap.lt_size e)) (Heap.get?_push_of_some _ e)
  have z := codeCal_func (h h₀ hns₀ hk₁)
  unfold callEnv at z
  rw [hc] at z
  exact z
end

abbrev tupO (vs : List Value) : Obj := { cls := .type "tuple", data := .seq vs.toArray }

/-- enter a def whose one parameter takes all the arguments in a tuple -/
theorem enterV {w : World} {K : Frag} {A : Around} {s : Shared} {R : Result → Shared → Prop} {p : Program} {loose : List Str} {mean : ExcName → Option Value} {mg mb : Str → Option Value}
    {name qual : Str} {params : Arguments} {body : List Stmt} {scope : Scope} {dV kV doc pm cdv ct oc : Value} {an od : Option Addr} {osl : Array (Option Value)} {f : Addr} {vs : List Value} {pn : Str} {prog : Program}
    (X : K.In s.heap) (T : Top p loose mean mg mb s.heap)
    (ho : K.lookup f = some ⟨oc, od, .func (fnOf name qual params body scope dV kV doc pm an cdv ct), osl⟩) (hcd : codeIn K cdv qual = true) (hroom : A.depth < recursionLimit)
    (hbind : bindArgs (fnOf name qual params body scope dV kV doc pm an cdv ct) ⟨vs, []⟩ = (newTuple vs >>= fun v => pure [(pn, v)])) (hfit : vs.length ≤ 100) (hloc : scope.names.lookup pn = some .local)
    (h : ∀ L' h₁ tk, Fr s.heap L' h₁ (fun y => [(pn, Value.ref s.heap.objs.size)].reverse.lookup y) → News s.heap L' h₁ [(s.heap.objs.size, tupO vs)] →
      wpCal (model prog w) (A.deeper (envOf qual scope L' f cdv)) (execs body (envOf qual scope L' f cdv))
        (fun fl s' => R (.ok (.ret (match fl with | .ret v => v | _ => .none))) s')
        (fun e s' => wpAny (model prog w) (A.deeper (envOf qual scope L' f cdv)) (leaving (envOf qual scope L' f cdv) e) (fun _ s'' => R (.error e) s'') (fun e' s'' => R (.error e') s'') s')
        { s with heap := h₁, toks := tk })
    (hco : scope.isCoroutine = false) (hgen : scope.isGenerator = false) (hk : scope.kind = .function)
    (hcell : ∀ x ∈ scope.names, x.2 ≠ .cell) : codeCal (model prog w) A (.call (.ref f) ⟨vs, []⟩) R s := by
  have g0 : s.heap.get? s.heap.objs.size = none := by
    cases q : s.heap.get? s.heap.objs.size with
    | none => rfl
    | some o => exact absurd (Heap.lt_size q) (Nat.lt_irrefl _)
  refine codeCal_call_var (s₁ := { s with heap := s.heap.push (tupO vs) }) (fd := fnOf name qual params body scope dV kV doc pm an cdv ct) (body := body) (binds := [(pn, .ref s.heap.objs.size)]) hroom (X _ _ ho) rfl (T.nolimit.push _) (codeRec_of X hcd) rfl
    (fun M A E Q hQ => ?_) hcell (fun x hx => by obtain rfl := List.mem_singleton.mp hx; exact hloc) (fun h₁ hns hk₁ => ?_) hco hgen hk
  · rw [hbind]
    exact wpAny_bind (wpAny_newTuple (wpAny_pure hQ) (by rw [sizeLine_eq]; omega))
  · have hk₂ : ∀ b o, s.heap.get? b = some o → h₁.get? b = some o := fun b o e => hk₁ b o (Heap.get?_push_of_some _ e)
    have hz : (s.heap.push (tupO vs)).objs.size = s.heap.objs.size + 1 := Heap.size_push ..
    refine h _ h₁ _ ⟨hns, hk₂, by rw [hz]; exact Nat.le_succ _⟩ fun q hq => ?_
    obtain rfl := List.mem_singleton.mp hq
    exact ⟨hk₁ _ _ (Heap.get?_push_size _ rfl), (by rw [hz]; exact Nat.ne_of_lt (Nat.lt_succ_self _)), g0⟩
end Mine
end

section
open PySem PySem.Calls PySem.W PySem.Spec PyProof.Rows
set_option maxRecDepth 100000
set_option maxHeartbeats 4000000
namespace Mine

section
variable {prog : Program} {w : World} {A : Around} {E : Value → Shared → Prop} {s : Shared} {h₀ : Heap} {c P L : Addr} {ps : Array Value} {m mg : Str → Option Value} {bm : Addr} {ob : Obj}

/-- a generator expression, made in a def whose code table may hold its code already or not -/
theorem genexp_G {env : Env} {elt iter : PySem.Expr} {x : Str} {px : Pos} {ifs : List PySem.Expr} {scope : Scope} {cl : List (Str × Addr)} {pos : Pos} {Q : Value → Shared → Prop}
    (B : Based h₀ h₀ c P ps) (M : BMod h₀ env.globals mg bm ob) (hcode : env.code = .ref c)
    (hh : A.handled = none) (hco : scope.isCoroutine = false) (hclos : closureFor scope env = pure cl) (hcell : ∀ y ∈ scope.names, y.2 ≠ .cell) (h0 : scope.names.lookup (".0" : Str) = some NameKind.local)
    (hx : scope.names.lookup x = some .local) (hkind : scope.kind = .function) (hroom : A.depth < recursionLimit)
    (h : wpAny (model prog w) A (eval iter env) (fun xv s₁ => wpAny (model prog w) A (pyIter xv) (fun it s₂ => Fr h₀ L s₂.heap m ∧ AllBare s₂.gens ∧ s₂.heap.NoLimit ∧
      ∃ I fp wr n₀ Pi St₀ pz F, it = .ref I ∧ (∀ A' : Around, A'.handled = none → Walks prog w A' I fp wr n₀ Pi St₀) ∧ St₀ 0 s₂.heap ∧ (∀ b ∈ fp, b < s₂.heap.objs.size) ∧ P ∉ fp ∧ (∀ b ∈ wr, L < b) ∧
        (∀ (code : Value) (h₃ href : Heap), Heap.ExtBut P s₂.heap h₃ → s₂.heap.objs.size ≤ h₃.objs.size → (∀ b o, h₃.get? b = some o → href.get? b = some o) →
          QuietGen prog w (genEnv scope cl h₃.objs.size code builtinsNs env) x ifs elt (List.range h₃.objs.size) wr Pi pz F href) ∧
        (∀ (h₀' : Heap) (ps' : Array Value) (a : Addr) (h₅ : Heap) (tk : Nat) (gs : Array GenState), (∀ b o, b ≠ P → h₀.get? b = some o → h₀'.get? b = some o) → h₀'.get? P = some (tobj ps') → TriplesOk ps'.toList →
          Fr h₀' L h₅ m → AllBare gs → Gen prog w A L a (passing pz n₀ 0).length (fun j y => ∃ i, (passing pz n₀ 0)[j]? = some i ∧ F i y) { s₂ with heap := h₅, toks := tk, gens := gs } → Q (.ref a) { s₂ with heap := h₅, toks := tk, gens := gs })) E s₁) E s)
    (hs : ∀ x, genFold iter env x = pure x) :
    wpAny (model prog w) A (eval (.GeneratorExp elt [⟨.Name x px, iter, ifs, 0⟩] scope pos) env) Q E s := by
  refine wpAny_GeneratorExp_walksQ hh hco hclos hcell h0 hx hkind hroom (wpAny_mono h (fun xv s₁ h₁' => wpAny_mono h₁' (fun it s₂ h₂ => ?_) fun _ _ e => e) fun _ _ e => e) hs
  obtain ⟨F₂, G₂, hlim, I, fp, wr, n₀, Pi, St₀, pz, F, rfl, W₀, hst, hfp, hPf, hwr, hq, hQ⟩ := h₂
  refine ⟨hlim, ?_⟩
  have hcP : cStatics ≠ P := fun e => by
    obtain ⟨_, hns, _⟩ := hlim
    obtain ⟨o, es, ep, ho, hd, _⟩ := hns
    rw [e, (B.tabAt F₂).2] at ho; cases ho; cases hd
  have hcw : cStatics ∉ wr := fun hm => by
    have h1 : L < cStatics := hwr _ hm
    have hL : L ≤ 1 := Nat.le_of_lt_succ h1
    have hb : bm < 1 := Nat.lt_of_lt_of_le (Heap.lt_size M.obj) (Nat.le_trans F₂.above hL)
    exact M.ne (Nat.lt_one_iff.mp hb)
  have hLlt : L < s₂.heap.objs.size := F₂.ns.lt
  have key : ∀ (code : Value) (h₃ : Heap) (tk₃ : Nat) (h₀' : Heap) (ps' : Array Value), Heap.ExtBut P s₂.heap h₃ → s₂.heap.objs.size ≤ h₃.objs.size → Fr h₀' L h₃ m → (∀ b o, b ≠ P → h₀.get? b = some o → h₀'.get? b = some o) → h₀'.get? P = some (tobj ps') → TriplesOk ps'.toList →
      wpAny (model prog w) A (builtinsFor env.globals env.builtins) (fun bi s₄ =>
        ∃ I' fp wr n₀ P St₀ pz F, Value.ref I = .ref I' ∧ (∀ A' : Around, A'.handled = none → Walks prog w A' I' fp wr n₀ P St₀) ∧ St₀ 0 s₄.heap ∧ (∀ b ∈ fp, b < s₄.heap.objs.size) ∧ s₄.heap.NoLimit ∧ cStatics ∉ wr ∧
          (∀ href : Heap, (∀ b o, s₄.heap.get? b = some o → href.get? b = some o) →
            QuietGen prog w (genEnv scope cl s₄.heap.objs.size code bi env) x ifs elt (List.range s₄.heap.objs.size) wr P pz F href) ∧
          (∀ a h₅ tk gs, gs.bare = true → s₄.heap.objs.size < a → h₅.objs.size = a + 1 → (∀ b o, s₄.heap.get? b = some o → h₅.get? b = some o) →
            WalksS prog w A.in4 a (a :: s₄.heap.objs.size :: List.range s₄.heap.objs.size) (s₄.heap.objs.size :: wr) (GenOnlyQ s₄.gens.size) (passing pz n₀ 0).length
              (fun j y => ∃ i, (passing pz n₀ 0)[j]? = some i ∧ F i y) (GenAt prog w A.in4 a s₄.gens.size s₄.heap.objs.size (List.range s₄.heap.objs.size) wr pz n₀ F) →
            GenAt prog w A.in4 a s₄.gens.size s₄.heap.objs.size (List.range s₄.heap.objs.size) wr pz n₀ F 0 { s₄ with gens := s₄.gens.push gs, toks := tk, heap := h₅ } →
            Q (.ref a) { s₄ with gens := s₄.gens.push gs, toks := tk, heap := h₅ })) E { s₂ with heap := h₃, toks := tk₃ } := by
    intro code h₃ tk₃ h₀' ps' hx₃ hsz F₃ hoth hP' hT'
    have M₃ : BMod h₃ env.globals mg bm ob := (M.keeps F₂.keep).extBut (B.tabAt F₂) hx₃
    have hl₃ : h₃.NoLimit := hlim.extBut hx₃ hcP
    refine wpAny_builtinsFor M₃.ns M₃.name M₃.ne M₃.obj M₃.cls M₃.dict M₃.data ?_
    refine ⟨I, fp, wr, n₀, Pi, St₀, pz, F, rfl, W₀, (W₀ A hh).frame _ _ _ hst (fun b hb o e => hx₃ b o (fun e' => hPf (e' ▸ hb)) e), (fun b hb => Nat.lt_of_lt_of_le (hfp b hb) hsz), hl₃, hcw,
      (fun href hhref => hq _ h₃ href hx₃ hsz hhref), fun a h₅ tk gs hgb hag hsz₅ hk₅ W hat => ?_⟩
    refine hQ h₀' ps' a h₅ tk _ hoth hP' hT' (F₃.keeps hk₅) (G₂.push hgb) ⟨_, _, _, _, W, hat, (fun i s' st => st.1.typeIs), List.mem_cons_self, ?_, ?_⟩
    · intro b hb
      show b < h₅.objs.size
      rw [hsz₅]
      rcases List.mem_cons.mp hb with rfl | hb
      · exact Nat.lt_succ_self _
      · rcases List.mem_cons.mp hb with rfl | hb
        · exact Nat.lt_succ_of_lt hag
        · exact Nat.lt_succ_of_lt (Nat.lt_trans (List.mem_range.mp hb) hag)
    · intro b hb
      rcases List.mem_cons.mp hb with rfl | hb
      · exact Nat.lt_of_lt_of_le hLlt hsz
      · exact hwr b hb
  have trip : ∀ {h : Heap} {ps}, h.IsCode c P ps → TriplesOk ps.toList := fun x => by
    obtain ⟨_, _, _, _, _, _, _, _, _, _, _, _, _, _, _, _, _, _, _, htr, _⟩ := x
    exact htr
  cases hf : codeAmong pos ps.toList with
  | some c' => exact wpAny_genexprCode_hit hcode (B.codeAt F₂) hf (key c' s₂.heap s₂.toks h₀ ps (fun _ _ _ e => e) (Nat.le_refl _) F₂ (fun _ _ _ e => e) B.tab.2 (trip B.code))
  | none =>
    refine wpAny_genexprCodeX hcode (B.codeAt F₂) (B.tabAt F₂) hf fun c' h₃ tk₃ hx₃ hge hlt hcode₃ _ htab₃ _ => ?_
    obtain ⟨B₃, F₃⟩ := B.grow F₂ hx₃ hcode₃ htab₃
    exact key (.ref c') h₃ tk₃ _ _ hx₃ (Nat.le_trans hge (Nat.le_of_lt hlt)) F₃ (fun b o hb e => (Heap.get?_update_other _ _ (Ne.symm hb)).trans e) B₃.tab.2 (trip hcode₃)

variable {a : Addr} {n : Nat} {F : Nat → Value → Prop} {Q : Value → Shared → Prop}
theorem join_G {sep : Str} {t : Tok} (Fh : Fr h₀ L s.heap m) (G : AllBare s.gens) (X : Gen prog w A L a n F s) (tx : Nat → Str) (htx : ∀ j v, F j v → ∃ u, v = .str (tx j) u)
    (hok : JoinOk sep ((List.range n).map tx) = true)
    (hQ : ∀ h' gs' tk' t', Fr h₀ L h' m → AllBare gs' → Q (.str (Txt.join sep ((List.range n).map tx)) t') { s with heap := h', gens := gs', toks := tk' })
    (hsz : n ≤ sizeLine := by size_fits) : wpAny (model prog w) A (call (.builtin "str.join") [.str sep t, .ref a]) Q E s := by
  obtain ⟨fp, wr, g, St, W, hst, hT, ha, hfp, hwr⟩ := X
  have W := W.in4_2
  refine SC.joinGen W hT hst hfp ha (fun j v hv => let ⟨u, e⟩ := htx j v hv; ⟨_, u, e⟩) (fun s' lt hm hacc => ?_) hsz
  have hl : lt.map (·.1) = (List.range n).map tx := by
    apply List.ext_getElem?
    intro j
    have hsz : lt.length = n := by simpa [strValues] using hacc.1
    by_cases hj : j < n
    · have hj' : j < lt.length := hsz ▸ hj
      obtain ⟨u, hv⟩ := htx j _ (hacc.2 j (.str lt[j].1 lt[j].2) (by simp [strValues, List.getElem?_eq_getElem hj']))
      injection hv with h1 _
      simp [List.getElem?_eq_getElem hj', hj, h1]
    · rw [List.getElem?_eq_none (by simpa [hsz] using Nat.le_of_not_lt hj), List.getElem?_eq_none (by simpa using Nat.le_of_not_lt hj)]
  rw [hl]
  have f1 := Fh.moved hm hwr
  have g1 := G.movedS hm
  have o1 := hm.os
  have d1 := hm.drawn
  refine ⟨hok, fun t' k => ?_⟩
  have := hQ s'.heap s'.gens k t' f1 g1
  obtain ⟨sh, sg, sd, st, so⟩ := s'
  cases o1
  cases d1
  exact this
end
end Mine
end

section
open PySem PySem.Calls PySem.W PyProof.Rows
set_option maxRecDepth 100000
set_option maxHeartbeats 8000000
namespace Mine
theorem fillit6 (w : World) (h : Heap) (X : (hd.heap_39 w.params).In h) : PySem.Challenge.rw_mg0046_01 = PySem.Challenge.rw_mg0046_01 ∧ (hd.heap_39 w.params).In h := by
  k_fill; exact ⟨rfl, X⟩
local macro_rules | `(tactic| k_room) => `(tactic| exact Nat.le_of_ble_eq_true rfl)

abbrev platScope : Scope := { kind := ScopeKind.function, names := [(Str.ofString "args", NameKind.local), (Str.ofString "platform", NameKind.local), (Str.ofString "cleaned", NameKind.local), (Str.ofString "filter", NameKind.globalImplicit), (Str.ofString "len", NameKind.globalImplicit)], isGenerator := false, isCoroutine := false }

theorem shadow {α : Type} (n : Str) (a b : α) (m : Str → α) : (fun y => if y = n then a else if y = n then b else m y) = fun y => if y = n then a else m y := by
  funext y
  by_cases h : y = n
  · rw [if_pos h, if_pos h]
  · rw [if_neg h, if_neg h, if_neg h]

theorem test2 {w : World} {mean : ExcName → Option Value} {mg mb : Str → Option Value} {base h₀ : Heap} {outer : List Env} {L : Addr} {m : Str → Option Value} {s : Shared} {U : Str} {t : Tok} {E : Value → Shared → Prop} {p1 p2 p3 p4 p5 p6 p7 p8 : Pos} {c : Bool} {QB : Bool → Shared → Prop}
    (hl : U.length ≤ 4000) (hp : 0 < U.length)
    (B : Below (AR 600 5000 outer) base outer h₀) (F : Fr h₀ L s.heap (fun y => if y = Str.ofString "platform" then some (.str U t) else m y)) (X : (hd.heap_39 w.params).In h₀) (T : Top p0 l0 mean mg mb h₀)
    (hE : PassesOwn (model PySem.Challenge.rw_mg0046_01.row.prog w) ((AR 600 5000 outer).deeper (envOf (Str.ofString "_platform") platScope L 35 (.ref 34))) (envOf (Str.ofString "_platform") platScope L 35 (.ref 34)) E) (hlast : (Txt.item U (-1) == Str.ofString "-") = c)
    (k : ∀ h' tk, Fr h₀ L h' (fun y => if y = Str.ofString "platform" then some (.str U t) else m y) → QB c { s with heap := h', toks := tk }) :
    wpAny (model PySem.Challenge.rw_mg0046_01.row.prog w) ((AR 600 5000 outer).deeper (envOf (Str.ofString "_platform") platScope L 35 (.ref 34))) (isTrue (Expr.BoolOp BoolOp.And [Expr.Name (Str.ofString "platform") p1, ((Expr.Name (Str.ofString "platform") p2).Subscript (Expr.UnaryOp UnaryOp.USub (Expr.Constant (Const.int 1) 0 p3) p4) p5).Compare [CmpOp.Eq] [Expr.Constant (Const.str (Str.ofString "-")) 0 p6] p7] p8) (envOf (Str.ofString "_platform") platScope L 35 (.ref 34)) (eval (Expr.BoolOp BoolOp.And [Expr.Name (Str.ofString "platform") p1, ((Expr.Name (Str.ofString "platform") p2).Subscript (Expr.UnaryOp UnaryOp.USub (Expr.Constant (Const.int 1) 0 p3) p4) p5).Compare [CmpOp.Eq] [Expr.Constant (Const.str (Str.ofString "-")) 0 p6] p7] p8) (envOf (Str.ofString "_platform") platScope L 35 (.ref 34)))) QB E s := by
  have N0 : News h₀ L s.heap [] := News.nil
  w_on
  k_steps
  all_goals (try (exfalso; omega))
  all_goals (try dsimp only)
  · obtain rfl : c = true := hlast.symm.trans (by assumption)
    exact k _ _ (by assumption)
  · obtain rfl : c = false := hlast.symm.trans (by assumption)
    exact k _ _ (by assumption)

theorem body2 {w : World} {mean : ExcName → Option Value} {mg mb : Str → Option Value} {base h₀ : Heap} {outer : List Env} {L : Addr} {m : Str → Option Value} {s : Shared} {U : Str} {t : Tok} {E : Value → Shared → Prop} {q1 q2 q3 q4 q5 q6 q7 : Pos} {QF : Flow → Shared → Prop}
    (hl : U.length ≤ 4000) (hp : 0 < U.length)
    (B : Below (AR 600 5000 outer) base outer h₀) (F : Fr h₀ L s.heap (fun y => if y = Str.ofString "platform" then some (.str U t) else m y)) (X : (hd.heap_39 w.params).In h₀) (T : Top p0 l0 mean mg mb h₀)
    (hE : PassesOwn (model PySem.Challenge.rw_mg0046_01.row.prog w) ((AR 600 5000 outer).deeper (envOf (Str.ofString "_platform") platScope L 35 (.ref 34))) (envOf (Str.ofString "_platform") platScope L 35 (.ref 34)) E)
    (k : ∀ h' tk t', Fr h₀ L h' (fun y => if y = Str.ofString "platform" then some (.str (Txt.slice U none (some (-1))) t') else m y) → QF .next { s with heap := h', toks := tk }) :
    wpAny (model PySem.Challenge.rw_mg0046_01.row.prog w) ((AR 600 5000 outer).deeper (envOf (Str.ofString "_platform") platScope L 35 (.ref 34))) (execs [.Assign [Expr.Name (Str.ofString "platform") q1] (Expr.Subscript (Expr.Name (Str.ofString "platform") q2) (Expr.Slice none (some (Expr.UnaryOp UnaryOp.USub (Expr.Constant (Const.int 1) 0 q3) q4)) none q5) q6) q7] (envOf (Str.ofString "_platform") platScope L 35 (.ref 34))) QF E s := by
  have N0 : News h₀ L s.heap [] := News.nil
  w_on
  k_steps
  (try dsimp only)
  (rename Fr h₀ L _ _ => F9)
  rw [shadow] at F9
  exact k _ _ _ F9

theorem loop2 {w : World} {mean : ExcName → Option Value} {mg mb : Str → Option Value} {base h₀ : Heap} {outer : List Env} {L : Addr} {m : Str → Option Value} {s : Shared} {U : Str} {t : Tok} {Q : Flow → Shared → Prop} {E : Value → Shared → Prop} {p1 p2 p3 p4 p5 p6 p7 p8 p9 q1 q2 q3 q4 q5 q6 q7 : Pos} {res : Str}
    (hl : U.length ≤ 4000) (hp : 0 < U.length)
    (B : Below (AR 600 5000 outer) base outer h₀) (F : Fr h₀ L s.heap (fun y => if y = Str.ofString "platform" then some (.str U t) else m y)) (X : (hd.heap_39 w.params).In h₀) (T : Top p0 l0 mean mg mb h₀)
    (hE : PassesOwn (model PySem.Challenge.rw_mg0046_01.row.prog w) ((AR 600 5000 outer).deeper (envOf (Str.ofString "_platform") platScope L 35 (.ref 34))) (envOf (Str.ofString "_platform") platScope L 35 (.ref 34)) E) (hres : ((Txt.item U (-1) == Str.ofString "-") = false ∧ res = U) ∨ ((Txt.item U (-1) == Str.ofString "-") = true ∧ Txt.slice U none (some (-1)) = res ∧ 0 < res.length ∧ res.length ≤ 4000 ∧ (Txt.item res (-1) == Str.ofString "-") = false))
    (k : ∀ h' tk t', Fr h₀ L h' (fun y => if y = Str.ofString "platform" then some (.str res t') else m y) → Q .next { s with heap := h', toks := tk }) :
    wpAny (model PySem.Challenge.rw_mg0046_01.row.prog w) ((AR 600 5000 outer).deeper (envOf (Str.ofString "_platform") platScope L 35 (.ref 34))) (exec (.While (Expr.BoolOp BoolOp.And [Expr.Name (Str.ofString "platform") p1, ((Expr.Name (Str.ofString "platform") p2).Subscript (Expr.UnaryOp UnaryOp.USub (Expr.Constant (Const.int 1) 0 p3) p4) p5).Compare [CmpOp.Eq] [Expr.Constant (Const.str (Str.ofString "-")) 0 p6] p7] p8) [.Assign [Expr.Name (Str.ofString "platform") q1] (Expr.Subscript (Expr.Name (Str.ofString "platform") q2) (Expr.Slice none (some (Expr.UnaryOp UnaryOp.USub (Expr.Constant (Const.int 1) 0 q3) q4)) none q5) q6) q7] [] p9) (envOf (Str.ofString "_platform") platScope L 35 (.ref 34))) Q E s := by
  refine whl_start 2 ?_
  rcases hres with ⟨h1, h2⟩ | ⟨h1, h2, h3, h4, h5⟩
  · subst h2
    refine whl_turn hE (test2 hl hp B F X T hE h1 fun h' tk F' => .no rfl (wpAny_pure (k _ _ _ F')))
  · refine whl_turn hE (test2 hl hp B F X T hE h1 fun h' tk F' => .yes rfl (body2 hl hp B F' X T hE fun h2' tk2 t2 F2 => ?_))
    rw [h2] at F2
    refine whl_turn (k := 0) hE (test2 (s := { s with heap := h2', toks := tk2 }) h4 h3 B F2 X T hE h5 fun h' tk F' => .no rfl (wpAny_pure (k _ _ _ F')))

theorem loop2m {w : World} {mean : ExcName → Option Value} {mg mb : Str → Option Value} {base h₀ : Heap} {outer : List Env} {L : Addr} {m : Str → Option Value} {s : Shared} {U : Str} {t : Tok} {Q : Flow → Shared → Prop} {E : Value → Shared → Prop} {p1 p2 p3 p4 p5 p6 p7 p8 p9 q1 q2 q3 q4 q5 q6 q7 : Pos} {res : Str}
    (F : Fr h₀ L s.heap m) (hm : m (Str.ofString "platform") = some (.str U t)) (hl : U.length ≤ 4000) (hp : 0 < U.length)
    (B : Below (AR 600 5000 outer) base outer h₀) (X : (hd.heap_39 w.params).In h₀) (T : Top p0 l0 mean mg mb h₀)
    (hE : PassesOwn (model PySem.Challenge.rw_mg0046_01.row.prog w) ((AR 600 5000 outer).deeper (envOf (Str.ofString "_platform") platScope L 35 (.ref 34))) (envOf (Str.ofString "_platform") platScope L 35 (.ref 34)) E)
    (hres : ((Txt.item U (-1) == Str.ofString "-") = false ∧ res = U) ∨ ((Txt.item U (-1) == Str.ofString "-") = true ∧ Txt.slice U none (some (-1)) = res ∧ 0 < res.length ∧ res.length ≤ 4000 ∧ (Txt.item res (-1) == Str.ofString "-") = false))
    (k : ∀ h' tk t', Fr h₀ L h' (fun y => if y = Str.ofString "platform" then some (.str res t') else m y) → Q .next { s with heap := h', toks := tk }) :
    wpAny (model PySem.Challenge.rw_mg0046_01.row.prog w) ((AR 600 5000 outer).deeper (envOf (Str.ofString "_platform") platScope L 35 (.ref 34))) (exec (.While (Expr.BoolOp BoolOp.And [Expr.Name (Str.ofString "platform") p1, ((Expr.Name (Str.ofString "platform") p2).Subscript (Expr.UnaryOp UnaryOp.USub (Expr.Constant (Const.int 1) 0 p3) p4) p5).Compare [CmpOp.Eq] [Expr.Constant (Const.str (Str.ofString "-")) 0 p6] p7] p8) [.Assign [Expr.Name (Str.ofString "platform") q1] (Expr.Subscript (Expr.Name (Str.ofString "platform") q2) (Expr.Slice none (some (Expr.UnaryOp UnaryOp.USub (Expr.Constant (Const.int 1) 0 q3) q4)) none q5) q6) q7] [] p9) (envOf (Str.ofString "_platform") platScope L 35 (.ref 34))) Q E s := by
  have e : m = fun y => if y = Str.ofString "platform" then some (.str U t) else m y := by
    funext y
    by_cases h : y = Str.ofString "platform"
    · rw [if_pos h, h, hm]
    · rw [if_neg h]
  rw [e] at F
  exact loop2 hl hp B F X T hE hres k
end Mine
end

section
open PySem PySem.Calls PySem.W PyProof.Rows
set_option maxRecDepth 100000
set_option maxHeartbeats 8000000
namespace Mine
theorem fillit5 (w : World) (h : Heap) (X : (hd.heap_39 w.params).In h) : PySem.Challenge.rw_mg0046_01 = PySem.Challenge.rw_mg0046_01 ∧ (hd.heap_39 w.params).In h := by
  k_fill; exact ⟨rfl, X⟩
local macro_rules | `(tactic| k_room) => `(tactic| exact Nat.le_of_ble_eq_true rfl)

theorem code34 {w : World} {h : Heap} {ps : Array Value} (X : (hd.heap_39 w.params).In h) (hps : h.get? 30 = some (tobj ps)) (hT : TriplesOk ps.toList) : h.IsCode 34 30 ps ∧ h.TableAt 34 30 ps := by
  w_on
  k_fill
  refine ⟨⟨_, _, _, _, _, _, _, _, _, _, X 34 _ (by k_is), rfl, rfl, rfl, rfl, rfl, rfl, hps, rfl, hT, by decide⟩, ⟨⟨_, _, X 34 _ (by k_is), rfl, rfl, rfl⟩, hps⟩⟩

theorem quiet_of {prog : Program} {w : World} {scope : Scope} {cl : List (Str × Addr)} {C : Addr} {code : Value} {env : Env} {fp wr : List Addr} {l : List (Str × Tok)} {href : Heap} {elt : PySem.Expr} {p1 p2 p3 : Pos} {pl : Sem Bool}
    (hs : scope = { kind := .function, names := [(Str.ofString ".0", .local), (Str.ofString "x", .local)], isGenerator := true, isCoroutine := false }) (hl : ∀ p ∈ l, p.1.length < 1000)
    (he : eval elt (genEnv scope cl C code builtinsNs env) = (do
      let ov ← eval (.Name (Str.ofString "x") p1) (genEnv scope cl C code builtinsNs env)
      standAt p2.atName
      let (f, first) ← holding [ov] (getMethod ov (Str.ofString "strip") pl)
      callWith p3 f first (backTo p3 (starEach [] (genEnv scope cl C code builtinsNs env))) [])) :
    QuietGen prog w (genEnv scope cl C code builtinsNs env) (Str.ofString "x") [] elt fp wr
      (fun i v => ∃ p, (full l)[i]? = some p ∧ v = .str p.1 p.2) (fun _ => true) (fun i y => ∃ p t, (full l)[i]? = some p ∧ y = .str (Txt.strip p.1) t) href where
  tests := fun A' E' i v s₂ m₂ _ _ _ _ _ => wpAny_pure ⟨rfl, s₂.heap, s₂.toks, rfl, fun _ _ e => e⟩
  elt := fun A' E' i v s₂ m₂ _ hP _ hns hm _ => by
    subst hs
    obtain ⟨p, hp, rfl⟩ := hP
    have hlen : p.1.length < 1000 := hl p (List.mem_filter.mp (List.mem_of_getElem? hp)).1
    rw [he]
    refine wpAny_bind (wpAny_Name (wpAny_loadName_local rfl rfl hns hm ?_) (by decide))
    refine wpAny_bind (wpAny_standAt ?_)
    refine wpAny_bind (wpAny_holding ?_)
    refine GM.strip (callWith_method0 ?_)
    refine SC.strip (fun t' k => ⟨⟨p, t', hp, rfl⟩, s₂.heap, k, rfl, fun _ _ e => e⟩) (by rw [sizeLine_eq]; omega)

theorem passing_all (n : Nat) : passing (fun _ => true) n 0 = List.range n := by
  unfold passing; rw [List.drop_zero, List.filter_eq_self]; intros; rfl

theorem join_full {prog : Program} {w : World} {A : Around} {E : Value → Shared → Prop} {s : Shared} {h₀ : Heap} {L a : Addr} {m : Str → Option Value} {Q : Value → Shared → Prop} {sep : Str} {t : Tok} {l : List (Str × Tok)} (Fh : Fr h₀ L s.heap m) (G : AllBare s.gens)
    (X : Gen prog w A L a (passing (fun _ => true) (full l).length 0).length (fun j y => ∃ i, (passing (fun _ => true) (full l).length 0)[j]? = some i ∧ ∃ p t, (full l)[i]? = some p ∧ y = .str (Txt.strip p.1) t) s)
    (hok : JoinOk sep ((full l).map fun p => Txt.strip p.1) = true) (hn : (full l).length ≤ 100)
    (hQ : ∀ h' gs' tk' t', Fr h₀ L h' m → AllBare gs' → Q (.str (Txt.join sep ((full l).map fun p => Txt.strip p.1)) t') { s with heap := h', gens := gs', toks := tk' }) :
    wpAny (model prog w) A (call (.builtin "str.join") [.str sep t, .ref a]) Q E s := by
  rw [passing_all, List.length_range] at X
  have e : (List.range (full l).length).map (fun j => Txt.strip ((full l).getD j default).1) = (full l).map fun p => Txt.strip p.1 := by
    apply List.ext_getElem?
    intro j
    rw [List.getElem?_map, List.getElem?_map]
    by_cases hj : j < (full l).length
    · rw [List.getElem?_range hj, List.getElem?_eq_getElem hj]
      simp [List.getD, List.getElem?_eq_getElem hj]
    · rw [List.getElem?_eq_none (by simpa using hj), List.getElem?_eq_none (by simpa using hj)]
      rfl
  refine join_G (sep := sep) Fh G X (fun j => Txt.strip ((full l).getD j default).1) (fun j v hv => ?_) (by rw [e]; exact hok) (by rw [e]; exact hQ) (by rw [sizeLine_eq]; omega)
  obtain ⟨i, hi, p, u, hp, rfl⟩ := hv
  have hji : i = j := by
    by_cases hj : j < (full l).length
    · rw [List.getElem?_range hj] at hi; exact (Option.some.inj hi).symm
    · rw [List.getElem?_eq_none (by simpa using hj)] at hi; cases hi
  subst hji
  exact ⟨u, by simp [List.getD, hp]⟩

theorem full_le (l : List (Str × Tok)) : (full l).length ≤ l.length := List.length_filter_le _ _

theorem txt_join (sep : Str) (l : List Str) : Txt.join sep l = Str.join sep l := StrLaws.glued_eq_join sep l
structure PlatOk (P U V : Str) : Prop where
  sp : Txt.replace P (Str.ofString " ") (Str.ofString "_") = U
  len : U.length ≤ 4000
  r1 : Txt.replace U (Str.ofString "/") (Str.ofString "-") = U
  r2 : Txt.replace U (Str.ofString "\\") (Str.ofString "-") = U
  r3 : Txt.replace U (Str.ofString ":") (Str.ofString "-") = U
  r4 : Txt.replace U (Str.ofString ";") (Str.ofString "-") = U
  r5 : Txt.replace U (Str.ofString "\"") (Str.ofString "-") = U
  r6 : Txt.replace U (Str.ofString "(") (Str.ofString "-") = U
  r7 : Txt.replace U (Str.ofString ")") (Str.ofString "-") = U
  unk : Txt.replace U (Str.ofString "unknown") (Str.ofString "") = U
  dd : Txt.replace U (Str.ofString "--") (Str.ofString "-") = V
  dd2 : Txt.replace V (Str.ofString "--") (Str.ofString "-") = V
  vlen : V.length ≤ 4000
theorem rep_fits {x z : Str} (h : x.length ≤ 4000) (hz : z.length ≤ 1) : x.length + (x.length + 1) * z.length ≤ 16777216 := by
  have := Nat.mul_le_mul_left (x.length + 1) hz
  omega
local macro_rules | `(tactic| walk_at "call builtin:str.replace") => `(tactic| (k_here; (show wpAny _ _ (call (Value.builtin "str.replace") [Value.str _ _, Value.str _ _, Value.str _ _]) _ _ _); (rename PlatOk _ _ _ => pk9); (refine SC.replace (by simp) (by simp) (by simp) (by decide +kernel) (rep_fits (by first | assumption | exact pk9.len | exact pk9.vlen) (by decide +kernel)) ?_); intro _ _; (first | rw [pk9.sp] | rw [pk9.r1] | rw [pk9.r2] | rw [pk9.r3] | rw [pk9.r4] | rw [pk9.r5] | rw [pk9.r6] | rw [pk9.r7] | rw [pk9.unk] | rw [pk9.dd] | rw [pk9.dd2])))
def StopMark (P : Prop) : Prop := P
theorem stop_here {P : Prop} (h : StopMark P) : P := h
local macro_rules | `(tactic| walk_at "exec While BoolOp") => `(tactic| (refine stop_here ?_))
local macro_rules | `(tactic| walk_at "exec While Constant") => `(tactic| (refine stop_here ?_))
local macro_rules | `(tactic| walk_at "WhlRest") => `(tactic| (k_dflt (refine' whl_turn ?hE ?_; (case hE => first | passes_own | with_unfolding_all passes_own))))
local macro_rules | `(tactic| walk_at "execs cons") => `(tactic| ((with_reducible refine wpAny_execs_cons ?_); try dsimp only))
theorem fp_lt {S L J : Nat} (h1 : S ≤ L) (h2 : L < J) : J + 1 < J + 2 ∧ J < J + 2 ∧ S < J + 2 := by omega
theorem fp_ne {S L J : Nat} (h0 : 30 < S) (h1 : S ≤ L) (h2 : L < J) : 30 ≠ J + 1 ∧ 30 ≠ J ∧ 30 ≠ S := by omega
theorem sum_strip : ∀ q : List (Str × Tok), (∀ p ∈ q, p.1.length < 1000) → ((q.map fun p => Txt.strip p.1).map (·.length)).sum ≤ 1000 * q.length
  | [], _ => by simp
  | p :: q, h => by
    have h1 := sum_strip q fun x hx => h x (.tail _ hx)
    have h2 := h p (.head _)
    have h3 := len_strip p.1
    simp only [List.map_cons, List.sum_cons, List.length_cons] at h1 ⊢
    omega
theorem ok_full {l : List (Str × Tok)} (hl : ∀ p ∈ l, p.1.length < 1000) (h3 : l.length ≤ 3) : JoinOk (Str.ofString "-") ((full l).map fun p => Txt.strip p.1) = true := by
  have h1 := sum_strip (full l) fun p hp => hl p (List.mem_filter.mp hp).1
  have h2 := full_le l
  refine joinOk_of_weight ?_ (by decide +kernel)
  rw [List.length_map]
  omega
theorem len_full {l : List (Str × Tok)} (hl : ∀ p ∈ l, p.1.length < 1000) (h3 : l.length ≤ 3) : (Txt.join (Str.ofString "-") ((full l).map fun p => Txt.strip p.1)).length ≤ 4000 := by
  have h1 := sum_strip (full l) fun p hp => hl p (List.mem_filter.mp hp).1
  have h2 := full_le l
  have h4 := StrLaws.join_length_le (Str.ofString "-") ((full l).map fun p => Txt.strip p.1)
  have h5 : (Str.ofString "-").length = 1 := by decide +kernel
  rw [List.length_map, h5] at h4
  have h6 : (Txt.join (Str.ofString "-") ((full l).map fun p => Txt.strip p.1)).length = (Str.join (Str.ofString "-") ((full l).map fun p => Txt.strip p.1)).length := by rw [txt_join]
  omega

theorem plat_does (w : World) (mean : ExcName → Option Value) (mg mb : Str → Option Value) (x y z : Str) (tx ty tz : Tok) (hx : x.length < 500) (hy : y.length < 500) (hz : z.length < 500) (U V XX res : Str) (hcase : ((V == U) = true ∧ XX = U) ∨ ((V == U) = false ∧ XX = V)) (hUl : XX.length ≤ 4000) (hUp : 0 < XX.length)
    (hres : ((Txt.item XX (-1) == Str.ofString "-") = false ∧ res = XX) ∨ ((Txt.item XX (-1) == Str.ofString "-") = true ∧ Txt.slice XX none (some (-1)) = res ∧ 0 < res.length ∧ res.length ≤ 4000 ∧ (Txt.item res (-1) == Str.ofString "-") = false)) (hpk : PlatOk (Txt.join (Str.ofString "-") ((full [(x, tx), (y, ty), (z, tz)]).map fun p => Txt.strip p.1)) U V) :
    DoesG w mean mg mb 600 5000 35 [.str x tx, .str y ty, .str z tz] (fun _ => True) (ι := Tok) (fun t => .str res t) (fun _ => []) (fun _ => True) := by
  intro base outer s g ps R B XB TB hk hsz h30 hps hT hG _ hret
  w_on
  have B0 := below_up B hk
  have X0 := XB.keeps B0.stays
  have T0 := TB.keeps B0.stays
  have hb30 : base.get? 30 = none := kts_none B.stays h30
  clear B
  refine' Mine.enterV (pn := Str.ofString "args") X0 T0 ?k6 ?k7 ?k8 ?k9 (by simp) ?kB ?_ ?c2 ?c3 ?c4 ?c5
  (case k6 => k_is)
  (case k7 => k_is)
  (case k8 => exact Nat.le_of_ble_eq_true rfl)
  (case k9 => rfl)
  (case kB => rfl)
  (case c2 => exact rfl)
  (case c3 => exact rfl)
  (case c4 => exact rfl)
  (case c5 => decide)
  intro L' h' tk' F' N'
  (try dsimp only)
  (try k_fold)
  refine wpCal.of ?_
  k_steps
  obtain ⟨hc34, ht34⟩ := code34 X0 hps hT
  have hbm := T0.bmain
  obtain ⟨bm, ob, b1, b2, b3, b4, b5, b6⟩ := hbm
  refine genexp_G (L := L') (m := fun y => List.lookup y [(Str.ofString "args", Value.ref s.heap.objs.size)].reverse) (Based.start hc34 ht34 (by decide)) (mg := mg) (bm := bm) (ob := ob) ⟨T0.g, b1, b2, b3, b4, b5, b6⟩ rfl rfl rfl rfl (by decide) rfl rfl rfl (Nat.le_of_ble_eq_true rfl) ?_ (fun _ => rfl)
  k_steps
  have hl9 : ∀ p ∈ [(x, tx), (y, ty), (z, tz)], p.1.length < 1000 := by
    intro p hp
    simp only [List.mem_cons, List.not_mem_nil, or_false] at hp
    rcases hp with rfl | rfl | rfl <;> (dsimp only; omega)
  have hLs := F'.above
  have hLh := F'.ns.lt
  have h30s := Heap.lt_size hps
  have htup : h'.IsTuple s.heap.objs.size (strValues [(x, tx), (y, ty), (z, tz)]).toArray := ⟨_, News.get N' (.head _), rfl, 0, rfl⟩
  refine call_filter htup ?_
  intro h9 f1 f2 f3 f4
  have hne1 : h'.objs.size + 1 ≠ h'.objs.size := Nat.succ_ne_self _
  have hne2 : s.heap.objs.size ≠ h'.objs.size := Nat.ne_of_lt (Nat.lt_of_le_of_lt hLs hLh)
  have st9 : FiltAt (h'.objs.size + 1) h'.objs.size s.heap.objs.size [(x, tx), (y, ty), (z, tz)] 0 h9 := ⟨f1, f2, htup.at fun o e => f4 _ o e⟩
  refine (walks_filter (l := [(x, tx), (y, ty), (z, tz)]) rfl hne1 hne2 hl9).self 0 _ _ _ ⟨0, st9, rfl⟩ ?_
  refine ⟨F'.keeps f4, hG, T0.nolimit.keeps (fun b o e => f4 b o (F'.keep b o e)), h'.objs.size + 1, [h'.objs.size + 1, h'.objs.size, s.heap.objs.size], [h'.objs.size], (full [(x, tx), (y, ty), (z, tz)]).length, _, _, (fun _ => true), (fun i y_1 => ∃ p t, (full [(x, tx), (y, ty), (z, tz)])[i]? = some p ∧ y_1 = .str (Txt.strip p.1) t), rfl, (fun A' hA => walks_filter hA hne1 hne2 hl9), ⟨0, st9, rfl⟩, ?_, ?_, ?_, ?_, ?_⟩
  · intro b hb
    simp only [List.mem_cons, List.not_mem_nil, or_false] at hb
    show b < h9.objs.size
    rw [f3]
    have hz9 := fp_lt hLs hLh; rcases hb with rfl | rfl | rfl; exact hz9.1; exact hz9.2.1; exact hz9.2.2
  · intro hb
    simp only [List.mem_cons, List.not_mem_nil, or_false] at hb
    have hz9 := fp_ne h30s hLs hLh; rcases hb with e | e | e; exact hz9.1 e; exact hz9.2.1 e; exact hz9.2.2 e
  · intro b hb
    obtain rfl := List.mem_singleton.mp hb
    exact hLh
  · intro code h₃ href _ _ _
    exact quiet_of rfl hl9 rfl
  intro g7 ps7 a7 h7 tk7 gs7 hoth hP7 hT7 F7 hG7 X7
  have B7 : Below (AR 600 5000 outer) base outer g7 := ⟨B0.stack, fun b o e => hoth b o (fun q => by rw [q, hb30] at e; cases e) (B0.stays b o e), B0.frames.of_keeps fun b o e hd => ⟨o, hoth b o (fun q => by rw [q, hps] at e; cases e; exact (hd _ rfl).elim) e, rfl⟩⟩
  have XX7 := XB.keeps B7.stays
  have TT7 := TB.keeps B7.stays
  have N7 : News g7 L' h7 [] := News.nil
  clear X0 T0 B0 N' F' hc34 ht34 f1 f2 f3 f4 st9 htup b1 b2 b3 b4 b5 b6
  k_steps
  show wpAny _ _ (call (.builtin "str.join") [.str (Str.ofString "-") _, .ref a7]) _ _ _
  refine join_full F7 hG7 X7 (ok_full hl9 (by simp)) (Nat.le_trans (full_le _) (by simp)) ?_
  intro h6 gs6 tk6 t6 F6 G6
  have hlen6 := len_full hl9 (by simp)
  have N6 : News g7 L' h6 [] := News.nil
  clear X7 F7 N7
  generalize Txt.join (Str.ofString "-") ((full [(x, tx), (y, ty), (z, tz)]).map fun p => Txt.strip p.1) = P0 at *
  k_steps
  all_goals (try dsimp only)
  unfold StopMark
  rcases hcase with ⟨hUV, hX⟩ | ⟨hUV, hX⟩
  · subst hX
    refine whl_start 100 ?_
    k_steps
    all_goals (try dsimp only)
    unfold StopMark
    refine' loop2m (m := _) (by assumption) rfl hUl hUp B7 XX7 TT7 ?kE hres ?_
    (case kE => first | passes_own | with_unfolding_all passes_own)
    intro h2 tk2 t2 F2
    have N2 : News g7 L' h2 [] := News.nil
    dsimp only
    k_steps
    (try dsimp only)
    exact hret _ g _ _ _ _ KtsTurn.refl (fun b o e => F2.keep b o (hoth b o (fun q => by rw [q, h30] at e; cases e) (hk b o e))) (F2.keep _ _ hP7) hT7 G6 (List.forall_mem_nil _) True.intro
  · subst hX
    have hVV : (XX == XX) = true := beq_self_eq_true _
    refine whl_start 100 ?_
    k_steps
    all_goals (try dsimp only)
    unfold StopMark
    refine' loop2m (m := _) (by assumption) rfl hUl hUp B7 XX7 TT7 ?kE hres ?_
    (case kE => first | passes_own | with_unfolding_all passes_own)
    intro h2 tk2 t2 F2
    have N2 : News g7 L' h2 [] := News.nil
    dsimp only
    k_steps
    (try dsimp only)
    exact hret _ g _ _ _ _ KtsTurn.refl (fun b o e => F2.keep b o (hoth b o (fun q => by rw [q, h30] at e; cases e) (hk b o e))) (F2.keep _ _ hP7) hT7 G6 (List.forall_mem_nil _) True.intro


theorem plat1_does (w : World) (mean : ExcName → Option Value) (mg mb : Str → Option Value) (x y z : Str) (tx ty tz : Tok) (hx : x.length < 500) (hy : y.length < 500) (hz : z.length < 500) (U V res : Str) (hUV : (V == U) = true) (hUl : U.length ≤ 4000) (hUp : 0 < U.length)
    (hres : ((Txt.item U (-1) == Str.ofString "-") = false ∧ res = U) ∨ ((Txt.item U (-1) == Str.ofString "-") = true ∧ Txt.slice U none (some (-1)) = res ∧ 0 < res.length ∧ res.length ≤ 4000 ∧ (Txt.item res (-1) == Str.ofString "-") = false)) (hpk : PlatOk (Txt.join (Str.ofString "-") ((full [(x, tx), (y, ty), (z, tz)]).map fun p => Txt.strip p.1)) U V) :
    DoesG w mean mg mb 600 5000 35 [.str x tx, .str y ty, .str z tz] (fun _ => True) (ι := Tok) (fun t => .str res t) (fun _ => []) (fun _ => True) :=
  plat_does w mean mg mb x y z tx ty tz hx hy hz U V U res (.inl ⟨hUV, rfl⟩) hUl hUp hres hpk
theorem plat2_does (w : World) (mean : ExcName → Option Value) (mg mb : Str → Option Value) (x y z : Str) (tx ty tz : Tok) (hx : x.length < 500) (hy : y.length < 500) (hz : z.length < 500) (U V res : Str) (hUV : (V == U) = false) (_ : (V == V) = true) (hUl : V.length ≤ 4000) (hUp : 0 < V.length)
    (hres : ((Txt.item V (-1) == Str.ofString "-") = false ∧ res = V) ∨ ((Txt.item V (-1) == Str.ofString "-") = true ∧ Txt.slice V none (some (-1)) = res ∧ 0 < res.length ∧ res.length ≤ 4000 ∧ (Txt.item res (-1) == Str.ofString "-") = false)) (hpk : PlatOk (Txt.join (Str.ofString "-") ((full [(x, tx), (y, ty), (z, tz)]).map fun p => Txt.strip p.1)) U V) :
    DoesG w mean mg mb 600 5000 35 [.str x tx, .str y ty, .str z tz] (fun _ => True) (ι := Tok) (fun t => .str res t) (fun _ => []) (fun _ => True) :=
  plat_does w mean mg mb x y z tx ty tz hx hy hz U V V res (.inr ⟨hUV, rfl⟩) hUl hUp hres hpk

end Mine
end

section
open PySem PySem.Calls PySem.W PyProof.Rows PySem.StrLaws
set_option maxRecDepth 100000
set_option maxHeartbeats 4000000
namespace Mine

theorem At.mem {x y : Str} {hi i d : Nat} (h : StrLaws.At x y hi i) (hd : d ∈ y.cps.toList) : d ∈ x.cps.toList := by
  have h1 := h.2
  rw [StrLaws.subAt_eq] at h1
  rw [← eq_of_beq h1] at hd
  exact List.mem_of_mem_drop (List.mem_of_mem_take hd)
theorem replace_no {x y z : Str} (h : ∀ i, ¬ StrLaws.At x y x.length i) : Txt.replace x y z = x := by
  obtain ⟨f, hc⟩ := StrLaws.occ_chain x y (x.length + 1)
  unfold Txt.replace
  cases ho : Builtin.Str.occurrences x y 0 x.length (x.length + 1) with
  | nil => rfl
  | cons i r =>
    rw [ho] at hc
    exact absurd hc.2.1 (h i)
theorem replace_absent {x y z : Str} {d : Nat} (hd : d ∈ y.cps.toList) (h : d ∉ x.cps.toList) : Txt.replace x y z = x :=
  replace_no fun i a => h (At.mem a hd)

/-- joining at the level of lists -/
def jL (sep : List Nat) : List (List Nat) → List Nat
  | [] => []
  | [p] => p
  | p :: q :: r => p ++ sep ++ jL sep (q :: r)
theorem join_list' (sep : Str) : ∀ l : List Str, (Str.join sep l).cps.toList = jL sep.cps.toList (l.map fun x => x.cps.toList)
  | [] => rfl
  | [p] => rfl
  | p :: q :: r => by
    have ih := join_list' sep (q :: r)
    show (p ++ sep ++ Str.join sep (q :: r)).cps.toList = p.cps.toList ++ sep.cps.toList ++ jL sep.cps.toList ((q :: r).map fun x => x.cps.toList)
    rw [← ih, Str.cps_append, Str.cps_append, Array.toList_append, Array.toList_append]
theorem txt_join_list (sep : Str) (l : List Str) : (Txt.join sep l).cps.toList = jL sep.cps.toList (l.map fun x => x.cps.toList) := by
  rw [show Txt.join sep l = Str.join sep l from StrLaws.glued_eq_join sep l]
  exact join_list' sep l

theorem first_eq {c : Nat} : ∀ {p q s t : List Nat}, c ∉ p → c ∉ q → p ++ c :: s = q ++ c :: t → p = q ∧ s = t
  | [], [], _, _, _, _, h => by cases h; exact ⟨rfl, rfl⟩
  | [], b :: q, _, _, _, hq, h => by
    injection h with h1 _
    exact absurd (List.mem_cons.mpr (.inl h1)) hq
  | a :: p, [], _, _, hp, _, h => by
    injection h with h1 _
    exact absurd (List.mem_cons.mpr (.inl h1.symm)) hp
  | a :: p, b :: q, _, _, hp, hq, h => by
    injection h with h1 h2
    obtain ⟨e1, e2⟩ := first_eq (fun m => hp (.tail _ m)) (fun m => hq (.tail _ m)) h2
    exact ⟨by rw [h1, e1], e2⟩
theorem jL_inj {c : Nat} : ∀ {ps qs : List (List Nat)}, ps ≠ [] → qs ≠ [] → (∀ p ∈ ps, c ∉ p) → (∀ q ∈ qs, c ∉ q) → jL [c] ps = jL [c] qs → ps = qs
  | [], _, h, _, _, _, _ => absurd rfl h
  | _, [], _, h, _, _, _ => absurd rfl h
  | [p], [q], _, _, _, _, h => by rw [show p = q from h]
  | [p], q :: q' :: r, _, _, hp, _, h => by
    have h' : p = q ++ [c] ++ jL [c] (q' :: r) := h
    exact absurd (by rw [h']; simp) (hp p (.head _))
  | p :: p' :: r, [q], _, _, _, hq, h => by
    have h' : p ++ [c] ++ jL [c] (p' :: r) = q := h
    exact absurd (by rw [← h']; simp) (hq q (.head _))
  | p :: p' :: r, q :: q' :: r', _, _, hp, hq, h => by
    have h' : p ++ [c] ++ jL [c] (p' :: r) = q ++ [c] ++ jL [c] (q' :: r') := h
    rw [List.append_assoc, List.append_assoc] at h'
    obtain ⟨e1, e2⟩ := first_eq (hp p (.head _)) (hq q (.head _)) h'
    have ih := jL_inj (ps := p' :: r) (qs := q' :: r') (by simp) (by simp) (fun x hx => hp x (.tail _ hx)) (fun x hx => hq x (.tail _ hx)) e2
    rw [e1, ih]
theorem split_ne (x y : Str) : Txt.split x y ≠ [] := by
  unfold Txt.split
  split
  · simp
  split
  · simp
  · rw [StrLaws.partsBetween_eq]
    obtain ⟨p, r, e⟩ := StrLaws.partsFrom_ne x y.length 0 (Builtin.Str.occurrences x y 0 x.length (x.length + 1))
    rw [e]; simp
theorem map_str_inj : ∀ {a b : List Str}, (a.map fun x => x.cps.toList) = (b.map fun x => x.cps.toList) → a = b
  | [], [], _ => rfl
  | [], _ :: _, h => by cases h
  | _ :: _, [], h => by cases h
  | x :: a, y :: b, h => by
    simp only [List.map_cons, List.cons.injEq] at h
    rw [str_ext h.1, map_str_inj h.2]
/-- split at one sign: the only way to cut a text into parts free of it -/
theorem split_is {x : Str} {c : Nat} {qs : List Str} (hne : qs ≠ []) (hq : ∀ q ∈ qs, c ∉ q.cps.toList) (hx : x.cps.toList = jL [c] (qs.map fun x => x.cps.toList)) : Txt.split x ⟨#[c]⟩ = qs := by
  refine map_str_inj (jL_inj (c := c) (by simpa using split_ne x _) (by simpa using hne) ?_ ?_ ?_)
  · intro p hp
    obtain ⟨q, hq', rfl⟩ := List.mem_map.mp hp
    exact StrLaws.split_free x c q hq'
  · intro p hp
    obtain ⟨q, hq', rfl⟩ := List.mem_map.mp hp
    exact hq q hq'
  · have e := StrLaws.join_split x ⟨#[c]⟩
    have e2 := join_list' ⟨#[c]⟩ (Txt.split x ⟨#[c]⟩)
    rw [e] at e2
    rw [← hx]
    exact e2.symm

def sub1 (c d : Nat) (a : Nat) : Nat := if a = c then d else a
theorem map_free {c d : Nat} : ∀ {l : List Nat}, c ∉ l → l.map (sub1 c d) = l
  | [], _ => rfl
  | a :: l, h => by
    rw [List.map_cons, map_free fun m => h (.tail _ m)]
    unfold sub1
    rw [if_neg (fun e => h (by rw [e]; exact .head _))]
theorem jL_sub {c d : Nat} : ∀ {ps : List (List Nat)}, (∀ p ∈ ps, c ∉ p) → jL [d] ps = (jL [c] ps).map (sub1 c d)
  | [], _ => rfl
  | [p], h => (map_free (h p (.head _))).symm
  | p :: q :: r, h => by
    have ih := jL_sub (d := d) (ps := q :: r) fun x hx => h x (.tail _ hx)
    show p ++ [d] ++ jL [d] (q :: r) = (p ++ [c] ++ jL [c] (q :: r)).map (sub1 c d)
    rw [List.map_append, List.map_append, ih, map_free (h p (.head _))]
    simp [sub1]
theorem und_list (x : Str) (c d : Nat) : (Str.join ⟨#[d]⟩ (Txt.split x ⟨#[c]⟩)).cps.toList = x.cps.toList.map (sub1 c d) := by
  have e := join_list' ⟨#[c]⟩ (Txt.split x ⟨#[c]⟩)
  rw [StrLaws.join_split] at e
  rw [join_list']
  rw [e]
  refine jL_sub ?_
  intro p hp
  obtain ⟨q, hq', rfl⟩ := List.mem_map.mp hp
  exact StrLaws.split_free x c q hq'
theorem replace_list (x : Str) (c d : Nat) : (Txt.replace x ⟨#[c]⟩ ⟨#[d]⟩).cps.toList = x.cps.toList.map (sub1 c d) := by
  rw [StrLaws.replace_one]; exact und_list x c d
theorem sp_eq : Str.ofString " " = ⟨#[32]⟩ := by decide +kernel
theorem us_eq : Str.ofString "_" = ⟨#[95]⟩ := by decide +kernel
theorem hy_eq : Str.ofString "-" = ⟨#[45]⟩ := by decide +kernel
theorem dot_eq : Str.ofString "." = ⟨#[46]⟩ := by decide +kernel
theorem undF_list (x : Str) : (undF x).cps.toList = x.cps.toList.map (sub1 32 95) := by
  unfold undF
  rw [sp_eq, us_eq, show Txt.join ⟨#[95]⟩ (Txt.split x ⟨#[32]⟩) = Str.join ⟨#[95]⟩ (Txt.split x ⟨#[32]⟩) from StrLaws.glued_eq_join _ _]
  exact und_list x 32 95

/-- the signs that occur -/
def alpha : List Nat := [9, 32, 43, 46, 48, 49, 50, 51, 52, 53, 54, 55, 56, 57, 68, 71, 79, 80, 83, 86, 87, 95, 97, 98, 99, 100, 101, 105, 108, 110, 111, 114, 115, 117, 118, 119]
def Good (l : List Nat) : Prop := ∀ c ∈ l, c ∈ alpha
theorem alpha_all {p : Nat → Bool} (h : alpha.all p = true) {c : Nat} (hc : c ∈ alpha) : p c = true := List.all_eq_true.mp h c hc
theorem space_is {c : Nat} (h : c ∈ alpha) : Unicode.isSpace c = isB c := eq_of_beq (alpha_all (p := fun c => Unicode.isSpace c == isB c) (by decide +kernel) h)

theorem takeWhile_congr {p q : Nat → Bool} : ∀ {l : List Nat}, (∀ c ∈ l, p c = q c) → l.takeWhile p = l.takeWhile q
  | [], _ => rfl
  | a :: l, h => by
    rw [List.takeWhile_cons, List.takeWhile_cons, h a (.head _), takeWhile_congr fun c hc => h c (.tail _ hc)]
theorem drop_take_while (p : Nat → Bool) : ∀ l : List Nat, l.drop (l.takeWhile p).length = l.dropWhile p
  | [] => rfl
  | a :: l => by
    rw [List.takeWhile_cons, List.dropWhile_cons]
    cases p a with
    | true => simpa using drop_take_while p l
    | false => rfl
theorem strip_list {x : Str} (h : Good x.cps.toList) : (Txt.strip x).cps.toList = stripL x.cps.toList := by
  have key : (Builtin.Str.strSub x (stripLo Unicode.isSpace true x) (stripHi Unicode.isSpace true x (stripLo Unicode.isSpace true x))).cps.toList = stripL x.cps.toList := by
    rw [StrLaws.strSub_toList]
    unfold stripLo stripHi
    simp only [if_true]
    rw [takeWhile_congr (l := x.cps.toList) (q := isB) (fun c hc => space_is (h c hc)), drop_take_while]
    rw [takeWhile_congr (l := (x.cps.toList.dropWhile isB).reverse) (q := isB) (fun c hc => space_is (h c (List.dropWhile_subset _ (List.mem_reverse.mp hc))))]
    unfold stripL
    rw [← drop_take_while isB (x.cps.toList.dropWhile isB).reverse, List.drop_reverse, List.reverse_reverse]
    congr 1
    have h1 : (x.cps.toList.dropWhile isB).length + (x.cps.toList.takeWhile isB).length = x.length := by
      have := congrArg List.length (List.takeWhile_append_dropWhile (p := isB) (l := x.cps.toList))
      rw [List.length_append, toList_length] at this
      omega
    have h2 : ((x.cps.toList.dropWhile isB).reverse.takeWhile isB).length ≤ (x.cps.toList.dropWhile isB).length := by
      have := (List.takeWhile_sublist (p := isB) (l := (x.cps.toList.dropWhile isB).reverse)).length_le
      rwa [List.length_reverse] at this
    omega
  unfold Txt.strip Txt.stripBy
  split
  · rename_i hs
    unfold stripSame at hs
    rw [Bool.and_eq_true] at hs
    have e1 := eq_of_beq hs.1
    have e2 := eq_of_beq hs.2
    rw [e2, e1, StrLaws.sub_whole] at key
    exact key
  · exact key
theorem strip_is {x : Str} (h : Good x.cps.toList) : Txt.strip x = stripF x := str_ext ((strip_list h).trans (stripF_list x).symm)
end Mine
end

section
open PySem PySem.Calls PySem.W PyProof.Rows PySem.StrLaws
set_option maxRecDepth 100000
set_option maxHeartbeats 4000000
namespace Mine

/-- no two hyphens side by side -/
def ndd : List Nat → Bool
  | a :: b :: r => !(a == 45 && b == 45) && ndd (b :: r)
  | _ => true
theorem ndd_at : ∀ {l : List Nat}, ndd l = true → ∀ i, l[i]? = some 45 → l[i + 1]? = some 45 → False
  | [], _, i, h, _ => by simp at h
  | [a], _, i, h, h2 => by simp at h2
  | a :: b :: r, h, 0, h1, h2 => by
    simp only [List.getElem?_cons_zero, List.getElem?_cons_succ, Option.some.injEq] at h1 h2
    subst h1; subst h2
    simp [ndd] at h
  | a :: b :: r, h, i + 1, h1, h2 => by
    unfold ndd at h
    rw [Bool.and_eq_true] at h
    exact ndd_at h.2 i (by simpa using h1) (by simpa using h2)
theorem ndd_free : ∀ {l : List Nat}, 45 ∉ l → ndd l = true
  | [], _ => rfl
  | [a], _ => rfl
  | a :: b :: r, h => by
    unfold ndd
    rw [ndd_free fun m => h (.tail _ m), Bool.and_true, beq_eq_false_iff_ne.mpr (fun e => h (by rw [e]; exact .head _))]
    rfl
/-- the text opens with no hyphen -/
def opn : List Nat → Bool
  | a :: _ => a != 45
  | [] => true
theorem ndd_mid : ∀ {p r : List Nat}, 45 ∉ p → opn r = true → ndd r = true → ndd (p ++ 45 :: r) = true
  | [], [], _, _, _ => rfl
  | [], b :: r, _, h1, h2 => by
    show (!((45 : Nat) == 45 && b == 45) && ndd (b :: r)) = true
    unfold opn at h1
    rw [h2, Bool.and_true, beq_eq_false_iff_ne.mpr (bne_iff_ne.mp h1)]
    rfl
  | [a], r, hp, h1, h2 => by
    show (!(a == 45 && (45 : Nat) == 45) && ndd (45 :: r)) = true
    have ih := ndd_mid (p := []) (r := r) (by simp) h1 h2
    rw [show ndd (45 :: r) = true from ih, Bool.and_true, beq_eq_false_iff_ne.mpr (fun e => hp (by rw [e]; exact .head _))]
    rfl
  | a :: b :: p, r, hp, h1, h2 => by
    show (!(a == 45 && b == 45) && ndd (b :: p ++ 45 :: r)) = true
    rw [ndd_mid (p := b :: p) (r := r) (fun m => hp (.tail _ m)) h1 h2, Bool.and_true, beq_eq_false_iff_ne.mpr (fun e => hp (by rw [e]; exact .head _))]
    rfl
theorem opn_free {l : List Nat} (h : 45 ∉ l) : opn l = true := by
  cases l with
  | nil => rfl
  | cons a l => exact bne_iff_ne.mpr (fun e => h (by rw [e]; exact .head _))
theorem opn_app {p r : List Nat} (hp : 45 ∉ p) (hn : p ≠ []) : opn (p ++ r) = true := by
  cases p with
  | nil => exact absurd rfl hn
  | cons a l => exact bne_iff_ne.mpr (fun e => hp (by rw [e]; exact .head _))

theorem dd_eq : Str.ofString "--" = ⟨#[45, 45]⟩ := by decide +kernel
theorem at_dd {x : Str} {i : Nat} (h : StrLaws.At x ⟨#[45, 45]⟩ x.length i) : x.cps.toList[i]? = some 45 ∧ x.cps.toList[i + 1]? = some 45 := by
  have h1 := h.2
  rw [StrLaws.subAt_eq] at h1
  have h2 : (x.cps.toList.drop i).take 2 = [45, 45] := eq_of_beq h1
  cases e : x.cps.toList.drop i with
  | nil => rw [e] at h2; cases h2
  | cons a r =>
    rw [e] at h2
    cases r with
    | nil => cases h2
    | cons b r =>
      injection h2 with h3 h4
      injection h4 with h4 _
      have e0 : (x.cps.toList.drop i)[0]? = some a := by rw [e]; rfl
      have e1 : (x.cps.toList.drop i)[1]? = some b := by rw [e]; rfl
      rw [List.getElem?_drop] at e0 e1
      exact ⟨by rw [← h3]; simpa using e0, by rw [← h4]; exact e1⟩
theorem dd_same {x z : Str} (h : ndd x.cps.toList = true) : Txt.replace x (Str.ofString "--") z = x := by
  rw [dd_eq]
  exact replace_no fun i a => ndd_at h i (at_dd a).1 (at_dd a).2
theorem mid_at {p r : List Nat} {i : Nat} (hp : 45 ∉ p) (hr : 45 ∉ r) (h1 : (p ++ 45 :: 45 :: r)[i]? = some 45) (h2 : (p ++ 45 :: 45 :: r)[i + 1]? = some 45) : i = p.length := by
  rcases Nat.lt_trichotomy i p.length with h | h | h
  · rw [List.getElem?_append_left h] at h1
    exact absurd (List.mem_of_getElem? h1) hp
  · exact h
  · rw [List.getElem?_append_right (by omega)] at h2
    obtain ⟨k, hk⟩ : ∃ k, i + 1 - p.length = k + 2 := ⟨i - 1 - p.length, by omega⟩
    rw [hk] at h2
    exact absurd (List.mem_of_getElem? (show r[k]? = some 45 by simpa using h2)) hr
theorem dd_mid {x : Str} {p r : List Nat} (hx : x.cps.toList = p ++ 45 :: 45 :: r) (hp : 45 ∉ p) (hr : 45 ∉ r) : (Txt.replace x (Str.ofString "--") (Str.ofString "-")).cps.toList = p ++ 45 :: r := by
  rw [dd_eq, hy_eq]
  have hlen : x.length = p.length + 2 + r.length := by rw [← toList_length, hx, List.length_append]; simp; omega
  have hat : StrLaws.At x ⟨#[45, 45]⟩ x.length p.length := by
    refine ⟨?_, ?_⟩
    · rw [hlen]; show p.length + 2 ≤ _; omega
    · rw [StrLaws.subAt_eq, hx]
      show ((p ++ 45 :: 45 :: r).drop p.length).take 2 == [45, 45]
      rw [List.drop_append_length]
      rfl
  have only : ∀ i, StrLaws.At x ⟨#[45, 45]⟩ x.length i → i = p.length := fun i a => by
    obtain ⟨a1, a2⟩ := at_dd a
    rw [hx] at a1 a2
    exact mid_at hp hr a1 a2
  obtain ⟨f, hc, hf⟩ := StrLaws.occ_tight x ⟨#[45, 45]⟩ (by decide)
  have hcuts : Builtin.Str.occurrences x ⟨#[45, 45]⟩ 0 x.length (x.length + 1) = [p.length] := by
    cases ho : Builtin.Str.occurrences x ⟨#[45, 45]⟩ 0 x.length (x.length + 1) with
    | nil =>
      rw [ho] at hc
      have e : f = 0 := hc
      exact absurd hat (hf _ (by omega))
    | cons c r' =>
      rw [ho] at hc
      have e := only c hc.2.1
      cases r' with
      | nil => rw [e]
      | cons c' r'' =>
        have hc' := hc.2.2.2
        have e' := only c' hc'.2.1
        have hle := hc'.1
        have h2 : (⟨#[45, 45]⟩ : Str).length = 2 := rfl
        rw [h2] at hle
        omega
  unfold Txt.replace
  rw [hcuts]
  rw [if_neg (by show ¬ (false || (false && false)) = true; decide), StrLaws.partsBetween_eq, StrLaws.glued_eq_join, join_list']
  show jL [45] [(Builtin.Str.strSub x 0 p.length).cps.toList, (Builtin.Str.strSub x (p.length + 2) x.length).cps.toList] = _
  rw [StrLaws.strSub_toList, StrLaws.strSub_toList, hx]
  show List.take (p.length - 0) (p ++ 45 :: 45 :: r) ++ [45] ++ List.take (x.length - (p.length + 2)) (List.drop (p.length + 2) (p ++ 45 :: 45 :: r)) = _
  have e1 : List.take (p.length - 0) (p ++ 45 :: 45 :: r) = p := by simp
  have e2 : List.drop (p.length + 2) (p ++ 45 :: 45 :: r) = r := by simp
  rw [e1, e2, List.take_of_length_le (by rw [hlen]; omega), List.append_assoc]
  rfl

theorem item_last {x : Str} {u : List Nat} {d : Nat} (hx : x.cps.toList = u ++ [d]) : Txt.item x (-1) = ⟨#[d]⟩ := by
  have hl : x.length = u.length + 1 := by rw [← toList_length, hx]; simp
  have h : (seqIndex? (-1) x.length).bind (x.cps[·]?) = some d := by
    refine StrLaws.at_neg (by omega) (by omega) ?_
    rw [at_list, hx]
    have e : ((-1 : Int) + x.length).toNat = u.length := by omega
    rw [e]
    simp
  unfold Txt.item Txt.charAt
  rw [h]
  rfl
theorem slice_last {x : Str} {u : List Nat} {d : Nat} (hx : x.cps.toList = u ++ [d]) : (Txt.slice x none (some (-1))).cps.toList = u := by
  have hl : x.length = u.length + 1 := by rw [← toList_length, hx]; simp
  have e : Txt.slice x none (some (-1)) = ⟨((x.cps.toList.drop 0).take ((-1 : Int) + x.length - 0).toNat).toArray⟩ := StrLaws.sliceText_to_neg (by omega) (by omega)
  rw [e]
  show ((x.cps.toList.drop 0).take ((-1 : Int) + x.length - 0).toNat).toArray.toList = u
  rw [List.toList_toArray, List.drop_zero, hx]
  have e2 : ((-1 : Int) + x.length - 0).toNat = u.length := by omega
  rw [e2]
  simp
theorem last_no {x : Str} {u : List Nat} {d : Nat} (hx : x.cps.toList = u ++ [d]) (hd : d ≠ 45) : (Txt.item x (-1) == Str.ofString "-") = false := by
  rw [item_last hx, hy_eq]
  refine beq_eq_false_iff_ne.mpr (fun e => hd ?_)
  injection e with e
  injection e with e
  injection e
theorem last_yes {x : Str} {u : List Nat} (hx : x.cps.toList = u ++ [45]) : (Txt.item x (-1) == Str.ofString "-") = true := by
  rw [item_last hx, hy_eq]
  exact beq_self_eq_true _
theorem snoc_free {p q : List Nat} (hq : 45 ∉ q) (hn : q ≠ []) : ∃ u d, p ++ q = u ++ [d] ∧ d ≠ 45 := by
  have e := (List.dropLast_concat_getLast hn).symm
  refine ⟨p ++ q.dropLast, q.getLast hn, ?_, fun h => hq (h ▸ List.getLast_mem hn)⟩
  rw [List.append_assoc, ← e]
end Mine
end

section
open PySem PySem.Calls PySem.W PyProof.Rows PySem.StrLaws
set_option maxRecDepth 100000
set_option maxHeartbeats 4000000
namespace Mine
abbrev us (l : List Nat) : List Nat := l.map (sub1 32 95)
theorem us_good {l : List Nat} (h : Good l) : Good (us l) := by
  intro c hc
  obtain ⟨d, hd, rfl⟩ := List.mem_map.mp hc
  have := alpha_all (p := fun d => alpha.contains (sub1 32 95 d)) (by decide +kernel) (h d hd)
  exact List.contains_iff_mem.mp this
theorem good_no {l : List Nat} (h : Good l) {d : Nat} (hd : alpha.contains d = false) : d ∉ l := fun m => by
  have := List.contains_iff_mem.mpr (h d m)
  rw [hd] at this; cases this
theorem good_strip {l : List Nat} (h : Good l) : Good (stripL l) := fun c hc => by
  unfold stripL at hc
  have h1 := List.dropWhile_subset _ (List.mem_reverse.mp hc)
  exact h c (List.dropWhile_subset _ (List.mem_reverse.mp h1))
theorem us_nil {l : List Nat} (h : l ≠ []) : us l ≠ [] := by simpa using h
theorem us45 {l : List Nat} (h : Good l) : 45 ∉ us l := good_no (us_good h) (by decide)

def Chars (l : List Nat) : Prop := ∀ c ∈ l, c = 45 ∨ c ∈ alpha
theorem chars_good {l : List Nat} (h : Good l) : Chars l := fun c hc => .inr (h c hc)
theorem chars_cat {p q : List Nat} (hp : Chars p) (hq : Chars q) : Chars (p ++ [45] ++ q) := fun c hc => by
  rcases List.mem_append.mp hc with hc | hc
  · rcases List.mem_append.mp hc with hc | hc
    · exact hp c hc
    · exact .inl (List.mem_singleton.mp hc)
  · exact hq c hc
theorem absent {U y z : Str} {d : Nat} (h : Chars U.cps.toList) (hd : (y.cps.toList.contains d) = true) (ha : alpha.contains d = false) (h45 : d ≠ 45) : Txt.replace U y z = U :=
  replace_absent (List.contains_iff_mem.mp hd) fun m => by
    rcases h d m with e | e
    · exact h45 e
    · have := List.contains_iff_mem.mpr e
      rw [ha] at this; cases this
theorem platOk_of {P U V : Str} (hU : Txt.replace P (Str.ofString " ") (Str.ofString "_") = U) (h : Chars U.cps.toList) (hl : U.length ≤ 4000) (dd : Txt.replace U (Str.ofString "--") (Str.ofString "-") = V) (dd2 : Txt.replace V (Str.ofString "--") (Str.ofString "-") = V) (hv : V.length ≤ 4000) : PlatOk P U V where
  sp := hU
  len := hl
  r1 := absent (d := 47) h (by decide +kernel) (by decide) (by decide)
  r2 := absent (d := 92) h (by decide +kernel) (by decide) (by decide)
  r3 := absent (d := 58) h (by decide +kernel) (by decide) (by decide)
  r4 := absent (d := 59) h (by decide +kernel) (by decide) (by decide)
  r5 := absent (d := 34) h (by decide +kernel) (by decide) (by decide)
  r6 := absent (d := 40) h (by decide +kernel) (by decide) (by decide)
  r7 := absent (d := 41) h (by decide +kernel) (by decide) (by decide)
  unk := absent (d := 107) h (by decide +kernel) (by decide) (by decide)
  dd := dd
  dd2 := dd2
  vlen := hv

theorem us_join : ∀ ps : List (List Nat), us (jL [45] ps) = jL [45] (ps.map us)
  | [] => rfl
  | [p] => rfl
  | p :: q :: r => by
    have ih := us_join (q :: r)
    show (p ++ [45] ++ jL [45] (q :: r)).map (sub1 32 95) = us p ++ [45] ++ jL [45] ((q :: r).map us)
    rw [List.map_append, List.map_append, ← ih]
    rfl

def Fine (l : List Nat) : Prop := ndd l = true ∧ ∃ u d, l = u ++ [d] ∧ d ≠ 45
theorem fine1 {q : List Nat} (h : 45 ∉ q) (hn : q ≠ []) : Fine q := ⟨ndd_free h, by
  obtain ⟨u, d, e, hd⟩ := snoc_free (p := []) h hn
  exact ⟨u, d, e, hd⟩⟩
theorem fineS {q r : List Nat} (h : 45 ∉ q) (hr : Fine r) (ho : opn r = true) : Fine (q ++ [45] ++ r) := by
  obtain ⟨h1, u, d, e, hd⟩ := hr
  refine ⟨?_, q ++ [45] ++ u, d, by rw [e]; simp, hd⟩
  rw [List.append_assoc]
  exact ndd_mid h ho h1

section
variable (w : World) (mean : ExcName → Option Value) (mg mb : Str → Option Value) {a b c : Str}
abbrev PlatDoes (w : World) (mean : ExcName → Option Value) (mg mb : Str → Option Value) (a b c res : Str) (ta tb tc : Tok) : Prop :=
  DoesG w mean mg mb 600 5000 35 [.str a ta, .str b tb, .str c tc] (fun _ => True) (ι := Tok) (fun t => .str res t) (fun _ => []) (fun _ => True)
abbrev joined (a b c : Str) (ta tb tc : Tok) : Str := Txt.join (Str.ofString "-") ((full [(a, ta), (b, tb), (c, tc)]).map fun p => Txt.strip p.1)

theorem joined_len (la : a.length < 500) (lb : b.length < 500) (lc : c.length < 500) (ta tb tc : Tok) : (joined a b c ta tb tc).length ≤ 4000 := by
  refine len_full ?_ (by simp)
  intro p hp
  simp only [List.mem_cons, List.not_mem_nil, or_false] at hp
  rcases hp with rfl | rfl | rfl <;> (dsimp only; omega)
theorem rep_len (P : Str) : (Txt.replace P (Str.ofString " ") (Str.ofString "_")).length = P.length := by
  rw [← toList_length, ← toList_length, sp_eq, us_eq, replace_list, List.length_map]

theorem plat_fine (la : a.length < 500) (lb : b.length < 500) (lc : c.length < 500) (ta tb tc : Tok) {ps : List (List Nat)} {res : Str} (hP : (joined a b c ta tb tc).cps.toList = jL [45] ps) (hch : Chars (jL [45] (ps.map us))) (hf : Fine (jL [45] (ps.map us))) (hr : res.cps.toList = jL [45] (ps.map us)) :
    PlatDoes w mean mg mb a b c res ta tb tc := by
  have hU : (Txt.replace (joined a b c ta tb tc) (Str.ofString " ") (Str.ofString "_")).cps.toList = jL [45] (ps.map us) := by
    rw [sp_eq, us_eq, replace_list, hP]; exact us_join ps
  have e : Txt.replace (joined a b c ta tb tc) (Str.ofString " ") (Str.ofString "_") = res := str_ext (hU.trans hr.symm)
  have hl : res.length ≤ 4000 := by rw [← e, rep_len]; exact joined_len la lb lc ta tb tc
  obtain ⟨h1, u, d, e2, hd⟩ := hf
  have hx : res.cps.toList = u ++ [d] := hr.trans e2
  refine plat1_does w mean mg mb a b c ta tb tc la lb lc res res res (beq_self_eq_true _) hl (by rw [← toList_length, hx]; simp) (.inl ⟨last_no hx hd, rfl⟩) ?_
  have hn : ndd res.cps.toList = true := by rw [hr]; exact h1
  exact platOk_of e (by rw [hr]; exact hch) hl (dd_same hn) (dd_same hn) hl

theorem plat_tail (la : a.length < 500) (lb : b.length < 500) (lc : c.length < 500) (ta tb tc : Tok) {A : List Nat} {res : Str} (hP : (joined a b c ta tb tc).cps.toList = A ++ [45]) (hg : Good A) (hn : A ≠ []) (hr : res.cps.toList = us A) :
    PlatDoes w mean mg mb a b c res ta tb tc := by
  have hU : (Txt.replace (joined a b c ta tb tc) (Str.ofString " ") (Str.ofString "_")).cps.toList = us A ++ [45] := by
    rw [sp_eq, us_eq, replace_list, hP, List.map_append]; rfl
  have hl0 : (Txt.replace (joined a b c ta tb tc) (Str.ofString " ") (Str.ofString "_")).length ≤ 4000 := by rw [rep_len]; exact joined_len la lb lc ta tb tc
  generalize hUe : Txt.replace (joined a b c ta tb tc) (Str.ofString " ") (Str.ofString "_") = U at hU hl0
  have hs : Txt.slice U none (some (-1)) = res := str_ext ((slice_last hU).trans hr.symm)
  have hlu : U.length = (us A).length + 1 := by rw [← toList_length, hU]; simp
  have hlr : res.length = (us A).length := by rw [← toList_length, hr]
  have hpos : 0 < (us A).length := List.length_pos_iff.mpr (us_nil hn)
  obtain ⟨u, d, e2, hd⟩ := snoc_free (p := []) (us45 hg) (us_nil hn)
  have hx : res.cps.toList = u ++ [d] := hr.trans (by simpa using e2)
  refine plat1_does w mean mg mb a b c ta tb tc la lb lc U U res (beq_self_eq_true _) hl0 (by omega) (.inr ⟨last_yes hU, hs, by omega, by omega, last_no hx hd⟩) ?_
  have hnd : ndd U.cps.toList = true := by
    rw [hU]; exact ndd_mid (us45 hg) rfl rfl
  refine platOk_of hUe ?_ hl0 (dd_same hnd) (dd_same hnd) hl0
  rw [hU]
  intro c hc
  rcases List.mem_append.mp hc with hc | hc
  · exact .inr (us_good hg c hc)
  · exact .inl (List.mem_singleton.mp hc)

theorem plat_mid (la : a.length < 500) (lb : b.length < 500) (lc : c.length < 500) (ta tb tc : Tok) {A C : List Nat} {res : Str} (hP : (joined a b c ta tb tc).cps.toList = A ++ 45 :: 45 :: C) (hg : Good A) (hn : A ≠ []) (hgc : Good C) (hnc : C ≠ []) (hr : res.cps.toList = us A ++ [45] ++ us C) :
    PlatDoes w mean mg mb a b c res ta tb tc := by
  have hU : (Txt.replace (joined a b c ta tb tc) (Str.ofString " ") (Str.ofString "_")).cps.toList = us A ++ 45 :: 45 :: us C := by
    rw [sp_eq, us_eq, replace_list, hP, List.map_append]; rfl
  have hl0 : (Txt.replace (joined a b c ta tb tc) (Str.ofString " ") (Str.ofString "_")).length ≤ 4000 := by rw [rep_len]; exact joined_len la lb lc ta tb tc
  generalize hUe : Txt.replace (joined a b c ta tb tc) (Str.ofString " ") (Str.ofString "_") = U at hU hl0
  have hdd : Txt.replace U (Str.ofString "--") (Str.ofString "-") = res := str_ext ((dd_mid hU (us45 hg) (us45 hgc)).trans (by rw [hr, List.append_assoc]; rfl))
  have hlu : U.length = (us A).length + 2 + (us C).length := by rw [← toList_length, hU, List.length_append]; simp; omega
  have hlr : res.length = (us A).length + 1 + (us C).length := by rw [← toList_length, hr, List.length_append, List.length_append]; rfl
  have hff : Fine res.cps.toList := by
    rw [hr]
    exact fineS (us45 hg) (fine1 (us45 hgc) (us_nil hnc)) (opn_free (us45 hgc))
  obtain ⟨h1, u, d, e2, hd⟩ := hff
  have hne : (res == U) = false := beq_eq_false_iff_ne.mpr (fun e => by rw [e] at hlr; omega)
  refine plat2_does w mean mg mb a b c ta tb tc la lb lc U res res hne (beq_self_eq_true _) (by omega) (by omega) (.inl ⟨last_no e2 hd, rfl⟩) ?_
  refine platOk_of hUe ?_ hl0 hdd (dd_same h1) (by omega)
  rw [hU]
  intro c hc
  rcases List.mem_append.mp hc with hc | hc
  · exact .inr (us_good hg c hc)
  · rcases List.mem_cons.mp hc with hc | hc
    · exact .inl hc
    · rcases List.mem_cons.mp hc with hc | hc
      · exact .inl hc
      · exact .inr (us_good hgc c hc)
end

theorem ne_of_strip {x : Str} (h : stripL x.cps.toList ≠ []) : (stripF x != Str.ofString "") = true := bne_iff_ne.mpr fun e => h (by
  have := congrArg (fun y => y.cps.toList) e
  simp only [stripF_list] at this
  rw [this]; decide +kernel)
theorem eq_of_strip {x : Str} (h : stripL x.cps.toList = []) : (stripF x != Str.ofString "") = false := by
  have e : stripF x = Str.ofString "" := str_ext (by rw [stripF_list, h]; decide +kernel)
  rw [e]
  decide +kernel
theorem len_ne {x : Str} (h : stripL x.cps.toList ≠ []) : (x.length != 0) = true := bne_iff_ne.mpr fun e => h (by
  rw [← toList_length] at e
  rw [List.length_eq_zero_iff.mp e]; rfl)
theorem undS_list (x : Str) : (undF (stripF x)).cps.toList = us (stripL x.cps.toList) := by rw [undF_list, stripF_list]
theorem j_hy (l : List Str) : (Txt.join (Str.ofString "-") l).cps.toList = jL [45] (l.map fun x => x.cps.toList) := by
  rw [txt_join_list, hy_eq]

/-- _platform of three texts of the signs that occur gives the name that the law reckons -/
theorem plat_ok (w : World) (mean : ExcName → Option Value) (mg mb : Str → Option Value) {a b c : Str} (la : a.length < 500) (lb : b.length < 500) (lc : c.length < 500) (ga : Good a.cps.toList) (gb : Good b.cps.toList) (gc : Good c.cps.toList)
    (hA : stripL a.cps.toList ≠ []) (hC : c.length = 0 ∨ stripL c.cps.toList ≠ []) (ta tb tc : Tok) : PlatDoes w mean mg mb a b c (nameF a b c) ta tb tc := by
  have sa := strip_list ga
  have sb := strip_list gb
  have sc := strip_list gc
  have gA := good_strip ga
  have gB := good_strip gb
  have gC := good_strip gc
  have nA := ne_of_strip hA
  have fA := len_ne hA
  have key : (joined a b c ta tb tc).cps.toList = jL [45] ((full [(a, ta), (b, tb), (c, tc)]).map fun p => (Txt.strip p.1).cps.toList) := by
    rw [j_hy, List.map_map]; rfl
  unfold nameF
  by_cases hC0 : c.length = 0
  · have eC : stripL c.cps.toList = [] := by rw [← toList_length] at hC0; rw [List.length_eq_zero_iff.mp hC0]; rfl
    have fC : (c.length != 0) = false := by rw [hC0]; rfl
    have nC := eq_of_strip eC
    by_cases hB : stripL b.cps.toList = []
    · have nB := eq_of_strip hB
      have hr : (nameS (stripF a) (stripF b) (stripF c)).cps.toList = us (stripL a.cps.toList) := by
        rw [name_tff nA nB nC, j_hy]
        show jL [45] [(undF (stripF a)).cps.toList] = _
        rw [undS_list]; rfl
      by_cases hb0 : b.length = 0
      · have fB : (b.length != 0) = false := by rw [hb0]; rfl
        have hfull : full [(a, ta), (b, tb), (c, tc)] = [(a, ta)] := by simp only [full, List.filter, fA, fB, fC]
        rw [hfull] at key
        refine plat_fine w mean mg mb la lb lc ta tb tc (ps := [stripL a.cps.toList]) (key.trans (by show jL [45] [(Txt.strip a).cps.toList] = _; rw [sa])) (chars_good (us_good gA)) (fine1 (us45 gA) (us_nil hA)) hr
      · have fB : (b.length != 0) = true := bne_iff_ne.mpr hb0
        have hfull : full [(a, ta), (b, tb), (c, tc)] = [(a, ta), (b, tb)] := by simp only [full, List.filter, fA, fB, fC]
        rw [hfull] at key
        refine plat_tail w mean mg mb la lb lc ta tb tc (A := stripL a.cps.toList) (key.trans ?_) gA hA hr
        show jL [45] [(Txt.strip a).cps.toList, (Txt.strip b).cps.toList] = _
        rw [sa, sb, hB]
        show stripL a.cps.toList ++ [45] ++ [] = _
        rw [List.append_nil]
    · have nB := ne_of_strip hB
      have fB := len_ne hB
      have hfull : full [(a, ta), (b, tb), (c, tc)] = [(a, ta), (b, tb)] := by simp only [full, List.filter, fA, fB, fC]
      rw [hfull] at key
      refine plat_fine w mean mg mb la lb lc ta tb tc (ps := [stripL a.cps.toList, stripL b.cps.toList]) (key.trans (by show jL [45] [(Txt.strip a).cps.toList, (Txt.strip b).cps.toList] = _; rw [sa, sb])) (chars_cat (chars_good (us_good gA)) (chars_good (us_good gB)))
        (fineS (us45 gA) (fine1 (us45 gB) (us_nil hB)) (opn_free (us45 gB))) ?_
      rw [name_ttf nA nB nC, j_hy]
      show jL [45] [(undF (stripF a)).cps.toList, (undF (stripF b)).cps.toList] = _
      rw [undS_list, undS_list]; rfl
  · have hCs := hC.resolve_left hC0
    have nC := ne_of_strip hCs
    have fC := len_ne hCs
    by_cases hB : stripL b.cps.toList = []
    · have nB := eq_of_strip hB
      have hr : (nameS (stripF a) (stripF b) (stripF c)).cps.toList = us (stripL a.cps.toList) ++ [45] ++ us (stripL c.cps.toList) := by
        rw [name_tft nA nB nC, j_hy]
        show jL [45] [(undF (stripF a)).cps.toList, (undF (stripF c)).cps.toList] = _
        rw [undS_list, undS_list]; rfl
      by_cases hb0 : b.length = 0
      · have fB : (b.length != 0) = false := by rw [hb0]; rfl
        have hfull : full [(a, ta), (b, tb), (c, tc)] = [(a, ta), (c, tc)] := by simp only [full, List.filter, fA, fB, fC]
        rw [hfull] at key
        refine plat_fine w mean mg mb la lb lc ta tb tc (ps := [stripL a.cps.toList, stripL c.cps.toList]) (key.trans (by show jL [45] [(Txt.strip a).cps.toList, (Txt.strip c).cps.toList] = _; rw [sa, sc])) (chars_cat (chars_good (us_good gA)) (chars_good (us_good gC)))
          (fineS (us45 gA) (fine1 (us45 gC) (us_nil hCs)) (opn_free (us45 gC))) hr
      · have fB : (b.length != 0) = true := bne_iff_ne.mpr hb0
        have hfull : full [(a, ta), (b, tb), (c, tc)] = [(a, ta), (b, tb), (c, tc)] := by simp only [full, List.filter, fA, fB, fC]
        rw [hfull] at key
        refine plat_mid w mean mg mb la lb lc ta tb tc (A := stripL a.cps.toList) (C := stripL c.cps.toList) (key.trans ?_) gA hA gC hCs hr
        show jL [45] [(Txt.strip a).cps.toList, (Txt.strip b).cps.toList, (Txt.strip c).cps.toList] = _
        rw [sa, sb, sc, hB]
        show stripL a.cps.toList ++ [45] ++ ([] ++ [45] ++ stripL c.cps.toList) = _
        rw [List.append_assoc]; rfl
    · have nB := ne_of_strip hB
      have fB := len_ne hB
      have hfull : full [(a, ta), (b, tb), (c, tc)] = [(a, ta), (b, tb), (c, tc)] := by simp only [full, List.filter, fA, fB, fC]
      rw [hfull] at key
      refine plat_fine w mean mg mb la lb lc ta tb tc (ps := [stripL a.cps.toList, stripL b.cps.toList, stripL c.cps.toList]) (key.trans (by show jL [45] [(Txt.strip a).cps.toList, (Txt.strip b).cps.toList, (Txt.strip c).cps.toList] = _; rw [sa, sb, sc]))
        (chars_cat (chars_good (us_good gA)) (chars_cat (chars_good (us_good gB)) (chars_good (us_good gC))))
        (fineS (us45 gA) (fineS (us45 gB) (fine1 (us45 gC) (us_nil hCs)) (opn_free (us45 gC))) (by show opn (us (stripL b.cps.toList) ++ [45] ++ us (stripL c.cps.toList)) = true; rw [List.append_assoc]; exact opn_app (us45 gB) (us_nil hB))) ?_
      rw [name_ttt nA nB nC, j_hy]
      show jL [45] [(undF (stripF a)).cps.toList, (undF (stripF b)).cps.toList, (undF (stripF c)).cps.toList] = _
      rw [undS_list, undS_list, undS_list]; rfl
end Mine
end

section
open PySem PySem.Calls PySem.W PySem.NumText PyProof.Rows
set_option maxRecDepth 100000
set_option maxHeartbeats 4000000
namespace Mine
def dg (m : Nat) : List Nat := if m < 10 then [48 + m] else if m < 100 then [48 + m / 10, 48 + m % 10] else [48 + m / 100, 48 + m / 10 % 10, 48 + m % 10]
def isDig (c : Nat) : Bool := 48 ≤ c && c ≤ 57
theorem dg_tab : ((List.range 1000).all fun m => (mTxt (m : Int)).cps.toList == dg m) = true := by decide +kernel
theorem less_tab : ((List.range 1000).all fun m => decide (m < 3) || (mTxt ((m : Int) * 10 - 3)).cps.toList.all isDig && decide ((mTxt ((m : Int) * 10 - 3)).length ≤ 4)) = true := by decide +kernel
theorem m_list {m : Int} (h0 : 0 ≤ m) (h1 : m < 1000) : (mTxt m).cps.toList = dg m.toNat := by
  have h := List.all_eq_true.mp dg_tab m.toNat (List.mem_range.mpr (by omega))
  have e : ((m.toNat : Nat) : Int) = m := Int.toNat_of_nonneg h0
  rw [e] at h
  exact eq_of_beq h
theorem dg_facts : ((List.range 1000).all fun m => (dg m).all isDig && (digitsVal (dg m) == m) && (match dg m with | c :: r => (decide (c < 53) || decide (5 ≤ m)) && decide (r.length ≤ 2) | [] => false)) = true := by decide +kernel
theorem dg_fact {m : Nat} (h : m < 1000) : ((dg m).all isDig = true ∧ (digitsVal (dg m) == m) = true) ∧ (match dg m with | c :: r => (decide (c < 53) || decide (5 ≤ m)) && decide (r.length ≤ 2) | [] => false) = true := by
  have := List.all_eq_true.mp dg_facts m (List.mem_range.mpr h)
  rw [Bool.and_eq_true, Bool.and_eq_true] at this
  exact this
theorem dig_is {c : Nat} (h : isDig c = true) : 48 ≤ c ∧ c ≤ 57 := by
  unfold isDig at h
  rw [Bool.and_eq_true, decide_eq_true_eq, decide_eq_true_eq] at h
  exact h
theorem dg_digits {m : Nat} (h : m < 1000) : AllDigits (dg m) := fun c hc => dig_is (List.all_eq_true.mp (dg_fact h).1.1 c hc)
theorem dg_val {m : Nat} (h : m < 1000) : digitsVal (dg m) = m := eq_of_beq (dg_fact h).1.2
theorem dg_head {m : Nat} (h : m < 1000) : ∃ c r, dg m = c :: r ∧ (53 ≤ c → 5 ≤ m) ∧ r.length ≤ 2 := by
  have h2 := (dg_fact h).2
  cases e : dg m with
  | nil => rw [e] at h2; cases h2
  | cons c r =>
    rw [e] at h2
    dsimp only at h2
    rw [Bool.and_eq_true, Bool.or_eq_true, decide_eq_true_eq, decide_eq_true_eq, decide_eq_true_eq] at h2
    exact ⟨c, r, rfl, fun hc => h2.1.resolve_left (Nat.not_lt.mpr hc), h2.2⟩
theorem less1 {m : Int} (h0 : 3 ≤ m) (h1 : m < 1000) : AllDigits (mTxt (m - 3)).cps.toList ∧ (mTxt (m - 3)).length ≤ 4 := by
  have e := m_list (m := m - 3) (by omega) (by omega)
  have h2 : (m - 3).toNat < 1000 := by omega
  rw [← toList_length, e]
  obtain ⟨c, r, e2, _, hr⟩ := dg_head h2
  refine ⟨dg_digits h2, ?_⟩
  rw [e2, List.length_cons]; omega
theorem less10 {m : Int} (h0 : 3 ≤ m) (h1 : m < 1000) : AllDigits (mTxt (m * 10 - 3)).cps.toList ∧ (mTxt (m * 10 - 3)).length ≤ 4 := by
  have h := List.all_eq_true.mp less_tab m.toNat (List.mem_range.mpr (by omega))
  have e : ((m.toNat : Nat) : Int) = m := Int.toNat_of_nonneg (by omega)
  rw [e, decide_eq_false (by omega), Bool.false_or, Bool.and_eq_true] at h
  refine ⟨fun c hc => ?_, of_decide_eq_true h.2⟩
  exact dig_is (List.all_eq_true.mp h.1 c hc)

theorem num_ascii {x : Str} (h : ∀ c ∈ x.cps.toList, 0 < c ∧ c < 128) : numTextOf x = x.cps.toList ∧ numSeenOf x = x.cps.toList := by
  have e1 : numTextOf x = x.cps.toList := by
    show (if x.cps.all (· < 128) then x.cps.toList else Unicode.numberText x.cps.toList) = _
    refine if_pos ?_
    rw [Array.all_eq_true_iff_forall_mem]
    intro c hc
    exact decide_eq_true (h c (Array.mem_toList_iff.mpr hc)).2
  refine ⟨e1, ?_⟩
  show (numTextOf x).takeWhile _ = _
  rw [e1]
  refine takeWhile_all fun c hc => ?_
  have := h c hc
  exact bne_iff_ne.mpr (by omega)
theorem int_red {x : Str} (h : ∀ c ∈ x.cps.toList, 0 < c ∧ c < 128) :
    PySem.intText? x = match digits? 10 (core x.cps.toList) with
      | some ds => if ds.size ≤ 4300 then some (worth (sign (x.cps.toList.dropWhile blank)).1 ds) else none
      | none => none := by
  obtain ⟨e1, e2⟩ := num_ascii h
  unfold PySem.intText?
  rw [e1, e2]
  exact if_pos (beq_self_eq_true _)
theorem drop_blank : ∀ (g t : List Nat), (∀ c ∈ g, blank c = true) → (g ++ t).dropWhile blank = t.dropWhile blank
  | [], _, _ => rfl
  | c :: g, t, h => by
    rw [List.cons_append, List.dropWhile_cons, h c (.head _), if_pos rfl]
    exact drop_blank g t fun d hd => h d (.tail _ hd)
theorem core_gap {t g : List Nat} {c d : Nat} {r u : List Nat} (ht : t = c :: r) (htl : t = u ++ [d]) (hc : 33 ≤ c) (h43 : c ≠ 43) (h45 : c ≠ 45) (hd : 33 ≤ d) (hg : ∀ e ∈ g, blank e = true) :
    core (t ++ g) = t ∧ (sign ((t ++ g).dropWhile blank)).1 = false := by
  have e1 : (t ++ g).dropWhile blank = t ++ g := by
    rw [ht, List.cons_append]; exact dropWhile_of hc
  have e2 : sign (t ++ g) = (false, t ++ g) := by
    rw [ht, List.cons_append]; exact sign_of h45 h43
  refine ⟨?_, by rw [e1, e2]⟩
  unfold core
  rw [e1, e2]
  show ((t ++ g).reverse.dropWhile blank).reverse = t
  rw [List.reverse_append, drop_blank _ _ (fun e he => hg e (List.mem_reverse.mp he))]
  have e3 : t.reverse = d :: u.reverse := by rw [htl]; simp
  rw [e3, dropWhile_of hd, ← e3, List.reverse_reverse]
theorem snoc_of {α : Type} : ∀ {l : List α}, l ≠ [] → ∃ u d, l = u ++ [d]
  | [], h => absurd rfl h
  | a :: r, _ => ⟨(a :: r).dropLast, (a :: r).getLast (by simp), (List.dropLast_concat_getLast _).symm⟩

section
variable {x : Str} {m : Nat} {g : List Nat}
theorem int_plain (hx : x.cps.toList = dg m ++ g) (hm : m < 1000) (hg : ∀ e ∈ g, e = 32 ∨ e = 9) : PySem.intText? x = some (m : Int) := by
  have hd := dg_digits hm
  obtain ⟨c, r, e, _, _⟩ := dg_head hm
  obtain ⟨u, d, e2⟩ := snoc_of (l := dg m) (by rw [e]; simp)
  have hc := hd c (by rw [e]; exact .head _)
  have hdd := hd d (by rw [e2]; simp)
  obtain ⟨k1, k2⟩ := core_gap e e2 (by omega) (by omega) (by omega) (by omega) (g := g) (fun e he => by rcases hg e he with rfl | rfl <;> rfl)
  rw [int_red (fun c hc => by
    rw [hx] at hc
    rcases List.mem_append.mp hc with hc | hc
    · have := hd c hc; omega
    · have := hg c hc; omega), hx, k1, k2, digits_of hd (by rw [e]; simp)]
  have hsz := push_size (dg m) #[]
  have hv := push_foldl (dg m) #[]
  dsimp only
  have hlen : (dg m).length ≤ 3 := by
    obtain ⟨_, _, e', _, hr⟩ := dg_head hm
    rw [e', List.length_cons]; omega
  rw [if_pos (by rw [hsz]; simp only [Array.size_empty]; omega)]
  have hv' := dg_val hm
  unfold worth
  unfold digitsVal at hv'
  rw [if_neg Bool.false_ne_true, hv]
  congr 2
theorem fold_first {c : Nat} {r : List Nat} (h : AllDigits (c :: r)) (t : List Nat) : ((c :: r) ++ t).foldlM (step 10) ((#[] : Array Nat), false) = t.foldlM (step 10) ((c :: r).foldl (fun acc c => acc.push (c - 48)) #[], true) := by
  rw [List.foldlM_append, List.foldlM_cons, step_digit h.head]
  show (r.foldlM (step 10) ((#[] : Array Nat).push (c - 48), true) >>= _) = _
  rw [foldl_digits r _ h.tail]
  rfl
theorem int_under (hx : x.cps.toList = dg m ++ [95, 48] ++ g) (hm : m < 1000) (hg : ∀ e ∈ g, e = 32 ∨ e = 9) : PySem.intText? x = some ((m : Int) * 10) := by
  have hd := dg_digits hm
  obtain ⟨c, r, e, _, hr⟩ := dg_head hm
  have hc := hd c (by rw [e]; exact .head _)
  obtain ⟨k1, k2⟩ := core_gap (t := dg m ++ [95, 48]) (c := c) (d := 48) (r := r ++ [95, 48]) (u := dg m ++ [95]) (by rw [e]; rfl) (by simp) (by omega) (by omega) (by omega) (by omega) (g := g) (fun e he => by rcases hg e he with rfl | rfl <;> rfl)
  rw [int_red (fun c hc => by
    rw [hx] at hc
    rcases List.mem_append.mp hc with hc | hc
    · rcases List.mem_append.mp hc with hc | hc
      · have := hd c hc; omega
      · simp only [List.mem_cons, List.not_mem_nil, or_false] at hc; omega
    · have := hg c hc; omega), hx, k1, k2]
  have hsz := push_size (dg m) #[]
  have hv := push_foldl (dg m) #[]
  have hv' := dg_val hm
  unfold digitsVal at hv'
  have ed : digits? 10 (dg m ++ [95, 48]) = some (((dg m).foldl (fun acc c => acc.push (c - 48)) #[]).push 0) := by
    unfold digits?
    rw [e] at hd ⊢
    rw [fold_first hd]
    rfl
  rw [ed]
  dsimp only
  rw [if_pos (by rw [Array.size_push, hsz, e, List.length_cons]; simp only [Array.size_empty]; omega)]
  unfold worth
  rw [if_neg Bool.false_ne_true, Array.foldl_push, hv]
  congr 1
  have : (List.foldl (fun acc c => acc * 10 + (c - 48)) (Array.foldl (fun acc d => acc * 10 + d) 0 #[]) (dg m)) = m := hv'
  rw [this]
  simp
theorem int_b (hx : x.cps.toList = dg m ++ [98] ++ g) (hm : m < 1000) (hg : ∀ e ∈ g, e = 32 ∨ e = 9) : PySem.intText? x = none := by
  have hd := dg_digits hm
  obtain ⟨c, r, e, _, hr⟩ := dg_head hm
  have hc := hd c (by rw [e]; exact .head _)
  obtain ⟨k1, k2⟩ := core_gap (t := dg m ++ [98]) (c := c) (d := 98) (r := r ++ [98]) (u := dg m) (by rw [e]; rfl) rfl (by omega) (by omega) (by omega) (by omega) (g := g) (fun e he => by rcases hg e he with rfl | rfl <;> rfl)
  rw [int_red (fun c hc => by
    rw [hx] at hc
    rcases List.mem_append.mp hc with hc | hc
    · rcases List.mem_append.mp hc with hc | hc
      · have := hd c hc; omega
      · simp only [List.mem_cons, List.not_mem_nil, or_false] at hc; omega
    · have := hg c hc; omega), hx, k1, k2]
  have ed : digits? 10 (dg m ++ [98]) = none := by
    unfold digits?
    rw [e] at hd ⊢
    rw [fold_first hd]
    rfl
  rw [ed]
theorem int_v (hx : x.cps.toList = [86] ++ dg m ++ g) (hm : m < 1000) (hg : ∀ e ∈ g, e = 32 ∨ e = 9) : PySem.intText? x = none := by
  have hd := dg_digits hm
  obtain ⟨c, r, e, _, hr⟩ := dg_head hm
  obtain ⟨u, d, e2⟩ := snoc_of (l := dg m) (by rw [e]; simp)
  have hdd := hd d (by rw [e2]; simp)
  obtain ⟨k1, k2⟩ := core_gap (t := [86] ++ dg m) (c := 86) (d := d) (r := dg m) (u := [86] ++ u) rfl (by rw [e2]; simp) (by omega) (by omega) (by omega) (by omega) (g := g) (fun e he => by rcases hg e he with rfl | rfl <;> rfl)
  rw [int_red (fun c hc => by
    rw [hx] at hc
    rcases List.mem_append.mp hc with hc | hc
    · rcases List.mem_append.mp hc with hc | hc
      · simp only [List.mem_cons, List.not_mem_nil, or_false] at hc; omega
      · have := hd c hc; omega
    · have := hg c hc; omega), hx, k1, k2]
  have ed : digits? 10 ([86] ++ dg m) = none := by
    unfold digits?
    rfl
  rw [ed]
end
end Mine
end

section
open PySem PySem.Calls PySem.W PyProof.Rows
set_option maxRecDepth 100000
set_option maxHeartbeats 8000000
namespace Mine
theorem fillit7 (w : World) (h : Heap) (X : (hd.heap_39 w.params).In h) : PySem.Challenge.rw_mg0046_01 = PySem.Challenge.rw_mg0046_01 ∧ (hd.heap_39 w.params).In h := by
  k_fill; exact ⟨rfl, X⟩
local macro_rules | `(tactic| k_room) => `(tactic| exact Nat.le_of_ble_eq_true rfl)
local macro_rules | `(tactic| kun_lst) => `(tactic| exact Fr.lst (by assumption) (by assumption))

abbrev occs (y : Str) : Bool := (Builtin.Str.occurrences (Str.ofString " \t+.01234") (Txt.item y 0) 0 (Str.ofString " \t+.01234").length 1).isEmpty
/-- what _law_told tells -/
def toldF (x y z : Str) (val : Option Int) (r : Str) : Str × Str × Str :=
  match x == Str.ofString "win32" with
  | true => (Str.ofString "Windows", y, z)
  | false => match x == Str.ofString "win16" with
    | true => (Str.ofString "Windows", y, z)
    | false => match x != Str.ofString "SunOS" with
      | true => (x, y, z)
      | false => match y == Str.ofString "" with
        | true => (x, y, z)
        | false => match occs y with
          | false => (x, y, z)
          | true => match val with
            | none => (Str.ofString "Solaris", y, z)
            | some v => (Str.ofString "Solaris", Str.ofString (toString (v - 3)) ++ r, z)
section
variable {x y : Str} (z : Str) (val : Option Int) (r : Str)
theorem told_w32 (y) (h1 : (x == Str.ofString "win32") = true) : toldF x y z val r = (Str.ofString "Windows", y, z) := by
  unfold toldF; rw [h1]
theorem told_w16 (y) (h1 : (x == Str.ofString "win32") = false) (h2 : (x == Str.ofString "win16") = true) : toldF x y z val r = (Str.ofString "Windows", y, z) := by
  unfold toldF; rw [h1, h2]
theorem told_sys (y) (h1 : (x == Str.ofString "win32") = false) (h2 : (x == Str.ofString "win16") = false) (h3 : (x != Str.ofString "SunOS") = true) : toldF x y z val r = (x, y, z) := by
  unfold toldF; rw [h1, h2, h3]
theorem told_nil (h1 : (x == Str.ofString "win32") = false) (h2 : (x == Str.ofString "win16") = false) (h3 : (x != Str.ofString "SunOS") = false) (h4 : (y == Str.ofString "") = true) : toldF x y z val r = (x, y, z) := by
  unfold toldF; rw [h1, h2, h3, h4]
theorem told_low (h1 : (x == Str.ofString "win32") = false) (h2 : (x == Str.ofString "win16") = false) (h3 : (x != Str.ofString "SunOS") = false) (h4 : (y == Str.ofString "") = false) (h5 : occs y = false) : toldF x y z val r = (x, y, z) := by
  unfold toldF; rw [h1, h2, h3, h4, h5]
theorem told_sol (h1 : (x == Str.ofString "win32") = false) (h2 : (x == Str.ofString "win16") = false) (h3 : (x != Str.ofString "SunOS") = false) (h4 : (y == Str.ofString "") = false) (h5 : occs y = true) :
    toldF x y z val r = match val with | none => (Str.ofString "Solaris", y, z) | some v => (Str.ofString "Solaris", Str.ofString (toString (v - 3)) ++ r, z) := by
  unfold toldF; rw [h1, h2, h3, h4, h5]
end

theorem told1_does (w : World) (mean : ExcName → Option Value) (mg mb : Str → Option Value) (l : Addr) (x y z r : Str) (tx ty tz tr : Tok)  (hx : x.length < 500) (hy : y.length < 500) (hz : z.length < 500) (hr : r.length < 100) :
    Does w mean mg mb 600 5000 129 [.ref l, .none, .str r tr] (fun h => h.IsList l #[.str x tx, .str y ty, .str z tz]) (ι := Addr × Tok × Tok × Tok) (fun i => .ref i.1) (fun h h' i => h'.get? i.1 = some { cls := .type "tuple", data := .seq #[.str (toldF x y z (none) r).1 i.2.1, .str (toldF x y z (none) r).2.1 i.2.2.1, .str (toldF x y z (none) r).2.2 i.2.2.2] } ∧ h.get? i.1 = none) := by
  intro base outer s R B X T hlst hret
  w_on
  
  refine' Mine.enter ?k3 ?k5 ?k6 ?k7 ?k8 ?k9 ?kB ?_ ?c2 ?c3 ?c4 ?c5
  (case k3 => assumption)
  (case k5 => assumption)
  (case k6 => k_is)
  (case k7 => k_is)
  (case k8 => exact Nat.le_of_ble_eq_true rfl)
  (case k9 => exact BindsTo.of_eq rfl)
  (case kB => exact locs rfl)
  (case c2 => exact rfl)
  (case c3 => exact rfl)
  (case c4 => exact rfl)
  (case c5 => decide)
  intro L' h' F' N'
  (try dsimp only)
  (try k_fold)
  
  k_steps
  all_goals (try dsimp only)
  · have e := told_w32 (x := x) z (none) r y (by assumption)
    exact hret (_, _, _, _) _ _ (Fr.keep (by assumption)) ⟨by rw [e]; exact News.get (by assumption) (.head _), News.fresh (by assumption) (.head _)⟩
  · have e := told_w16 (x := x) z (none) r y (by assumption) (by assumption)
    exact hret (_, _, _, _) _ _ (Fr.keep (by assumption)) ⟨by rw [e]; exact News.get (by assumption) (.head _), News.fresh (by assumption) (.head _)⟩
  · have e := told_sys (x := x) z (none) r y (by assumption) (by assumption) (by assumption)
    exact hret (_, _, _, _) _ _ (Fr.keep (by assumption)) ⟨by rw [e]; exact News.get (by assumption) (.head _), News.fresh (by assumption) (.head _)⟩
  · have e := told_nil (x := x) (y := y) z (none) r (by assumption) (by assumption) (by assumption) (by assumption)
    exact hret (_, _, _, _) _ _ (Fr.keep (by assumption)) ⟨by rw [e]; exact News.get (by assumption) (.head _), News.fresh (by assumption) (.head _)⟩
  · have e := told_sol (x := x) (y := y) z (none) r (by assumption) (by assumption) (by assumption) (by assumption) (by assumption)
    exact hret (_, _, _, _) _ _ (Fr.keep (by assumption)) ⟨by rw [e]; exact News.get (by assumption) (.head _), News.fresh (by assumption) (.head _)⟩
  · have e := told_low (x := x) (y := y) z (none) r (by assumption) (by assumption) (by assumption) (by assumption) (by assumption)
    exact hret (_, _, _, _) _ _ (Fr.keep (by assumption)) ⟨by rw [e]; exact News.get (by assumption) (.head _), News.fresh (by assumption) (.head _)⟩

theorem told2_does (w : World) (mean : ExcName → Option Value) (mg mb : Str → Option Value) (l : Addr) (x y z r : Str) (tx ty tz tr : Tok) (v : Int) (tv : Tok) (hv0 : 0 ≤ v) (hv1 : v < 100000) (hx : x.length < 500) (hy : y.length < 500) (hz : z.length < 500) (hr : r.length < 100) :
    Does w mean mg mb 600 5000 129 [.ref l, .int v tv, .str r tr] (fun h => h.IsList l #[.str x tx, .str y ty, .str z tz]) (ι := Addr × Tok × Tok × Tok) (fun i => .ref i.1) (fun h h' i => h'.get? i.1 = some { cls := .type "tuple", data := .seq #[.str (toldF x y z (some v) r).1 i.2.1, .str (toldF x y z (some v) r).2.1 i.2.2.1, .str (toldF x y z (some v) r).2.2 i.2.2.2] } ∧ h.get? i.1 = none) := by
  intro base outer s R B X T hlst hret
  w_on
  
  refine' Mine.enter ?k3 ?k5 ?k6 ?k7 ?k8 ?k9 ?kB ?_ ?c2 ?c3 ?c4 ?c5
  (case k3 => assumption)
  (case k5 => assumption)
  (case k6 => k_is)
  (case k7 => k_is)
  (case k8 => exact Nat.le_of_ble_eq_true rfl)
  (case k9 => exact BindsTo.of_eq rfl)
  (case kB => exact locs rfl)
  (case c2 => exact rfl)
  (case c3 => exact rfl)
  (case c4 => exact rfl)
  (case c5 => decide)
  intro L' h' F' N'
  (try dsimp only)
  (try k_fold)
  
  k_steps
  all_goals (try dsimp only)
  · have e := told_w32 (x := x) z (some v) r y (by assumption)
    exact hret (_, _, _, _) _ _ (Fr.keep (by assumption)) ⟨by rw [e]; exact News.get (by assumption) (.head _), News.fresh (by assumption) (.head _)⟩
  · have e := told_w16 (x := x) z (some v) r y (by assumption) (by assumption)
    exact hret (_, _, _, _) _ _ (Fr.keep (by assumption)) ⟨by rw [e]; exact News.get (by assumption) (.head _), News.fresh (by assumption) (.head _)⟩
  · have e := told_sys (x := x) z (some v) r y (by assumption) (by assumption) (by assumption)
    exact hret (_, _, _, _) _ _ (Fr.keep (by assumption)) ⟨by rw [e]; exact News.get (by assumption) (.head _), News.fresh (by assumption) (.head _)⟩
  · have e := told_nil (x := x) (y := y) z (some v) r (by assumption) (by assumption) (by assumption) (by assumption)
    exact hret (_, _, _, _) _ _ (Fr.keep (by assumption)) ⟨by rw [e]; exact News.get (by assumption) (.head _), News.fresh (by assumption) (.head _)⟩
  · have e := told_sol (x := x) (y := y) z (some v) r (by assumption) (by assumption) (by assumption) (by assumption) (by assumption)
    exact hret (_, _, _, _) _ _ (Fr.keep (by assumption)) ⟨by rw [e]; exact News.get (by assumption) (.head _), News.fresh (by assumption) (.head _)⟩
  · have e := told_low (x := x) (y := y) z (some v) r (by assumption) (by assumption) (by assumption) (by assumption) (by assumption)
    exact hret (_, _, _, _) _ _ (Fr.keep (by assumption)) ⟨by rw [e]; exact News.get (by assumption) (.head _), News.fresh (by assumption) (.head _)⟩
end Mine
end

section
open PySem PySem.Calls PySem.W PyProof.Rows
set_option maxRecDepth 100000
set_option maxHeartbeats 8000000
namespace Mine
theorem fillit3 (w : World) (h : Heap) (X : (hd.heap_39 w.params).In h) : PySem.Challenge.rw_mg0046_01 = PySem.Challenge.rw_mg0046_01 ∧ (hd.heap_39 w.params).In h := by
  k_fill; exact ⟨rfl, X⟩
local macro_rules | `(tactic| k_room) => `(tactic| exact Nat.le_of_ble_eq_true rfl)

theorem parts1 {l : List (Str × Tok)} {a : Str} (h : l.map (fun x => x.fst) = [a]) : ∃ t, l = [(a, t)] := by
  cases l with
  | nil => cases h
  | cons p r => cases r with
    | nil => cases h; exact ⟨p.2, rfl⟩
    | cons q r => cases h
theorem parts2 {l : List (Str × Tok)} {a b : Str} (h : l.map (fun x => x.fst) = [a, b]) : ∃ t u, l = [(a, t), (b, u)] := by
  cases l with
  | nil => cases h
  | cons p r => cases r with
    | nil => cases h
    | cons q r => cases r with
      | nil => cases h; exact ⟨p.2, q.2, rfl⟩
      | cons q r => cases h
local macro_rules | `(tactic| walk_at "call builtin:str.join") => `(tactic| (k_here; (with_reducible show wpAny _ _ (call (Value.builtin _) [Value.str _ _, Value.ref _]) _ _ _); k_dflt (first | refine join_listW (ys := [_]) (by is_list) (StrsAre.cons _ _ StrsAre.nil) (by decide +kernel) (by (simp only [List.map_cons, List.map_nil, List.sum_cons, List.sum_nil, List.length_cons, List.length_nil]); omega) ?_ | refine join_listW (ys := [_, _]) (by is_list) (StrsAre.cons _ _ (StrsAre.cons _ _ StrsAre.nil)) (by decide +kernel) (by (simp only [List.map_cons, List.map_nil, List.sum_cons, List.sum_nil, List.length_cons, List.length_nil]); omega) ?_); intro _ _))

theorem als1_does (w : World) (mean : ExcName → Option Value) (mg mb : Str → Option Value) (x y z : Str) (tx ty tz : Tok) (hx : x.length < 500) (hy : y.length < 500) (hz : z.length < 500) (h1 : (x == Str.ofString "SunOS") = true) (h2 : y.cps.toList < (Str.ofString "5").cps.toList) :
    Does w mean mg mb 600 5000 28 [.str x tx, .str y ty, .str z tz] (fun _ => True) (ι := Addr × Tok × Tok × Tok) (fun i => .ref i.1) (fun h h' i => h'.get? i.1 = some { cls := .type "tuple", data := .seq #[.str x i.2.1, .str y i.2.2.1, .str z i.2.2.2] } ∧ h.get? i.1 = none) := by
  intro base outer s R B X T _ hret
  w_on
  
  refine' Mine.enter ?k3 ?k5 ?k6 ?k7 ?k8 ?k9 ?kB ?_ ?c2 ?c3 ?c4 ?c5
  (case k3 => assumption)
  (case k5 => assumption)
  (case k6 => k_is)
  (case k7 => k_is)
  (case k8 => exact Nat.le_of_ble_eq_true rfl)
  (case k9 => exact BindsTo.of_eq rfl)
  (case kB => exact locs rfl)
  (case c2 => exact rfl)
  (case c3 => exact rfl)
  (case c4 => exact rfl)
  (case c5 => decide)
  intro L' h' F' N'
  (try dsimp only)
  (try k_fold)
  
  k_steps
  all_goals (try dsimp only)
  all_goals exact hret (_, _, _, _) _ _ (Fr.keep (by assumption)) ⟨News.get (by assumption) (.head _), News.fresh (by assumption) (.head _)⟩

theorem als2_does (w : World) (mean : ExcName → Option Value) (mg mb : Str → Option Value) (x y z : Str) (tx ty tz : Tok) (hx : x.length < 500) (hy : y.length < 500) (hz : z.length < 500) (h1 : (x == Str.ofString "SunOS") = false) (h2 : ([Str.ofString "win32", Str.ofString "win16"].any fun a => a == x) = true) :
    Does w mean mg mb 600 5000 28 [.str x tx, .str y ty, .str z tz] (fun _ => True) (ι := Addr × Tok × Tok × Tok) (fun i => .ref i.1) (fun h h' i => h'.get? i.1 = some { cls := .type "tuple", data := .seq #[.str (Str.ofString "Windows") i.2.1, .str y i.2.2.1, .str z i.2.2.2] } ∧ h.get? i.1 = none) := by
  intro base outer s R B X T _ hret
  w_on
  
  refine' Mine.enter ?k3 ?k5 ?k6 ?k7 ?k8 ?k9 ?kB ?_ ?c2 ?c3 ?c4 ?c5
  (case k3 => assumption)
  (case k5 => assumption)
  (case k6 => k_is)
  (case k7 => k_is)
  (case k8 => exact Nat.le_of_ble_eq_true rfl)
  (case k9 => exact BindsTo.of_eq rfl)
  (case kB => exact locs rfl)
  (case c2 => exact rfl)
  (case c3 => exact rfl)
  (case c4 => exact rfl)
  (case c5 => decide)
  intro L' h' F' N'
  (try dsimp only)
  (try k_fold)
  
  k_steps
  all_goals (try dsimp only)
  all_goals exact hret (_, _, _, _) _ _ (Fr.keep (by assumption)) ⟨News.get (by assumption) (.head _), News.fresh (by assumption) (.head _)⟩

theorem als3_does (w : World) (mean : ExcName → Option Value) (mg mb : Str → Option Value) (x y z : Str) (tx ty tz : Tok) (hx : x.length < 500) (hy : y.length < 500) (hz : z.length < 500) (h1 : (x == Str.ofString "SunOS") = false) (h2 : ([Str.ofString "win32", Str.ofString "win16"].any fun a => a == x) = false) :
    Does w mean mg mb 600 5000 28 [.str x tx, .str y ty, .str z tz] (fun _ => True) (ι := Addr × Tok × Tok × Tok) (fun i => .ref i.1) (fun h h' i => h'.get? i.1 = some { cls := .type "tuple", data := .seq #[.str x i.2.1, .str y i.2.2.1, .str z i.2.2.2] } ∧ h.get? i.1 = none) := by
  intro base outer s R B X T _ hret
  w_on
  
  refine' Mine.enter ?k3 ?k5 ?k6 ?k7 ?k8 ?k9 ?kB ?_ ?c2 ?c3 ?c4 ?c5
  (case k3 => assumption)
  (case k5 => assumption)
  (case k6 => k_is)
  (case k7 => k_is)
  (case k8 => exact Nat.le_of_ble_eq_true rfl)
  (case k9 => exact BindsTo.of_eq rfl)
  (case kB => exact locs rfl)
  (case c2 => exact rfl)
  (case c3 => exact rfl)
  (case c4 => exact rfl)
  (case c5 => decide)
  intro L' h' F' N'
  (try dsimp only)
  (try k_fold)
  
  k_steps
  all_goals (try dsimp only)
  all_goals exact hret (_, _, _, _) _ _ (Fr.keep (by assumption)) ⟨News.get (by assumption) (.head _), News.fresh (by assumption) (.head _)⟩

theorem als4_does (w : World) (mean : ExcName → Option Value) (mg mb : Str → Option Value) (x y z : Str) (tx ty tz : Tok) (hx : x.length < 500) (hy : y.length < 500) (hz : z.length < 500) (h1 : (x == Str.ofString "SunOS") = true) (h2 : ¬ y.cps.toList < (Str.ofString "5").cps.toList) (hd hb : Str) (n : Int) (h3 : Txt.split y (Str.ofString ".") = [hd]) (h4 : PySem.intText? hd = some n) (h5 : 3 ≤ n) (h6 : n < 10000) (h7 : hd.length ≤ 640) (h8 : hb.length ≤ 640) (h9 : (Str.ofString (toString (n - 3))).length ≤ 10) :
    Does w mean mg mb 600 5000 28 [.str x tx, .str y ty, .str z tz] (fun _ => True) (ι := Addr × Tok × Tok × Tok) (fun i => .ref i.1) (fun h h' i => h'.get? i.1 = some { cls := .type "tuple", data := .seq #[.str (Str.ofString "Solaris") i.2.1, .str (Txt.join (Str.ofString ".") [Str.ofString (toString (n - 3))]) i.2.2.1, .str z i.2.2.2] } ∧ h.get? i.1 = none) := by
  intro base outer s R B X T _ hret
  w_on
  
  refine' Mine.enter ?k3 ?k5 ?k6 ?k7 ?k8 ?k9 ?kB ?_ ?c2 ?c3 ?c4 ?c5
  (case k3 => assumption)
  (case k5 => assumption)
  (case k6 => k_is)
  (case k7 => k_is)
  (case k8 => exact Nat.le_of_ble_eq_true rfl)
  (case k9 => exact BindsTo.of_eq rfl)
  (case kB => exact locs rfl)
  (case c2 => exact rfl)
  (case c3 => exact rfl)
  (case c4 => exact rfl)
  (case c5 => decide)
  intro L' h' F' N'
  (try dsimp only)
  (try k_fold)
  
  k_steps
  all_goals ((with_reducible rename (List.map _ _ = Txt.split _ _) => hsp9); rw [h3] at hsp9; (obtain ⟨t9, hl9⟩ := Mine.parts1 hsp9); subst hl9)
  all_goals (try simp only [strValues, List.map_cons, List.map_nil] at *)
  all_goals k_steps
  all_goals (try dsimp only)
  all_goals exact hret (_, _, _, _) _ _ (Fr.keep (by assumption)) ⟨News.get (by assumption) (.head _), News.fresh (by assumption) (.head _)⟩

theorem als5_does (w : World) (mean : ExcName → Option Value) (mg mb : Str → Option Value) (x y z : Str) (tx ty tz : Tok) (hx : x.length < 500) (hy : y.length < 500) (hz : z.length < 500) (h1 : (x == Str.ofString "SunOS") = true) (h2 : ¬ y.cps.toList < (Str.ofString "5").cps.toList) (hd hb : Str) (n : Int) (h3 : Txt.split y (Str.ofString ".") = [hd, hb]) (h4 : PySem.intText? hd = some n) (h5 : 3 ≤ n) (h6 : n < 10000) (h7 : hd.length ≤ 640) (h8 : hb.length ≤ 640) (h9 : (Str.ofString (toString (n - 3))).length ≤ 10) :
    Does w mean mg mb 600 5000 28 [.str x tx, .str y ty, .str z tz] (fun _ => True) (ι := Addr × Tok × Tok × Tok) (fun i => .ref i.1) (fun h h' i => h'.get? i.1 = some { cls := .type "tuple", data := .seq #[.str (Str.ofString "Solaris") i.2.1, .str (Txt.join (Str.ofString ".") [Str.ofString (toString (n - 3)), hb]) i.2.2.1, .str z i.2.2.2] } ∧ h.get? i.1 = none) := by
  intro base outer s R B X T _ hret
  w_on
  
  refine' Mine.enter ?k3 ?k5 ?k6 ?k7 ?k8 ?k9 ?kB ?_ ?c2 ?c3 ?c4 ?c5
  (case k3 => assumption)
  (case k5 => assumption)
  (case k6 => k_is)
  (case k7 => k_is)
  (case k8 => exact Nat.le_of_ble_eq_true rfl)
  (case k9 => exact BindsTo.of_eq rfl)
  (case kB => exact locs rfl)
  (case c2 => exact rfl)
  (case c3 => exact rfl)
  (case c4 => exact rfl)
  (case c5 => decide)
  intro L' h' F' N'
  (try dsimp only)
  (try k_fold)
  
  k_steps
  all_goals ((with_reducible rename (List.map _ _ = Txt.split _ _) => hsp9); rw [h3] at hsp9; (obtain ⟨t9, t8, hl9⟩ := Mine.parts2 hsp9); subst hl9)
  all_goals (try simp only [strValues, List.map_cons, List.map_nil] at *)
  all_goals k_steps
  all_goals (try dsimp only)
  all_goals exact hret (_, _, _, _) _ _ (Fr.keep (by assumption)) ⟨News.get (by assumption) (.head _), News.fresh (by assumption) (.head _)⟩
end Mine
end

section
open PySem PySem.Calls PySem.W PyProof.Rows
set_option maxRecDepth 100000
set_option maxHeartbeats 8000000
namespace Mine
theorem fillit4 (w : World) (h : Heap) (X : (hd.heap_39 w.params).In h) : PySem.Challenge.rw_mg0046_01 = PySem.Challenge.rw_mg0046_01 ∧ (hd.heap_39 w.params).In h := by
  k_fill; exact ⟨rfl, X⟩
local macro_rules | `(tactic| k_room) => `(tactic| exact Nat.le_of_ble_eq_true rfl)

theorem cal_type {M : Model} {A : Around} {E : Value → Shared → Prop} {s : Shared} {env : Env} {pos : Pos} {T : String} {e : PySem.Expr} {rest : List PySem.Expr} {Q : Value → Shared → Prop}
    (h : wpAny M A (spliced (backTo pos (starEach (e :: rest) env))) (fun vs s₁ => wpCal M A (call (.type T) vs) Q E s₁) E s)
    (he : starEach (e :: rest) env = (false, eval e env) :: starEach rest env := by rfl) (hplain : (backTo pos (starEach rest env)).any (·.1) = false := by rfl) :
    wpCal M A (callWith pos (.type T) [] (backTo pos (starEach (e :: rest) env)) []) Q E s := by
  rw [he] at h ⊢
  exact cal_callWith_type (by show (false || (backTo pos (starEach rest env)).any (·.1)) = false; rw [hplain]; rfl) (evalArgs_plain h)

theorem als67_does (w : World) (mean : ExcName → Option Value) (mg mb : Str → Option Value) (x y z : Str) (tx ty tz : Tok) (hx : x.length < 500) (hy : y.length < 500) (hz : z.length < 500) (h1 : (x == Str.ofString "SunOS") = true) (h2 : ¬ y.cps.toList < (Str.ofString "5").cps.toList) (q hb : Str) (h3 : Txt.split y (Str.ofString ".") = [q] ∨ Txt.split y (Str.ofString ".") = [q, hb]) (h4 : PySem.intText? q = none)
    (h5 : (reprText q).length ≤ sizeLine) (h6 : q.length ≤ 640) :
    DoesG w mean mg mb 600 5000 28 [.str x tx, .str y ty, .str z tz] (fun _ => True) (ι := Addr × Tok × Tok × Tok) (fun i => .ref i.1) (fun i => [(i.1, { cls := .type "tuple", data := .seq #[.str (Str.ofString "Solaris") i.2.1, .str y i.2.2.1, .str z i.2.2.2] })]) (fun _ => True) := by
  intro base outer s g ps R B XB TB hk hsz h30 hps hT hG _ hret
  w_on
  refine' Mine.enterG B XB TB hk hsz h30 hps ?k6 ?k7 ?k8 ?k9 ?kB ?_ ?c2 ?c3 ?c4 ?c5
  (case k6 => k_is)
  (case k7 => k_is)
  (case k8 => exact Nat.le_of_ble_eq_true rfl)
  (case k9 => exact BindsTo.of_eq rfl)
  (case kB => exact locs rfl)
  (case c2 => exact rfl)
  (case c3 => exact rfl)
  (case c4 => exact rfl)
  (case c5 => decide)
  intro L' h' F' N' X T
  (try dsimp only)
  (try k_fold)
  refine wpCal_execs_cons (wpCal_If (wpCal.of ?_))
  k_steps
  refine wpCal_execs_cons (wpCal.of ?_)
  k_steps
  (try dsimp only)
  refine wpCal_execs_cons (wpCal.of ?_)
  k_steps
  (try dsimp only)
  (with_reducible rename (List.map _ _ = Txt.split _ _) => hsp9)
  rcases h3 with h3 | h3
  · rw [h3] at hsp9
    obtain ⟨t9, hl9⟩ := Mine.parts1 hsp9
    subst hl9
    (try simp only [strValues, List.map_cons, List.map_nil] at *)
    refine wpCal_execs_cons (wpCal_If (wpCal.of ?_))
    k_steps
    refine wpCal_execs_cons (wpCal_Try_except (wpCal_execs_cons (wpCal_Assign_Name (wpCal_Call_Name ?_))))
    k_steps
    refine cal_type ?_
    k_steps
    refine int_raises (A := (AR 600 5000 outer).deeper _) rfl h5 (Nat.le_trans (PySem.seen_length q) h6) h4 ?_
    intro h8 e8 tk8 hx8
    refine note_turn B hx8 (by assumption) (by assumption) ?_
    intro h7 g7 T7 B7 H7
    have X7 := XB.keeps B7.stays
    have TT7 := TB.keeps B7.stays
    clear X T B
    refine TT.HeldNA.land H7 ?_
    intro h6 H6
    refine TT.clause_hitTN (p := p0) (loose := l0) H6 TT7 (k := ?_)
    clear H6 H7
    intro h5' F5 N5
    k_steps
    (try dsimp only)
    refine wpCal_execs_nil ?_
    (try dsimp only)
    refine wpCal.of ?_
    k_steps
    all_goals (try dsimp only)
    all_goals refine wpCal.of ?_
    all_goals k_steps
    all_goals (try dsimp only)
    all_goals exact hret (_, _, _, _) g7 _ _ _ _ T7 (Fr.keep (by assumption)) (News.get (o := tobj ps) (by assumption) (by k_mem)) hT hG (List.forall_mem_cons.mpr ⟨⟨News.get (by assumption) (.head _), News.fresh (by assumption) (.head _)⟩, List.forall_mem_nil _⟩) True.intro
  · rw [h3] at hsp9
    obtain ⟨t9, t8, hl9⟩ := Mine.parts2 hsp9
    subst hl9
    (try simp only [strValues, List.map_cons, List.map_nil] at *)
    refine wpCal_execs_cons (wpCal_If (wpCal.of ?_))
    k_steps
    refine wpCal_execs_cons (wpCal_Try_except (wpCal_execs_cons (wpCal_Assign_Name (wpCal_Call_Name ?_))))
    k_steps
    refine cal_type ?_
    k_steps
    refine int_raises (A := (AR 600 5000 outer).deeper _) rfl h5 (Nat.le_trans (PySem.seen_length q) h6) h4 ?_
    intro h8 e8 tk8 hx8
    refine note_turn B hx8 (by assumption) (by assumption) ?_
    intro h7 g7 T7 B7 H7
    have X7 := XB.keeps B7.stays
    have TT7 := TB.keeps B7.stays
    clear X T B
    refine TT.HeldNA.land H7 ?_
    intro h6 H6
    refine TT.clause_hitTN (p := p0) (loose := l0) H6 TT7 (k := ?_)
    clear H6 H7
    intro h5' F5 N5
    k_steps
    (try dsimp only)
    refine wpCal_execs_nil ?_
    (try dsimp only)
    refine wpCal.of ?_
    k_steps
    all_goals (try dsimp only)
    all_goals refine wpCal.of ?_
    all_goals k_steps
    all_goals (try dsimp only)
    all_goals exact hret (_, _, _, _) g7 _ _ _ _ T7 (Fr.keep (by assumption)) (News.get (o := tobj ps) (by assumption) (by k_mem)) hT hG (List.forall_mem_cons.mpr ⟨⟨News.get (by assumption) (.head _), News.fresh (by assumption) (.head _)⟩, List.forall_mem_nil _⟩) True.intro
theorem als6_does (w : World) (mean : ExcName → Option Value) (mg mb : Str → Option Value) (x y z : Str) (tx ty tz : Tok) (hx : x.length < 500) (hy : y.length < 500) (hz : z.length < 500) (h1 : (x == Str.ofString "SunOS") = true) (h2 : ¬ y.cps.toList < (Str.ofString "5").cps.toList) (q hb : Str) (h3 : Txt.split y (Str.ofString ".") = [q]) (h4 : PySem.intText? q = none)
    (h5 : (reprText q).length ≤ sizeLine) (h6 : q.length ≤ 640) :
    DoesG w mean mg mb 600 5000 28 [.str x tx, .str y ty, .str z tz] (fun _ => True) (ι := Addr × Tok × Tok × Tok) (fun i => .ref i.1) (fun i => [(i.1, { cls := .type "tuple", data := .seq #[.str (Str.ofString "Solaris") i.2.1, .str y i.2.2.1, .str z i.2.2.2] })]) (fun _ => True) :=
  als67_does w mean mg mb x y z tx ty tz hx hy hz h1 h2 q hb (.inl h3) h4 h5 h6
theorem als7_does (w : World) (mean : ExcName → Option Value) (mg mb : Str → Option Value) (x y z : Str) (tx ty tz : Tok) (hx : x.length < 500) (hy : y.length < 500) (hz : z.length < 500) (h1 : (x == Str.ofString "SunOS") = true) (h2 : ¬ y.cps.toList < (Str.ofString "5").cps.toList) (q hb : Str) (h3 : Txt.split y (Str.ofString ".") = [q, hb]) (h4 : PySem.intText? q = none)
    (h5 : (reprText q).length ≤ sizeLine) (h6 : q.length ≤ 640) :
    DoesG w mean mg mb 600 5000 28 [.str x tx, .str y ty, .str z tz] (fun _ => True) (ι := Addr × Tok × Tok × Tok) (fun i => .ref i.1) (fun i => [(i.1, { cls := .type "tuple", data := .seq #[.str (Str.ofString "Solaris") i.2.1, .str y i.2.2.1, .str z i.2.2.2] })]) (fun _ => True) :=
  als67_does w mean mg mb x y z tx ty tz hx hy hz h1 h2 q hb (.inr h3) h4 h5 h6
end Mine
end

section
open PySem PySem.Calls PySem.W PySem.NumText PyProof.Rows PySem.StrLaws
set_option maxRecDepth 100000
set_option maxHeartbeats 4000000
namespace Mine

abbrev AlsDoes (w : World) (mean : ExcName → Option Value) (mg mb : Str → Option Value) (x y z a b c : Str) (tx ty tz : Tok) : Prop :=
  DoesG w mean mg mb 600 5000 28 [.str x tx, .str y ty, .str z tz] (fun _ => True) (ι := Addr × Tok × Tok × Tok) (fun i => .ref i.1) (fun i => [(i.1, tup3 a b c i.2.1 i.2.2.1 i.2.2.2)]) (fun _ => True)
theorem al_lift {w : World} {mean : ExcName → Option Value} {mg mb : Str → Option Value} {x y z a b c : Str} {tx ty tz : Tok}
    (C : Does w mean mg mb 600 5000 28 [.str x tx, .str y ty, .str z tz] (fun _ => True) (ι := Addr × Tok × Tok × Tok) (fun i => .ref i.1) (fun h h' i => h'.get? i.1 = some (tup3 a b c i.2.1 i.2.2.1 i.2.2.2) ∧ h.get? i.1 = none)) : AlsDoes w mean mg mb x y z a b c tx ty tz :=
  DoesG.of_does C (fun _ _ _ h => h) (fun _ _ _ hp => ⟨List.forall_mem_cons.mpr ⟨hp, List.forall_mem_nil _⟩, True.intro⟩)

theorem alpha128 {c : Nat} (h : c ∈ alpha) : c < 128 := of_decide_eq_true (alpha_all (p := fun c => decide (c < 128)) (by decide +kernel) h)
theorem ok_good {x : Str} (h : Good x.cps.toList) : PyData.strOk x = true := by
  unfold PyData.strOk
  rw [Array.all_eq_true_iff_forall_mem]
  intro c hc
  have := alpha128 (h c (Array.mem_toList_iff.mpr hc))
  exact decide_eq_true (by omega)

abbrev HoldsDoes (w : World) (mean : ExcName → Option Value) (mg mb : Str → Option Value) (x y z : Str) (val : Option Int) (r : Str) (l : Addr) (tx ty tz tv tr : Tok) : Prop :=
  DoesG w mean mg mb 590 4900 134 [.ref l, optV val tv, .str r tr] (fun g => g.IsList l #[.str x tx, .str y ty, .str z tz]) (ι := Unit) (fun _ => .bool true) (fun _ => []) (fun _ => True)

theorem holds_by (w : World) (mean : ExcName → Option Value) (mg mb : Str → Option Value) {x y z r : Str} {val : Option Int} (lx : x.length < 500) (ly : y.length < 500) (lz : z.length < 500) (lr : r.length < 100) (hval : ∀ v, val = some v → 0 ≤ v ∧ v < 100000)
    {a b c : Str} (hT : toldF x y z val r = (a, b, c)) (la : a.length < 500) (lb : b.length < 500) (lc : c.length < 500) (ga : Good a.cps.toList) (gb : Good b.cps.toList) (gc : Good c.cps.toList) (hA : stripL a.cps.toList ≠ []) (hC : c.length = 0 ∨ stripL c.cps.toList ≠ [])
    (CA : ∀ tx ty tz, AlsDoes w mean mg mb x y z a b c tx ty tz) (l : Addr) (tx ty tz tv tr : Tok) : HoldsDoes w mean mg mb x y z val r l tx ty tz tv tr := by
  refine holds_does w mean mg mb l x y z r tx ty tz tr val tv a b c (nameF a b c) lx ly lz lr la lb lc ?_ CA (fun ta tb tc => plat_ok w mean mg mb la lb lc ga gb gc hA hC ta tb tc) rfl (ne_of_strip hA) (ok_good ga) (ok_good gb) (ok_good gc)
  cases val with
  | none =>
    have h := told1_does w mean mg mb l x y z r tx ty tz tr lx ly lz lr
    rw [hT] at h
    exact h
  | some v =>
    obtain ⟨h0, h1⟩ := hval v rfl
    have h := told2_does w mean mg mb l x y z r tx ty tz tr v tv h0 h1 lx ly lz lr
    rw [hT] at h
    exact h

/-- the part of a release ahead of its gap: what it is worth -/
inductive CoreL : List Nat → Option Int → Prop
  | plain (m : Nat) (h : m < 1000) : CoreL (dg m) (some (m : Int))
  | under (m : Nat) (h : m < 1000) : CoreL (dg m ++ [95, 48]) (some ((m : Int) * 10))
  | b (m : Nat) (h : m < 1000) : CoreL (dg m ++ [98]) none
  | v (m : Nat) (h : m < 1000) : CoreL ([86] ++ dg m) none
def YForm (Y : List Nat) (val : Option Int) (r : Str) : Prop :=
  (Y = [] ∨ ∃ c t, Y = c :: t ∧ c < 53) ∨ ∃ q g, (∀ e ∈ g, e = 32 ∨ e = 9) ∧ Y = q ++ g ++ r.cps.toList ∧ CoreL q val

theorem low_sign {y : Str} {c : Nat} {t : List Nat} (h : y.cps.toList = c :: t) (hc : c ∈ alpha) : occs y = decide (53 ≤ c) := by
  have e : Txt.item y 0 = ⟨#[c]⟩ := by
    have h1 : (seqIndex? 0 y.length).bind (y.cps[·]?) = some c := StrLaws.at_nonneg (Int.le_refl _) (by rw [at_list, h]; rfl)
    unfold Txt.item Txt.charAt
    rw [h1]; rfl
  unfold occs
  rw [e]
  exact eq_of_beq (alpha_all (p := fun c => (Builtin.Str.occurrences (Str.ofString " \t+.01234") ⟨#[c]⟩ 0 (Str.ofString " \t+.01234").length 1).isEmpty == decide (53 ≤ c)) (by decide +kernel) hc)
theorem five_eq : (Str.ofString "5").cps.toList = [53] := by decide +kernel
theorem lt_five {c : Nat} {t : List Nat} : c :: t < [53] ↔ c < 53 := by
  have hnil : decide (t < []) = false := by cases t <;> simp
  constructor
  · intro h
    have := decide_eq_true h
    rw [StrLaws.lt_cons_cons, hnil, Bool.and_false, Bool.or_false] at this
    exact of_decide_eq_true this
  · intro h
    have : decide (c :: t < [53]) = true := by
      rw [StrLaws.lt_cons_cons, hnil, Bool.and_false, Bool.or_false]
      exact decide_eq_true h
    exact of_decide_eq_true this
theorem ne_empty {y : Str} {c : Nat} {t : List Nat} (h : y.cps.toList = c :: t) : (y == Str.ofString "") = false := beq_eq_false_iff_ne.mpr fun e => by
  rw [e] at h
  have : (Str.ofString "").cps.toList = [] := by decide +kernel
  rw [this] at h; cases h

abbrev sun : Str := Str.ofString "SunOS"
theorem sun1 : (sun == Str.ofString "win32") = false := by decide +kernel
theorem sun2 : (sun == Str.ofString "win16") = false := by decide +kernel
theorem sun3 : (sun != Str.ofString "SunOS") = false := by decide +kernel
theorem sun4 : (sun == Str.ofString "SunOS") = true := by decide +kernel
theorem sun5 : Good sun.cps.toList := by
  have : (sun.cps.toList.all fun c => alpha.contains c) = true := by decide +kernel
  exact fun c hc => List.contains_iff_mem.mp (List.all_eq_true.mp this c hc)
theorem sun6 : stripL sun.cps.toList ≠ [] := by
  have : (stripL sun.cps.toList).isEmpty = false := by decide +kernel
  intro e; rw [e] at this; cases this
theorem sun7 : sun.length < 500 := by decide +kernel
abbrev sol : Str := Str.ofString "Solaris"
theorem sol5 : Good sol.cps.toList := by
  have : (sol.cps.toList.all fun c => alpha.contains c) = true := by decide +kernel
  exact fun c hc => List.contains_iff_mem.mp (List.all_eq_true.mp this c hc)
theorem sol6 : stripL sol.cps.toList ≠ [] := by
  have : (stripL sol.cps.toList).isEmpty = false := by decide +kernel
  intro e; rw [e] at this; cases this
theorem sol7 : sol.length < 500 := by decide +kernel

/-- the rest behind the number: nothing, or a dot and no second one -/
def RestOk (r : Str) : Prop := r.cps.toList = [] ∨ ∃ t : Str, r.cps.toList = 46 :: t.cps.toList ∧ 46 ∉ t.cps.toList

theorem digits_good {l : List Nat} (h : AllDigits l) : Good l := fun c hc => by
  have := h c hc
  have e : ∀ d, d < 10 → alpha.contains (48 + d) = true := by decide
  have := e (c - 48) (by omega)
  rw [show 48 + (c - 48) = c by omega] at this
  exact List.contains_iff_mem.mp this
theorem app_list (x y : Str) : (x ++ y).cps.toList = x.cps.toList ++ y.cps.toList := by rw [Str.cps_append, Array.toList_append]
theorem good_app {p q : List Nat} (hp : Good p) (hq : Good q) : Good (p ++ q) := fun c hc => (List.mem_append.mp hc).elim (hp c) (hq c)

theorem high_bad (w : World) (mean : ExcName → Option Value) (mg mb : Str → Option Value) {y z r : Str} (ly : y.length < 500) (lz : z.length < 500) (gy : Good y.cps.toList) {c : Nat} {t : List Nat} (hy : y.cps.toList = c :: t) (hc : 53 ≤ c) {q g : List Nat}
    (he : y.cps.toList = q ++ g ++ r.cps.toList) (hr : RestOk r) (hi : PySem.intText? ⟨(q ++ g).toArray⟩ = none) (hd : 46 ∉ q ++ g) (tx ty tz : Tok) : AlsDoes w mean mg mb sun y z sol y z tx ty tz := by
  have h2 : ¬ y.cps.toList < (Str.ofString "5").cps.toList := by rw [five_eq, hy, lt_five]; omega
  have hql : (q ++ g).length ≤ y.length := by rw [← toList_length, he, List.length_append (as := q ++ g)]; omega
  have hqs : (⟨(q ++ g).toArray⟩ : Str).length = (q ++ g).length := by rw [← toList_length]
  have hqc : (⟨(q ++ g).toArray⟩ : Str).cps.toList = q ++ g := by simp
  have h6 : (⟨(q ++ g).toArray⟩ : Str).length ≤ 640 := by omega
  have h5 : (reprText ⟨(q ++ g).toArray⟩).length ≤ sizeLine := by
    refine Nat.le_trans (StrLaws.reprText_len _ fun d hd' => ?_) (by rw [sizeLine_eq]; omega)
    rw [hqc] at hd'
    have := alpha128 (gy d (by rw [he]; exact List.mem_append.mpr (.inl hd')))
    exact Nat.lt_of_lt_of_le this (by decide)
  rcases hr with hr | ⟨tl, hr, htl⟩
  · refine als6_does w mean mg mb sun y z tx ty tz sun7 ly lz sun4 h2 ⟨(q ++ g).toArray⟩ sun ?_ hi h5 h6
    rw [dot_eq]
    refine split_is (by simp) ?_ ?_
    · intro p hp
      obtain rfl := List.mem_singleton.mp hp
      rw [hqc]; exact hd
    · show _ = (⟨(q ++ g).toArray⟩ : Str).cps.toList
      rw [hqc, he, hr, List.append_nil]
  · refine als7_does w mean mg mb sun y z tx ty tz sun7 ly lz sun4 h2 ⟨(q ++ g).toArray⟩ tl ?_ hi h5 h6
    rw [dot_eq]
    refine split_is (by simp) ?_ ?_
    · intro p hp
      simp only [List.mem_cons, List.not_mem_nil, or_false] at hp
      rcases hp with rfl | rfl
      · rw [hqc]; exact hd
      · exact htl
    · show _ = (⟨(q ++ g).toArray⟩ : Str).cps.toList ++ [46] ++ tl.cps.toList
      rw [hqc, he, hr, List.append_assoc (as := q ++ g)]; try rfl

theorem high_num (w : World) (mean : ExcName → Option Value) (mg mb : Str → Option Value) {y z r : Str} (ly : y.length < 500) (lz : z.length < 500) {c : Nat} {t : List Nat} (hy : y.cps.toList = c :: t) (hc : 53 ≤ c) {q g : List Nat} {n : Int}
    (he : y.cps.toList = q ++ g ++ r.cps.toList) (hr : RestOk r) (hi : PySem.intText? ⟨(q ++ g).toArray⟩ = some n) (hd : 46 ∉ q ++ g) (h3 : 3 ≤ n) (hn : n < 10000) (hl : (Str.ofString (toString (n - 3))).length ≤ 4) (tx ty tz : Tok) :
    AlsDoes w mean mg mb sun y z sol (Str.ofString (toString (n - 3)) ++ r) z tx ty tz := by
  have h2 : ¬ y.cps.toList < (Str.ofString "5").cps.toList := by rw [five_eq, hy, lt_five]; omega
  have hyl : (q ++ g).length + r.cps.toList.length = y.length := by rw [← toList_length, he, List.length_append (as := q ++ g)]
  have hqs : (⟨(q ++ g).toArray⟩ : Str).length = (q ++ g).length := by rw [← toList_length]
  have hqc : (⟨(q ++ g).toArray⟩ : Str).cps.toList = q ++ g := by simp
  rcases hr with hr | ⟨tl, hr, htl⟩
  · have h := als4_does w mean mg mb sun y z tx ty tz sun7 ly lz sun4 h2 ⟨(q ++ g).toArray⟩ sun n (by
      rw [dot_eq]
      refine split_is (by simp) ?_ ?_
      · intro p hp
        obtain rfl := List.mem_singleton.mp hp
        rw [hqc]; exact hd
      · show _ = (⟨(q ++ g).toArray⟩ : Str).cps.toList
        rw [hqc, he, hr, List.append_nil]) hi h3 hn (by omega) (by decide +kernel) (by omega)
    have e : Txt.join (Str.ofString ".") [Str.ofString (toString (n - 3))] = Str.ofString (toString (n - 3)) ++ r := str_ext (by
      rw [txt_join_list, app_list, hr, List.append_nil]; rfl)
    rw [e] at h
    exact al_lift h
  · have htll : tl.length ≤ 640 := by
      have := congrArg List.length hr
      rw [List.length_cons, toList_length tl] at this
      omega
    have h := als5_does w mean mg mb sun y z tx ty tz sun7 ly lz sun4 h2 ⟨(q ++ g).toArray⟩ tl n (by
      rw [dot_eq]
      refine split_is (by simp) ?_ ?_
      · intro p hp
        simp only [List.mem_cons, List.not_mem_nil, or_false] at hp
        rcases hp with rfl | rfl
        · rw [hqc]; exact hd
        · exact htl
      · show _ = (⟨(q ++ g).toArray⟩ : Str).cps.toList ++ [46] ++ tl.cps.toList
        rw [hqc, he, hr, List.append_assoc (as := q ++ g)]; try rfl) hi h3 hn (by omega) htll (by omega)
    have e : Txt.join (Str.ofString ".") [Str.ofString (toString (n - 3)), tl] = Str.ofString (toString (n - 3)) ++ r := str_ext (by
      rw [txt_join_list, app_list, hr, dot_eq]
      show (Str.ofString (toString (n - 3))).cps.toList ++ [46] ++ tl.cps.toList = _
      rw [List.append_assoc]; rfl)
    rw [e] at h
    exact al_lift h
end Mine
end

section
open PySem PySem.Calls PySem.W PySem.NumText PyProof.Rows PySem.StrLaws
set_option maxRecDepth 100000
set_option maxHeartbeats 4000000
namespace Mine

theorem dot_no {l g : List Nat} (h : ∀ c ∈ l, c ≠ 46) (hg : ∀ e ∈ g, e = 32 ∨ e = 9) : 46 ∉ l ++ g := fun m => by
  rcases List.mem_append.mp m with m | m
  · exact h 46 m rfl
  · have := hg 46 m; omega
theorem core_dot {q : List Nat} {val : Option Int} (h : CoreL q val) : ∀ c ∈ q, c ≠ 46 := by
  intro c hc
  cases h with
  | plain m hm => have := dg_digits hm c hc; omega
  | under m hm =>
    rcases List.mem_append.mp hc with hc | hc
    · have := dg_digits hm c hc; omega
    · simp only [List.mem_cons, List.not_mem_nil, or_false] at hc; omega
  | b m hm =>
    rcases List.mem_append.mp hc with hc | hc
    · have := dg_digits hm c hc; omega
    · simp only [List.mem_cons, List.not_mem_nil, or_false] at hc; omega
  | v m hm =>
    rcases List.mem_append.mp hc with hc | hc
    · simp only [List.mem_cons, List.not_mem_nil, or_false] at hc; omega
    · have := dg_digits hm c hc; omega
theorem mk_list (l : List Nat) : (⟨l.toArray⟩ : Str).cps.toList = l := by simp

theorem sun_holds (w : World) (mean : ExcName → Option Value) (mg mb : Str → Option Value) {y z r : Str} {val : Option Int} (ly : y.length < 300) (lz : z.length < 500) (lr : r.length < 100) (gy : Good y.cps.toList) (gz : Good z.cps.toList) (gr : Good r.cps.toList) (hz : z.length = 0 ∨ stripL z.cps.toList ≠ [])
    (hY : YForm y.cps.toList val r) (hr : RestOk r) (hval : ∀ v, val = some v → 0 ≤ v ∧ v < 100000) (l : Addr) (tx ty tz tv tr : Tok) : HoldsDoes w mean mg mb sun y z val r l tx ty tz tv tr := by
  have ly' : y.length < 500 := by omega
  cases hyl : y.cps.toList with
  | nil =>
    have e : (y == Str.ofString "") = true := by
      have : y = Str.ofString "" := str_ext (by rw [hyl]; decide +kernel)
      rw [this]; exact beq_self_eq_true _
    refine holds_by w mean mg mb sun7 ly' lz lr hval (told_nil z val r sun1 sun2 sun3 e) sun7 ly' lz sun5 gy gz sun6 hz (fun tx ty tz => al_lift (als1_does w mean mg mb sun y z tx ty tz sun7 ly' lz sun4 ?_)) l tx ty tz tv tr
    rw [hyl, five_eq]; decide
  | cons c t =>
    have hca : c ∈ alpha := gy c (by rw [hyl]; exact .head _)
    have hne := ne_empty hyl
    have hocc := low_sign hyl hca
    by_cases hc : c < 53
    · rw [decide_eq_false (by omega)] at hocc
      refine holds_by w mean mg mb sun7 ly' lz lr hval (told_low z val r sun1 sun2 sun3 hne hocc) sun7 ly' lz sun5 gy gz sun6 hz (fun tx ty tz => al_lift (als1_does w mean mg mb sun y z tx ty tz sun7 ly' lz sun4 ?_)) l tx ty tz tv tr
      rw [hyl, five_eq, lt_five]; exact hc
    · rw [decide_eq_true (by omega)] at hocc
      have hT := told_sol z val r sun1 sun2 sun3 hne hocc
      obtain ⟨q, g, hg, he, hcore⟩ := hY.resolve_left (by
        rintro (h | ⟨c', t', h, hc'⟩)
        · rw [hyl] at h; cases h
        · rw [hyl] at h; cases h; omega)
      have hd := dot_no (core_dot hcore) hg
      have head : ∀ {m : Nat}, m < 1000 → ∀ {s : List Nat}, y.cps.toList = dg m ++ s → 5 ≤ m := fun {m} hm {s} e => by
        obtain ⟨c', r', e', h5, _⟩ := dg_head hm
        rw [hyl, e'] at e
        injection e with e _
        exact h5 (by omega)
      cases hcore with
      | plain m hm =>
        have hm5 := head hm (by rw [he, List.append_assoc])
        obtain ⟨ld, ll⟩ := less1 (m := (m : Int)) (by omega) (by omega)
        refine holds_by w mean mg mb sun7 ly' lz lr hval hT sol7 ?_ lz sol5 ?_ gz sol6 hz (fun tx ty tz => high_num w mean mg mb ly' lz hyl (by omega) he hr (int_plain (mk_list _) hm hg) hd (by omega) (by omega) ll tx ty tz) l tx ty tz tv tr
        · rw [Str.length_append]
          have : (Str.ofString (toString ((m : Int) - 3))).length ≤ 4 := ll
          omega
        · rw [app_list]; exact good_app (digits_good ld) gr
      | under m hm =>
        have hm5 := head hm (by rw [he, List.append_assoc, List.append_assoc])
        obtain ⟨ld, ll⟩ := less10 (m := (m : Int)) (by omega) (by omega)
        refine holds_by w mean mg mb sun7 ly' lz lr hval hT sol7 ?_ lz sol5 ?_ gz sol6 hz (fun tx ty tz => high_num w mean mg mb ly' lz hyl (by omega) he hr (int_under (mk_list _) hm hg) hd (by omega) (by omega) ll tx ty tz) l tx ty tz tv tr
        · rw [Str.length_append]
          have : (Str.ofString (toString ((m : Int) * 10 - 3))).length ≤ 4 := ll
          omega
        · rw [app_list]; exact good_app (digits_good ld) gr
      | b m hm =>
        exact holds_by w mean mg mb sun7 ly' lz lr hval hT sol7 ly' lz sol5 gy gz sol6 hz (fun tx ty tz => high_bad w mean mg mb ly' lz gy hyl (by omega) he hr (int_b (mk_list _) hm hg) hd tx ty tz) l tx ty tz tv tr
      | v m hm =>
        exact holds_by w mean mg mb sun7 ly' lz lr hval hT sol7 ly' lz sol5 gy gz sol6 hz (fun tx ty tz => high_bad w mean mg mb ly' lz gy hyl (by omega) he hr (int_v (mk_list _) hm hg) hd tx ty tz) l tx ty tz tv tr

def goodB (x : Str) : Bool := x.cps.toList.all fun c => alpha.contains c
theorem goodB_is {x : Str} (h : goodB x = true) : Good x.cps.toList := fun c hc => List.contains_iff_mem.mp (List.all_eq_true.mp h c hc)
def fullB (x : Str) : Bool := !(stripL x.cps.toList).isEmpty
theorem fullB_is {x : Str} (h : fullB x = true) : stripL x.cps.toList ≠ [] := fun e => by
  unfold fullB at h
  rw [e] at h; cases h
abbrev wins : Str := Str.ofString "Windows"
theorem wins5 : Good wins.cps.toList := goodB_is (by decide +kernel)
theorem wins6 : stripL wins.cps.toList ≠ [] := fullB_is (by decide +kernel)
theorem wins7 : wins.length < 500 := by decide +kernel

section
variable (w : World) (mean : ExcName → Option Value) (mg mb : Str → Option Value) {x y z r : Str} {val : Option Int} (lx : x.length < 500) (ly : y.length < 300) (lz : z.length < 500) (lr : r.length < 100) (gx : Good x.cps.toList) (gy : Good y.cps.toList) (gz : Good z.cps.toList) (hx : stripL x.cps.toList ≠ []) (hz : z.length = 0 ∨ stripL z.cps.toList ≠ [])
  (hval : ∀ v, val = some v → 0 ≤ v ∧ v < 100000) (l : Addr) (tx ty tz tv tr : Tok)
include lx ly lz lr gy gz hz hval in
theorem win_holds (h0 : (x == Str.ofString "SunOS") = false) (h1 : (x == Str.ofString "win32") = true ∨ (x == Str.ofString "win32") = false ∧ (x == Str.ofString "win16") = true) (h2 : ([Str.ofString "win32", Str.ofString "win16"].any fun a => a == x) = true) : HoldsDoes w mean mg mb x y z val r l tx ty tz tv tr := by
  have hT : toldF x y z val r = (wins, y, z) := by
    rcases h1 with h1 | ⟨h1, h3⟩
    · exact told_w32 z val r y h1
    · exact told_w16 z val r y h1 h3
  exact holds_by w mean mg mb lx (by omega) lz lr hval hT wins7 (by omega) lz wins5 gy gz wins6 hz (fun tx ty tz => al_lift (als2_does w mean mg mb x y z tx ty tz lx (by omega) lz h0 h2)) l tx ty tz tv tr
include lx ly lz lr gx gy gz hx hz hval in
theorem oth_holds (h0 : (x == Str.ofString "SunOS") = false) (h1 : (x == Str.ofString "win32") = false) (h3 : (x == Str.ofString "win16") = false) (h4 : (x != Str.ofString "SunOS") = true) (h2 : ([Str.ofString "win32", Str.ofString "win16"].any fun a => a == x) = false) : HoldsDoes w mean mg mb x y z val r l tx ty tz tv tr :=
  holds_by w mean mg mb lx (by omega) lz lr hval (told_sys z val r y h1 h3 h4) lx (by omega) lz gx gy gz hx hz (fun tx ty tz => al_lift (als3_does w mean mg mb x y z tx ty tz lx (by omega) lz h0 h2)) l tx ty tz tv tr
end

abbrev sys6 : List Str := [Str.ofString "SunOS", Str.ofString " SunOS\t", Str.ofString "win32", Str.ofString "win16", Str.ofString "\twin32", Str.ofString "Darwin"]
theorem row_holds (w : World) (mean : ExcName → Option Value) (mg mb : Str → Option Value) {x y z r : Str} {val : Option Int} (hx : x ∈ sys6) (ly : y.length < 300) (lz : z.length < 500) (lr : r.length < 100) (gy : Good y.cps.toList) (gz : Good z.cps.toList) (gr : Good r.cps.toList) (hz : z.length = 0 ∨ stripL z.cps.toList ≠ [])
    (hY : YForm y.cps.toList val r) (hr : RestOk r) (hval : ∀ v, val = some v → 0 ≤ v ∧ v < 100000) (l : Addr) (tx ty tz tv tr : Tok) : HoldsDoes w mean mg mb x y z val r l tx ty tz tv tr := by
  simp only [sys6, List.mem_cons, List.not_mem_nil, or_false] at hx
  rcases hx with rfl | rfl | rfl | rfl | rfl | rfl
  · exact sun_holds w mean mg mb ly lz lr gy gz gr hz hY hr hval l tx ty tz tv tr
  · exact oth_holds w mean mg mb (by decide +kernel) ly lz lr (goodB_is (by decide +kernel)) gy gz (fullB_is (by decide +kernel)) hz hval l tx ty tz tv tr (by decide +kernel) (by decide +kernel) (by decide +kernel) (by decide +kernel) (by decide +kernel)
  · exact win_holds w mean mg mb (by decide +kernel) ly lz lr gy gz hz hval l tx ty tz tv tr (by decide +kernel) (.inl (by decide +kernel)) (by decide +kernel)
  · exact win_holds w mean mg mb (by decide +kernel) ly lz lr gy gz hz hval l tx ty tz tv tr (by decide +kernel) (.inr ⟨by decide +kernel, by decide +kernel⟩) (by decide +kernel)
  · exact oth_holds w mean mg mb (by decide +kernel) ly lz lr (goodB_is (by decide +kernel)) gy gz (fullB_is (by decide +kernel)) hz hval l tx ty tz tv tr (by decide +kernel) (by decide +kernel) (by decide +kernel) (by decide +kernel) (by decide +kernel)
  · exact oth_holds w mean mg mb (by decide +kernel) ly lz lr (goodB_is (by decide +kernel)) gy gz (fullB_is (by decide +kernel)) hz hval l tx ty tz tv tr (by decide +kernel) (by decide +kernel) (by decide +kernel) (by decide +kernel) (by decide +kernel)
end Mine
end

section
open PySem PySem.Calls PySem.W PyProof.Rows
set_option maxRecDepth 100000
set_option maxHeartbeats 4000000
namespace Mine
abbrev FE : Value → Shared → Prop := fun _ _ => False
section
variable {prog : Program} {w : World} {A : Around} {E : Value → Shared → Prop} {s : Shared} {env : Env} {R : Result → Shared → Prop}

theorem codeCal_forLoop {target : PySem.Expr} {it : Value} {body orelse : List Stmt} (I : Nat → Shared → Prop)
    (turn : ∀ n s, I n s → wpAny (model prog w) A (pyNext it) (fun r s₁ => match r with
      | none => wpAny (model prog w) A (execs orelse env) (fun f s₃ => R (.ok f) s₃) FE s₁
      | some v => wpAny (model prog w) A (assign target env v) (fun _ s₂ => wpCal (model prog w) A (execs body env) (fun f s₃ => match f with
          | .next | .cont => ∃ m, m < n ∧ I m s₃
          | .brk => R (.ok .next) s₃
          | .ret v => R (.ok (.ret v)) s₃) FE s₂) FE s₁) FE s)
    (n : Nat) (h : I n s) (ht : ∀ v, letOwnedTupleGo target it v = pure () := by intro _; rfl) : codeCal (model prog w) A (.forLoop target it body orelse env) R s := by
  induction n using Nat.strongRecOn generalizing s with
  | ind n ih =>
    refine codeCal_of_tree ?_
    show wpCal _ A ((forTurn target it body orelse env).onRaise (fun x => do noteFrame x env; theTreesLotGoes x)) _ _ s
    refine wpCal_onRaise (wpCal_mono (E := FE) ?_ (fun _ _ q => q) fun _ _ e => e.elim)
    simp only [forTurn]
    refine wpCal_bind (wpCal_standAt (wpCal_first (wpAny_onRaise (wpAny_mono (turn n s h) (fun r s₁ h₁ => ?_) fun _ _ h' => h'.elim))))
    cases r with
    | none => exact wpCal_pure ⟨rfl, codeCal.of (codeAny_block (wpAny_mono h₁ (fun _ _ q => q) fun _ _ e => e.elim))⟩
    | some v =>
      refine wpCal_first (wpAny_of_eq (ht v) ?_)
      refine wpCal_first (wpAny_mono h₁ (fun _ s₂ h₂ => wpCal_bind (wpCal_mono h₂ (fun f s₃ h₃ => ?_) fun _ _ h' => h')) fun _ _ h' => h')
      cases f with
      | next =>
        obtain ⟨m, hm, hI⟩ := h₃
        exact wpCal_pure ⟨rfl, ih m hm hI⟩
      | cont =>
        obtain ⟨m, hm, hI⟩ := h₃
        exact wpCal_pure ⟨rfl, ih m hm hI⟩
      | brk => exact wpCal_pure h₃
      | ret v => exact wpCal_pure h₃

theorem wpCal_runOwn {c : Code} {Q : Flow → Shared → Prop} (hc : codeCal (model prog w) A c (fun r s' => match r with | .ok f => Q f s' | .error _ => False) s) : wpCal (model prog w) A (runOwn c env) Q E s := by
  unfold runOwn
  refine wpCal_onRaise (wpCal_mono (E := FE) (Q := Q) ?_ (fun _ _ q => q) fun _ _ e => e.elim)
  intro Γ p hΓ hcal
  rw [Sem.wp_run]
  refine wpCode_mono (fun r s' hr => ?_) (hc _ p rfl (hΓ.enter c none p (by intro x; cases x)) (enter_cal hcal c none p))
  cases r with
  | ok f => exact hr
  | error e => exact hr.elim

theorem wpCal_For {target iter : PySem.Expr} {body orelse : List Stmt} {pos : Pos} {Q : Flow → Shared → Prop}
    (h : wpAny (model prog w) A (eval iter env) (fun x s₁ => wpAny (model prog w) A (pyIter x) (fun it s₂ =>
      codeCal (model prog w) A (.forLoop target it body orelse env) (fun r s' => match r with | .ok f => Q f s' | .error _ => False) s₂) E s₁) E s)
    (hs : ∀ x, foldedSetIterable iter env x = pure x := by intro _; rfl) :
    wpCal (model prog w) A (exec (.For target iter body orelse pos) env) Q E s := by
  rw [exec_For]
  exact wpCal_bind (wpCal_standAt (wpCal_first (wpAny_mono h (fun x s₁ h₁ => wpCal_first (wpAny_of_eq (hs x) (wpCal_bind (wpCal_standAt (wpCal_first (wpAny_holding
    (wpAny_mono h₁ (fun it s₂ h₂ => wpCal_runOwn h₂) fun _ _ h' => h'))))))) fun _ _ h' => h')))
end
end Mine
end

section
open PySem PySem.Calls PySem.W PyProof.Rows
set_option maxRecDepth 100000
set_option maxHeartbeats 4000000
namespace Mine

abbrev lstO (ws : List Value) : Obj := PySem.W.listOf ws.toArray 0
/-- the state between two turns of law's loop -/
def LoopAt (base : Heap) (outer : List Env) (g : Heap) (L I D : Addr) (ws : List Value) (s : Shared) (i : Nat) (s' : Shared) : Prop :=
  ∃ g' h' tk gens ps m oI, s' = { s with heap := h', toks := tk, gens := gens } ∧ KtsTurn (frs outer) g g' ∧ Below (AR 580 4800 outer) base outer g' ∧ Fr g' L h' m ∧ News g' L h' [(30, tobj ps), (I, oI), (D, lstO ws)] ∧
    oI.cls = .type "list_iterator" ∧ oI.data = .fields #[.ref D, .int (i : Int) 0] ∧ TriplesOk ps.toList ∧ AllBare gens

theorem int_item {ws : List Value} {ns : List Int} (h : IntsAre ws ns) : ∀ {i : Nat} {v : Value}, ws.toArray[i]? = some v → ∃ x t, v = .int x t := by
  intro i v e
  rw [List.getElem?_toArray] at e
  induction h generalizing i with
  | nil => cases e
  | cons n t _ ih =>
    cases i with
    | zero => cases e; exact ⟨n, t, rfl⟩
    | succ i => exact ih e

theorem list_loop {prog : Program} {w : World} {A : Around} {s s' : Shared} {env : Env} {R : Result → Shared → Prop} {base g : Heap} {outer : List Env} {L I D : Addr} {ws : List Value} {ns : List Int} {x : Str} {px : Pos} {body : List Stmt}
    (hh : A.handled = none) (hI : IntsAre ws ns) (hne : D ≠ I) (h30 : 30 ≠ I) (start : LoopAt base outer g L I D ws s 0 s')
    (turn : ∀ i n t g' h' tk gens ps m oI, KtsTurn (frs outer) g g' → Below (AR 580 4800 outer) base outer g' → Fr g' L h' m → News g' L h' [(30, tobj ps), (I, oI), (D, lstO ws)] → oI.cls = .type "list_iterator" → oI.data = .fields #[.ref D, .int ((i + 1 : Nat) : Int) 0] → TriplesOk ps.toList → AllBare gens →
      wpAny (model prog w) A (assign (.Name x px) env (.int n t)) (fun _ s₂ => wpCal (model prog w) A (execs body env) (fun f s₃ => f = .next ∧ LoopAt base outer g L I D ws s (i + 1) s₃) FE s₂) FE { s with heap := h', toks := tk, gens := gens })
    (done : ∀ g' h' tk gens ps m, KtsTurn (frs outer) g g' → Below (AR 580 4800 outer) base outer g' → Fr g' L h' m → News g' L h' [(30, tobj ps)] → TriplesOk ps.toList → AllBare gens → R (.ok .next) { s with heap := h', toks := tk, gens := gens }) :
    codeCal (model prog w) A (.forLoop (.Name x px) (.ref I) body [] env) R s' := by
  have W := Walks.list (prog := prog) (w := w) (A := A) hh I D hne ws.toArray
  have hsz : ws.toArray.size = ws.length := List.size_toArray ..
  refine codeCal_forLoop (fun k s₁ => ∃ i, i ≤ ws.length ∧ k = ws.length + 1 - i ∧ LoopAt base outer g L I D ws s i s₁) ?_ (ws.length + 1) ⟨0, Nat.zero_le _, rfl, start⟩
  rintro k s₁ ⟨i, hi, rfl, g', h', tk, gens, ps, m, oI, rfl, TT, B, F, N, hc, hd', hT, hG⟩
  have st : h'.IsListIter I D i ∧ h'.IsList D ws.toArray := ⟨⟨oI, (N _ (.tail _ (.head _))).1, hc, hd'⟩, ⟨_, (N _ (.tail _ (.tail _ (.head _)))).1, rfl, 0, rfl⟩⟩
  have hIL : L ≠ I := Ne.symm (N _ (.tail _ (.head _))).2.1
  have hI0 : g'.get? I = none := (N _ (.tail _ (.head _))).2.2
  by_cases hlt : i < ws.length
  · refine W.item i _ _ _ (by rw [hsz]; exact hlt) st fun v h₂ tk₂ hv st₂ hk₂ => ?_
    obtain ⟨n, t, rfl⟩ := int_item hI hv
    obtain ⟨⟨oI', hoI', hc', hd2⟩, _⟩ := st₂
    have F₂ := LCg.fr_but F hk₂ hIL hI0
    have N₂ : News g' L h₂ [(30, tobj ps), (I, oI'), (D, lstO ws)] := List.forall_mem_cons.mpr ⟨⟨hk₂ _ _ (by simpa using h30) (N _ (.head _)).1, (N _ (.head _)).2⟩, List.forall_mem_cons.mpr ⟨⟨hoI', Ne.symm hIL, hI0⟩,
      List.forall_mem_cons.mpr ⟨⟨hk₂ _ _ (by simpa using hne) (N _ (.tail _ (.tail _ (.head _)))).1, (N _ (.tail _ (.tail _ (.head _)))).2⟩, List.forall_mem_nil _⟩⟩⟩
    refine wpAny_mono (turn i n t g' h₂ tk₂ gens ps m oI' TT B F₂ N₂ hc' hd2 hT hG) (fun _ s₂ h2 => wpCal_mono h2 (fun f s₃ h3 => ?_) fun _ _ e => e) fun _ _ e => e
    obtain ⟨rfl, h3⟩ := h3
    exact ⟨ws.length + 1 - (i + 1), by omega, i + 1, hlt, rfl, h3⟩
  · obtain rfl : i = ws.length := Nat.le_antisymm hi (Nat.not_lt.mp hlt)
    refine W.done _ _ _ (by rw [hsz]; exact st) fun h₂ tk₂ hk₂ => ?_
    refine wpAny_pure (done g' h₂ tk₂ gens ps m TT B (LCg.fr_but F hk₂ hIL hI0) ?_ hT hG)
    exact List.forall_mem_cons.mpr ⟨⟨hk₂ _ _ (by simpa using h30) (N _ (.head _)).1, (N _ (.head _)).2⟩, List.forall_mem_nil _⟩
end Mine
end

section
open PySem PySem.Calls PySem.W PyProof.Rows
set_option maxRecDepth 100000
set_option maxHeartbeats 8000000
namespace Mine
theorem fillit10 (w : World) (h : Heap) (X : (hd.heap_39 w.params).In h) : PySem.Challenge.rw_mg0046_01 = PySem.Challenge.rw_mg0046_01 ∧ (hd.heap_39 w.params).In h := by
  k_fill; exact ⟨rfl, X⟩
local macro_rules | `(tactic| k_room) => `(tactic| exact Nat.le_of_ble_eq_true rfl)

def StopMark7 (P : Prop) : Prop := P
theorem stop_here7 {P : Prop} (h : StopMark7 P) : P := h
local macro_rules | `(tactic| walk_at "call ref") => `(tactic| (k_here; (with_reducible first | show wpAny _ _ (call (Value.ref 108) _) _ _ _ | show wpAny _ _ (call (Value.ref 115) _) _ _ _ | show wpAny _ _ (call (Value.ref 122) _) _ _ _); refine stop_here7 ?_))
local macro_rules | `(tactic| walk_at "call ref") => `(tactic| (k_here; (with_reducible show wpAny _ _ (call (Value.ref 122) _) _ _ _); k_dflt ((refine' Mine.use (Mine.bare_does _ _ _ _ _ _ ?k1) ?k2 ?k3 ?k4 ?k5 ?k6 ?k7 ?k8 ?k9 ?c1 ?c2 ?c3 ?c4 ?c5 ?_); (case k2 => k_asm); (case k3 => k_asm); (case k4 => k_asm); (case k5 => k_asm); (case k6 => k_asm); (case k1 => exact Nat.lt_of_lt_of_le (m := 500) (by assumption) (by decide)); (case k7 => exact rfl); (case k8 => exact rfl); (case k9 => exact rfl); (case c1 => exact rfl); (case c2 => exact rfl); (case c3 => exact Nat.le_of_ble_eq_true rfl); (case c4 => exact Nat.le_of_ble_eq_true rfl); (case c5 => exact True.intro)); intro _ h' tk' F' N' _ _; (try k_sweep)))
local macro_rules | `(tactic| walk_at "call ref") => `(tactic| (k_here; (with_reducible show wpAny _ _ (call (Value.ref 115) _) _ _ _); k_dflt ((refine' Mine.use (Mine.cut_does _ _ _ _ _ _ ?k1) ?k2 ?k3 ?k4 ?k5 ?k6 ?k7 ?k8 ?k9 ?c1 ?c2 ?c3 ?c4 ?c5 ?_); (case k2 => k_asm); (case k3 => k_asm); (case k4 => k_asm); (case k5 => k_asm); (case k6 => k_asm); (case k1 => exact Nat.lt_of_lt_of_le (m := 500) (by assumption) (by decide)); (case k7 => exact rfl); (case k8 => exact rfl); (case k9 => exact rfl); (case c1 => exact rfl); (case c2 => exact rfl); (case c3 => exact Nat.le_of_ble_eq_true rfl); (case c4 => exact Nat.le_of_ble_eq_true rfl); (case c5 => exact True.intro)); intro _ h' tk' F' N' _ _; (try k_sweep)))
theorem pick7 {h₀ h : Heap} {L : Addr} {p0 p1 p2 p3 p4 p5 p6 : Addr × Obj} (N : News h₀ L h [p0, p1, p2, p3, p4, p5, p6]) : News h₀ L h [p4, p3, p1, p5, p6] := by
  have h := List.forall_mem_cons.mp N
  have h1 := List.forall_mem_cons.mp h.2
  have h2 := List.forall_mem_cons.mp h1.2
  have h3 := List.forall_mem_cons.mp h2.2
  have h4 := List.forall_mem_cons.mp h3.2
  have h5 := List.forall_mem_cons.mp h4.2
  have h6 := List.forall_mem_cons.mp h5.2
  exact List.forall_mem_cons.mpr ⟨h4.1, List.forall_mem_cons.mpr ⟨h3.1, List.forall_mem_cons.mpr ⟨h1.1, List.forall_mem_cons.mpr ⟨h5.1, List.forall_mem_cons.mpr ⟨h6.1, List.forall_mem_nil _⟩⟩⟩⟩⟩
theorem pick5 {h₀ h : Heap} {L : Addr} {p0 p1 p2 p3 p4 : Addr × Obj} (N : News h₀ L h [p0, p1, p2, p3, p4]) : News h₀ L h [p0, p3, p4] := by
  have h := List.forall_mem_cons.mp N
  have h1 := List.forall_mem_cons.mp h.2
  have h2 := List.forall_mem_cons.mp h1.2
  have h3 := List.forall_mem_cons.mp h2.2
  have h4 := List.forall_mem_cons.mp h3.2
  exact List.forall_mem_cons.mpr ⟨h.1, List.forall_mem_cons.mpr ⟨h3.1, List.forall_mem_cons.mpr ⟨h4.1, List.forall_mem_nil _⟩⟩⟩
theorem shapedL3 {a b c : Str} (h1 : PyData.strOk a = true) (h2 : PyData.strOk b = true) (h3 : PyData.strOk c = true) : SeqAt.shaped (.list [.str a, .str b, .str c]) = true := by
  simp [SeqAt.shaped, PyData.canLay0, PyData.canLayAll0, PyData.depth, PyData.depthAll, h1, h2, h3]
theorem ne3 {prog : Program} {w : World} {A : Around} {E : Value → Shared → Prop} {s : Shared} {Q : Value → Shared → Prop} {h₀ : Heap} {L a b : Addr} {news : List (Addr × Obj)} {x y z : Str} {t1 t2 t3 u1 u2 u3 : Tok}
    (N : News h₀ L s.heap news) (ha : (a, LCg.lst [.str x t1, .str y t2, .str z t3]) ∈ news) (hb : (b, LCg.lst [.str x u1, .str y u2, .str z u3]) ∈ news) (h1 : PyData.strOk x = true) (h2 : PyData.strOk y = true) (h3 : PyData.strOk z = true) (hu : A.units + 64 < cLine) (h : Q (.bool false) s) :
    wpAny (model prog w) A (compareOp .NotEq (.ref a) (.ref b)) Q E s := by
  have hsh := shapedL3 h1 h2 h3
  refine ne_dataH (reads_list_at (News.get N ha) rfl rfl (ReadsAll.cons (Reads.str _ _) (ReadsAll.cons (Reads.str _ _) (ReadsAll.cons (Reads.str _ _) ReadsAll.nil)))) (reads_list_at (News.get N hb) rfl rfl (ReadsAll.cons (Reads.str _ _) (ReadsAll.cons (Reads.str _ _) (ReadsAll.cons (Reads.str _ _) ReadsAll.nil)))) hsh hsh hu ?_
  have e : PyData.eqv (.list [.str x, .str y, .str z]) (.list [.str x, .str y, .str z]) = true := by simp [PyData.eqv, PyData.eqvAll]
  rw [e]
  exact h
local macro_rules | `(tactic| walk_at "compareOp NotEq ref ref") => `(tactic| (k_here; (with_reducible show wpAny _ _ (compareOp CmpOp.NotEq (Value.ref _) (Value.ref _)) _ _ _); k_dflt (refine ne3 (by k_asm) (by k_mem) (by k_mem) (by assumption) (by assumption) (by assumption) (by ke_room) ?_)))
local macro_rules | `(tactic| k_ne) => `(tactic| ((try dsimp only); (with_reducible rename ((_ ∧ _ ∧ _) ∧ _) => off9); first | with_reducible exact off9.1.1 | with_reducible exact off9.1.2.1 | with_reducible exact off9.1.2.2 | with_reducible exact off9.2.1.1 | with_reducible exact off9.2.1.2.1 | with_reducible exact off9.2.1.2.2 | with_reducible exact off9.2.2.1.1 | with_reducible exact off9.2.2.1.2.1 | with_reducible exact off9.2.2.1.2.2 | with_reducible exact off9.2.2.2.1.1 | with_reducible exact off9.2.2.2.1.2.1 | with_reducible exact off9.2.2.2.1.2.2 | with_reducible exact off9.2.2.2.2.1.1 | with_reducible exact off9.2.2.2.2.1.2.1 | with_reducible exact off9.2.2.2.2.1.2.2 | with_reducible exact off9.2.2.2.2.2.1.1 | with_reducible exact off9.2.2.2.2.2.1.2.1 | with_reducible exact off9.2.2.2.2.2.1.2.2 | with_reducible exact off9.2.1 | with_reducible exact off9.2.2.1 | with_reducible exact off9.2.2.2 | with_reducible exact off9.2.2.1 | with_reducible exact off9.2.2.2.1 | with_reducible exact off9.2.2.2.2 | with_reducible exact off9.2.2.2.1 | with_reducible exact off9.2.2.2.2.1 | with_reducible exact off9.2.2.2.2.2 | with_reducible exact off9.2.2.2.2.1 | with_reducible exact off9.2.2.2.2.2.1 | with_reducible exact off9.2.2.2.2.2.2 | with_reducible exact off9.2.2.2.2.2.1 | with_reducible exact off9.2.2.2.2.2.2.1 | with_reducible exact off9.2.2.2.2.2.2.2))
local macro_rules | `(tactic| walk_at "pyIter ref") => `(tactic| (k_here; refine stop_here7 ?_))

theorem law_does (w : World) (mean : ExcName → Option Value) (mg mb : Str → Option Value) (l : Addr) (vs : List Value) (ns : List Int) (hI : IntsAre vs ns) (hn : ns.length ≤ 63)
    (HF : ∀ x y z val r, RowOk x y z val r → (x.length < 500 ∧ y.length < 500 ∧ z.length < 500 ∧ r.length < 100) ∧ PyData.strOk (stripF x) = true ∧ PyData.strOk (stripF y) = true ∧ PyData.strOk (stripF z) = true)
    (HH : ∀ x y z val r, RowOk x y z val r → ∀ l tx ty tz tv tr, DoesG w mean mg mb 590 4900 134 [.ref l, optV val tv, .str r tr] (fun g => g.IsList l #[.str x tx, .str y ty, .str z tz]) (ι := Unit) (fun _ => .bool true) (fun _ => []) (fun _ => True))
    (HC : ∀ x y z val r, RowOk x y z val r → ∀ l tx ty tz tv tr, DoesG w mean mg mb 590 4900 134 [.ref l, optV val tv, .str r tr] (fun g => g.IsList l #[.str (stripF x) tx, .str (stripF y) ty, .str (stripF z) tz]) (ι := Unit) (fun _ => .bool true) (fun _ => []) (fun _ => True)) :
    DoesG w mean mg mb 580 4800 139 [.ref l] (fun g => g.IsList l vs.toArray) (ι := Unit) (fun _ => .bool true) (fun _ => []) (fun _ => True) := by
  intro base outer s g ps R B XB TB hk hsz h30 hps hT hG hlst hret
  w_on
  refine' Mine.enterG (binds := [(Str.ofString "script", .ref l)]) B XB TB hk hsz h30 hps ?k6 ?k7 ?k8 ?k9 ?kB ?_ ?c2 ?c3 ?c4 ?c5
  (case k6 => k_is)
  (case k7 => k_is)
  (case k8 => exact Nat.le_of_ble_eq_true rfl)
  (case k9 => exact BindsTo.of_eq rfl)
  (case kB => exact locs rfl)
  (case c2 => exact rfl)
  (case c3 => exact rfl)
  (case c4 => exact rfl)
  (case c5 => decide)
  intro L' h' F' N' X T
  (try dsimp only)
  refine wpCal_execs_cons (wpCal_For ?_)
  k_fold
  k_steps
  unfold StopMark7
  (try k_unfold)
  (rename Fr g L' _ _ => F9)
  (rename News g L' _ _ => N9)
  (rename IntsAre _ (_ ++ _) => hI9)
  (rename_i Da wa ha hIa hCa hLa la lb hb lc D9 ws9 h9 l9)
  have hl9 : h9.IsList D9 ws9.toArray := News.isList N9 (.head _)
  refine wpAny_pyIter_list hl9 ?_
  dsimp only
  have hD9 := Heap.lt_size (N9 _ (.head _)).1
  have N30 := N9 _ (.tail _ (.tail _ (.tail _ (.head _))))
  have h30' := Heap.lt_size N30.1
  have hIn : g.get? h9.objs.size = none := next_is_new F9
  refine list_loop (base := base) (g := g) (outer := outer) (D := D9) rfl hI9 (Nat.ne_of_lt hD9) (Nat.ne_of_lt h30') ⟨g, _, _, _, ps, _, { cls := .type "list_iterator", data := .fields #[.ref D9, .int 0 0] }, rfl, KtsTurn.refl, B, F9.push _, ?_, rfl, rfl, hT, hG⟩ ?_ ?_
  · have up : ∀ b o, h9.get? b = some o → (h9.push { cls := .type "list_iterator", data := .fields #[.ref D9, .int 0 0] }).get? b = some o := fun b o e => Heap.get?_push_of_some _ e
    exact List.forall_mem_cons.mpr ⟨⟨up _ _ N30.1, N30.2⟩, List.forall_mem_cons.mpr ⟨⟨Heap.get?_push_size _ rfl, Ne.symm (Nat.ne_of_lt F9.ns.lt), hIn⟩, List.forall_mem_cons.mpr ⟨⟨up _ _ (N9 _ (.head _)).1, (N9 _ (.head _)).2⟩, List.forall_mem_nil _⟩⟩⟩
  · clear F9 N9 X T B hIa hCa hLa la lc l9 hI9 N30 h30' hD9 hl9 hIn hret hlst hps hk hsz hI hn hT hG ha hb
    clear Da wa lb
    generalize h9.objs.size = I9
    intro i5 n5 t5 g5 h5 tk5 gens5 ps5 m5 oI5 TT5 B5 F5 N5 hc5 hd5 hT5 hG5
    have X5 := XB.keeps B5.stays
    have T5 := TB.keeps B5.stays
    k_steps
    refine wpCal_execs_cons (wpCal.of ?_)
    k_fold
    k_steps
    unfold StopMark7
    (rename Fr g5 L' _ _ => F4)
    refine use (row_does _ _ _ _ _ _) B5 F4 X5 (by assumption) T5 rfl rfl rfl rfl rfl (Nat.le_of_ble_eq_true rfl) (Nat.le_of_ble_eq_true rfl) True.intro ?_
    intro ri h4 tk4 F3 N3 _ hP
    obtain ⟨tA, lA, sx, sy, sz, val, rr, t1, t2, t3, t4, t5'⟩ := ri
    obtain ⟨hrow, hnews⟩ := hP
    dsimp only at hrow
    have N2 := News.addW (News.addW N3 F4 (hnews _ (.tail _ (.head _))).1 (hnews _ (.tail _ (.head _))).2) F4 (hnews _ (.head _)).1 (hnews _ (.head _)).2
    (try dsimp only at N2)
    clear N3 F4 hnews
    obtain ⟨⟨hx, hy, hz, hr⟩, okx, oky, okz⟩ := HF _ _ _ _ _ hrow
    (try k_sweep)
    k_steps
    (try k_unfold)
    (try dsimp only)
    (try k_sweep)
    (rename Fr g5 L' _ _ => F4)
    (rename News g5 L' _ _ => N4)
    refine wpCal_execs_cons (wpCal.of ?_)
    k_fold
    refine LCg.Assign_ListComp_U (F₀ := F4) rfl (by with_unfolding_all rfl) rfl (by decide) rfl (by decide) rfl rfl rfl ?_
    refine wpAny_Name (wpAny_loadName_local rfl rfl F4.ns rfl ?_) (by decide)
    refine LCg.CompSrc.ledger rfl F4 N4 (.tail _ (.head _)) (Nat.le_of_ble_eq_true rfl) ?_
    intro g9
    lcg_lit
    clear F4 N4
    k_steps
    (try k_unfold)
    (try dsimp only)
    (try k_sweep)
    (rename Fr g5 L' _ _ => F2)
    (rename News g5 L' _ _ => N2)
    refine wpCal_execs_cons (wpCal_If (wpCal.of ?_))
    k_fold
    refine wpAny_isTrue_Compare1 ?_
    refine wpAny_Name (wpAny_loadName_local rfl rfl F2.ns rfl ?_) (by decide)
    refine LCg.ListComp_U (F₀ := F2) rfl (by decide) rfl (by decide) rfl ?_
    refine wpAny_Name (wpAny_loadName_local rfl rfl F2.ns rfl ?_) (by decide)
    refine LCg.CompSrc.ledger rfl F2 N2 (.tail _ (.tail _ (.head _))) (Nat.le_of_ble_eq_true rfl) ?_
    intro g8
    lcg_lit
    clear F2 N2
    k_steps
    (try k_unfold)
    (try dsimp only)
    (try k_sweep)
    refine wpCal_execs_nil ?_
    (try dsimp only)
    (rename Fr g5 L' _ _ => F1)
    (rename News g5 L' _ _ => N1)
    have N0 : News g5 L' _ [(30, tobj ps5), (lA, _), (_, _), (I9, oI5), (D9, lstO ws9)] := pick7 N1
    clear N1
    refine wpCal_execs_cons (wpCal_If (wpCal_isTrue_or2 (wpCal_isTrue_not (wpCal_isTrue_plain (wpCal_Call_Name ?_)))))
    k_steps
    refine cal_callWith_K (K := hd.heap_39 w.params) (by k_is) ?_
    k_steps
    refine useG (A := (AR 580 4800 outer).deeper _) (HH _ _ _ _ _ hrow lA t1 t2 t3 t4 t5') B5 F1 XB TB N0 hT5 hG5 (List.forall_mem_cons.mpr ⟨(by intro q; cases q), List.forall_mem_cons.mpr ⟨(by intro q; cases q), List.forall_mem_cons.mpr ⟨(by show oI5.cls ≠ _; rw [hc5]; intro q; cases q), List.forall_mem_cons.mpr ⟨(by intro q; cases q), List.forall_mem_nil _⟩⟩⟩⟩) rfl rfl rfl rfl (Nat.le_of_ble_eq_true rfl) (Nat.le_of_ble_eq_true rfl) (fun _ hg9 _ => ⟨_, hg9 _ (.head _), rfl, _, rfl⟩) ?_
    intro _ h1 tk1 gens1 ps1 g1 TT1 B1 F0 N0' X1 T1 hT1 hG1 _
    clear F1 N0 X5 T5 B5
    (try dsimp only at F0 N0' ⊢)
    simp only [List.nil_append] at N0'
    k_steps
    refine wpCal_isTrue_not (wpCal_isTrue_plain (wpCal_Call_Name ?_))
    k_steps
    refine cal_callWith_K (K := hd.heap_39 w.params) (by k_is) ?_
    k_steps
    refine useG (A := (AR 580 4800 outer).deeper _) (HC _ _ _ _ _ hrow _ _ _ _ t4 t5') B1 F0 XB TB N0' hT1 hG1 (List.forall_mem_cons.mpr ⟨(by intro q; cases q), List.forall_mem_cons.mpr ⟨(by intro q; cases q), List.forall_mem_cons.mpr ⟨(by show oI5.cls ≠ _; rw [hc5]; intro q; cases q), List.forall_mem_cons.mpr ⟨(by intro q; cases q), List.forall_mem_nil _⟩⟩⟩⟩) rfl rfl rfl rfl (Nat.le_of_ble_eq_true rfl) (Nat.le_of_ble_eq_true rfl) (fun _ hg9 _ => ⟨_, hg9 _ (.tail _ (.head _)), rfl, _, rfl⟩) ?_
    intro _ h0 tk0 gens0 ps0 g0 TT0 B0 Fz Nz X0 T0 hT0 hG0 _
    clear F0 N0' X1 T1 B1
    (try dsimp only at Fz Nz ⊢)
    simp only [List.nil_append] at Nz
    k_steps
    refine wpCal_execs_nil ?_
    (try dsimp only)
    refine wpCal_execs_nil ?_
    (try dsimp only)
    exact ⟨rfl, g0, h0, tk0, gens0, ps0, _, oI5, rfl, (TT5.trans TT1).trans TT0, B0, Fz, pick5 Nz, hc5, hd5, hT0, hG0⟩
  · intro g5 h5 tk5 gens5 ps5 m5 TT5 B5 F5 N5 hT5 hG5
    dsimp only
    have X5 := XB.keeps B5.stays
    have T5 := TB.keeps B5.stays
    refine wpCal.of ?_
    clear F9 N9 X T B
    k_steps
    (try dsimp only)
    exact hret () g5 h5 _ _ ps5 TT5 F5.keep (News.get (o := tobj ps5) N5 (.head _)) hT5 hG5 (List.forall_mem_nil _) True.intro
end Mine
end

section
open PySem PySem.Calls PySem.W PyProof.Rows
set_option maxRecDepth 100000
set_option maxHeartbeats 4000000
namespace Mine
theorem fillit11 (w : World) (h : Heap) (X : (hd.heap_39 w.params).In h) : PySem.Challenge.rw_mg0046_01 = PySem.Challenge.rw_mg0046_01 ∧ (hd.heap_39 w.params).In h := by
  k_fill; exact ⟨rfl, X⟩
theorem k30 (w : World) : (hd.heap_39 w.params).lookup 30 = none := by
  k_fill
  rfl
theorem in_hide {w : World} {h : Heap} (X : (hd.heap_39 w.params).In h) : (hd.heap_39 w.params).In (hideAll h [30]) := fun a o e => hideAll_get _ (X a o e) (fun q => by
  rw [List.mem_singleton.mp q, k30] at e; cases e)
theorem ns_hide {h : Heap} {a : Addr} {m : Str → Option Value} (n : h.Ns a m) (ha : a ≠ 30) : (hideAll h [30]).Ns a m :=
  let ⟨o, es, ep, e, r⟩ := n; ⟨o, es, ep, hideAll_get _ e (fun q => ha (List.mem_singleton.mp q)), r⟩
theorem top_hide {mean : ExcName → Option Value} {mg mb : Str → Option Value} {h : Heap} {ps : Array Value} (T : Top p0 l0 mean mg mb h) (hps : h.get? 30 = some (tobj ps)) : Top p0 l0 mean mg mb (hideAll h [30]) where
  g := ns_hide T.g (by decide)
  b := ns_hide T.b (by decide)
  nolimit := let ⟨mc, h1, h2⟩ := T.nolimit; ⟨mc, ns_hide h1 (by decide), h2⟩
  nodigits := let ⟨mc, h1, h2⟩ := T.nodigits; ⟨mc, ns_hide h1 (by decide), h2⟩
  fn := fun d hd => nomatch hd
  own := fun o ho => nomatch ho
  const := fun x d e => by cases e
  free := T.free
  builtins := T.builtins
  tab := fun d hd => nomatch hd
  bmain := by
    obtain ⟨bm, ob, h1, h2, h3, h4, h5⟩ := T.bmain
    refine ⟨bm, ob, h1, h2, hideAll_get _ h3 (fun q => ?_), h4, h5⟩
    rw [List.mem_singleton.mp q, hps] at h3
    cases h3; cases h4
  seer := fun hi => by
    have S := T.seer hi
    refine ⟨?_, ?_, ?_, ?_⟩
    · obtain ⟨mc, h1, h2⟩ := S.statics
      exact ⟨mc, ns_hide h1 (by decide), h2⟩
    · obtain ⟨mc, h1, h2⟩ := S.mods
      exact ⟨mc, ns_hide h1 (by decide), h2⟩
    · obtain ⟨mc, h1, h2⟩ := S.imp
      exact ⟨mc, ns_hide h1 (by decide), h2⟩
    · obtain ⟨mc, bm, ob, h1, h2, h3, h4, h5⟩ := S.main
      refine ⟨mc, bm, ob, ns_hide h1 (by decide), h2, hideAll_get _ h3 (fun q => ?_), h4, h5⟩
      rw [List.mem_singleton.mp q, hps] at h3
      cases h3; cases h4

/-- where _platform's code table stands at the start: empty, at 30 -/
theorem tab30 {w : World} {mean : ExcName → Option Value} {mg mb : Str → Option Value} {h : Heap} {loose : List Str} (X : (hd.heap_39 w.params).In h) (T : Top hd.view_39 loose mean mg mb h) : h.get? 30 = some (tobj #[]) ∧ isCodeTable h 30 := by
  have ha : (recsOf hd.view_39).any (fun d => d.name == Str.ofString "_platform") = true := by decide +kernel
  obtain ⟨d, hd1, hd2⟩ := List.any_eq_true.mp ha
  have hd2 := eq_of_beq hd2
  obtain ⟨a, o, fd, c, P, h1, h2, h3, h4, _, h5, h6⟩ := T.tab d hd1
  rw [hd2] at h1
  w_on
  have e1 : mg (Str.ofString "_platform") = some (.ref 35) := mg_of X T.g (by k_is)
  rw [h1] at e1
  injection e1 with e1
  injection e1 with e1
  subst e1
  have e2 : h.get? 35 = some _ := X 35 _ (by k_is)
  rw [h2] at e2
  injection e2 with e2
  subst e2
  injection h3 with h3
  subst h3
  have e3 : Value.ref 34 = .ref c := h4
  injection e3 with e3
  subst e3
  obtain ⟨o', vs', g1, g2, g3, g4⟩ := h5
  have e4 : h.get? 34 = some _ := X 34 _ (by k_is)
  rw [g1] at e4
  injection e4 with e4
  subst e4
  injection g3 with g3
  subst g3
  have e5 : some (Value.ref 30) = some (.ref P) := g4
  injection e5 with e5
  injection e5 with e5
  subst e5
  exact ⟨h6, 34, _, _, g1, rfl, rfl, rfl⟩
end Mine
end

section
open PySem PySem.Calls PySem.W PyProof.Rows
set_option maxRecDepth 100000
set_option maxHeartbeats 8000000
namespace Mine
theorem fillit12 (w : World) (h : Heap) (X : (hd.heap_39 w.params).In h) : PySem.Challenge.rw_mg0046_01 = PySem.Challenge.rw_mg0046_01 ∧ (hd.heap_39 w.params).In h := by
  k_fill; exact ⟨rfl, X⟩
theorem old30 {h h' g' : Heap} {ps : Array Value} (h0 : h.get? 30 = some (tobj #[])) (hc : isCodeTable h 30) (TT : KtsTurn (frs []) (hideAll h [30]) g') (k : Kept g' h') (h1 : h'.get? 30 = some (tobj ps)) : OldK h h' := by
  have key : ∀ b o, h.get? b = some o → b ≠ 30 → h'.get? b = some o := fun b o e hb => k b o (TT.other b o (hideAll_get _ e (fun q => hb (List.mem_singleton.mp q))) (by intro q; cases q))
  refine ⟨fun b o e => ?_, fun b o e => ?_⟩
  · by_cases hb : b = 30
    · subst hb
      rw [h0] at e
      cases e
      exact .inr (.inl ⟨hc, rfl, #[], ps, rfl, by rw [h1]; simp⟩)
    · exact .inl (key b o e hb)
  · by_cases hb : b = 30
    · subst hb
      exact ⟨_, h1⟩
    · exact ⟨o, key b o e hb⟩
theorem fin_ok {cl : Str → Option Addr} {mean : ExcName → Option Value} {ns : List Int} {s₁ s' : Shared} (o1 : OldK s₁.heap s'.heap) (o2 : s'.os = s₁.os) (o3 : AllBare s'.gens) :
    GoodWG PySem.Challenge.rw_mg0046_01.row.claim cl mean [ofPy (PyData.list (List.map PyData.int ns))] s₁ (.ok (.ret (.bool true))) s' :=
  ⟨.inl ⟨.bool true, .bool true, [], rfl, (raisesW_false (by wrow_none_raised)), .bool true, (postW_of rfl (w_eq_bool (w_res rfl) w_lit) rfl), unshared_nil⟩, o1, o2, o3⟩
theorem runC_any {M : Model} {A : Around} {f : Value} {vs : List Value} {Q E : Value → Shared → Prop} {s : Shared} (h1 : wpCal M A (PySem.call f vs) Q E s) (h2 : Q (.bool true) s) : wpAny M A (runC f vs) Q E s := by
  intro Γ p hΓ
  have e1 : Sem.wp M Γ (runC f vs) (fun a _ s' => Q a s') (fun e _ s' => E e s') p s = Sem.wp M Γ (if hasCal ((Γ.code, p) :: Γ.below) = true then PySem.call f vs else .pure (.bool true)) (fun a _ s' => Q a s') (fun e _ s' => E e s') p s := Sem.wp_stack ..
  rw [e1]
  by_cases hc : hasCal ((Γ.code, p) :: Γ.below) = true
  · rw [if_pos hc]
    exact h1 Γ p hΓ fun _ => hc
  · rw [if_neg hc]
    exact h2
theorem list_hide {h : Heap} {a : Addr} {its : Array Value} {ps : Array Value} (hl : h.IsList a its) (h30 : h.get? 30 = some (tobj ps)) : (hideAll h [30]).IsList a its := by
  obtain ⟨o, e, hc, r⟩ := hl
  refine ⟨o, hideAll_get _ e (fun q => ?_), hc, r⟩
  rw [List.mem_singleton.mp q, h30] at e
  cases e
  cases hc
theorem imp39 : importsNone hd.view_39 = true := by decide +kernel

theorem tp
    (HF : ∀ x y z val r, RowOk x y z val r → (x.length < 500 ∧ y.length < 500 ∧ z.length < 500 ∧ r.length < 100) ∧ PyData.strOk (stripF x) = true ∧ PyData.strOk (stripF y) = true ∧ PyData.strOk (stripF z) = true)
    (HH : ∀ w mean mg mb x y z val r, RowOk x y z val r → ∀ l tx ty tz tv tr, DoesG w mean mg mb 590 4900 134 [.ref l, optV val tv, .str r tr] (fun g => g.IsList l #[.str x tx, .str y ty, .str z tz]) (ι := Unit) (fun _ => .bool true) (fun _ => []) (fun _ => True))
    (HC : ∀ w mean mg mb x y z val r, RowOk x y z val r → ∀ l tx ty tz tv tr, DoesG w mean mg mb 590 4900 134 [.ref l, optV val tv, .str r tr] (fun g => g.IsList l #[.str (stripF x) tx, .str (stripF y) ty, .str (stripF z) tz]) (ι := Unit) (fun _ => .bool true) (fun _ => []) (fun _ => True)) :
    PySem.Challenge.rw_mg0046_01.Holds := hd (by
  w_on
  intro w s₀ s₁ mg mb G Y fa o pm cd doc dV kV ho hd9 hcd hD hmg hg args vals as hpre hlay hrd hwl hlo
  have KX := kIn_of Y
  refine Ground.open G ?_
  intro T B D TE TW
  clear hd9 hcd hD B D TE TW G Y
  have e9 : mg (Str.ofString "law") = some (.ref 139) := mg_of KX T.g (by k_is)
  have e8 : some (Value.ref fa) = some (.ref 139) := hmg.symm.trans e9
  injection e8 with e8
  injection e8 with e8
  subst e8
  clear hmg ho
  wrow_args hpre hlay hrd hwl hlo
  (rename IntsAre _ _ => hI9)
  (rename Heap.IsList _ _ _ => hL9)
  obtain ⟨h30, hct⟩ := tab30 KX T
  have T0 := top0 T imp39
  refine runC_any ?_ (fin_ok (.of_keep fun _ _ e => e) rfl (AllBare.of_eq hg))
  refine wpCal_call (cal_wider (law_does w _ mg mb _ _ _ hI9 (by omega) HF (fun x y z val r => HH w _ mg mb x y z val r) (fun x y z val r => HC w _ mg mb x y z val r) (hideAll s₁.heap [30]) [] s₁ (hideAll s₁.heap [30]) #[] _ ⟨rfl, fun _ _ e => e, trivial⟩ (in_hide KX) (top_hide T0 h30) (fun b o e => of_hideAll _ e) (Nat.le_of_eq (hideAll_size _ _)) (hideAll_none _ (.head _)) h30 (by simp [TriplesOk]) (AllBare.of_eq hg) (list_hide hL9 h30) ?_) rfl rfl rfl (by decide) (by decide))
  · intro _ g' h' tk' gens' ps' TT k hp _ hG' _ _
    exact fin_ok (old30 h30 hct TT k hp) rfl hG')
end Mine
end

section
open PySem PySem.Calls PySem.W PySem.NumText PyProof.Rows PySem.StrLaws
set_option maxRecDepth 100000
set_option maxHeartbeats 4000000
namespace Mine

theorem drop_isB : ∀ (g t : List Nat), (∀ c ∈ g, isB c = true) → (g ++ t).dropWhile isB = t.dropWhile isB
  | [], _, _ => rfl
  | c :: g, t, h => by
    rw [List.cons_append, List.dropWhile_cons, h c (.head _), if_pos rfl]
    exact drop_isB g t fun d hd => h d (.tail _ hd)
theorem drop_hd {c : Nat} {t : List Nat} (h : isB c = false) : (c :: t).dropWhile isB = c :: t := by
  rw [List.dropWhile_cons, h]; rfl
theorem strip_mid {ld t g : List Nat} {c d : Nat} {r u : List Nat} (hl : ∀ e ∈ ld, isB e = true) (hg : ∀ e ∈ g, isB e = true) (ht : t = c :: r) (htl : t = u ++ [d]) (hc : isB c = false) (hd : isB d = false) : stripL (ld ++ t ++ g) = t := by
  unfold stripL
  have e1 : (ld ++ t ++ g).dropWhile isB = t ++ g := by
    rw [List.append_assoc, drop_isB _ _ hl, ht, List.cons_append, drop_hd hc]
  rw [e1, List.reverse_append, drop_isB _ _ (fun e he => hg e (List.mem_reverse.mp he))]
  have e3 : t.reverse = d :: u.reverse := by rw [htl]; simp
  rw [e3, drop_hd hd, ← e3, List.reverse_reverse]
theorem strip_blank {l : List Nat} (h : ∀ e ∈ l, isB e = true) : stripL l = [] := by
  unfold stripL
  have e : l.dropWhile isB = [] := by
    have := drop_isB l [] h
    rw [List.append_nil] at this
    exact this
  rw [e]; rfl
theorem drop_last : ∀ (l : List Nat) {c : Nat}, isB c = false → ∃ u, (l ++ [c]).dropWhile isB = u ++ [c]
  | [], c, h => ⟨[], drop_hd h⟩
  | a :: l, c, h => by
    rw [List.cons_append, List.dropWhile_cons]
    cases isB a with
    | true =>
      obtain ⟨u, e⟩ := drop_last l h
      exact ⟨u, e⟩
    | false => exact ⟨a :: l, rfl⟩
theorem strip_head {ld t : List Nat} {c : Nat} (hl : ∀ e ∈ ld, isB e = true) (hc : isB c = false) : ∃ t', stripL (ld ++ c :: t) = c :: t' := by
  unfold stripL
  rw [drop_isB _ _ hl, drop_hd hc, List.reverse_cons]
  obtain ⟨u, e⟩ := drop_last t.reverse hc
  rw [e]
  exact ⟨u.reverse, by simp⟩

theorem tab_of {L : List Str} {x : Str} {p : Str → Bool} (h : x ∈ L) (t : L.all p = true) : p x = true := List.all_eq_true.mp t x h
theorem lead_cases {x : Str} (h : x ∈ leadL) : x.cps.toList = [] ∨ x.cps.toList = [32] ∨ x.cps.toList = [9] := by
  have := tab_of h (p := fun x => x.cps.toList == [] || (x.cps.toList == [32] || x.cps.toList == [9])) (by decide +kernel)
  simpa [Bool.or_eq_true, beq_iff_eq] using this
theorem gap_blank {x : Str} (h : x ∈ gapL) : ∀ e ∈ x.cps.toList, e = 32 ∨ e = 9 := by
  have := tab_of h (p := fun x => x.cps.toList.all fun e => e == 32 || e == 9) (by decide +kernel)
  intro e he
  have := List.all_eq_true.mp this e he
  simpa [Bool.or_eq_true, beq_iff_eq] using this
theorem rest_cases {x : Str} (h : x ∈ restL) : x.cps.toList = [] ∨ ∃ t u d, x.cps.toList = 46 :: t ∧ x.cps.toList = u ++ [d] ∧ isB d = false ∧ 46 ∉ t := by
  simp only [restL, List.mem_cons, List.not_mem_nil, or_false] at h
  rcases h with rfl | rfl | rfl | rfl
  · exact .inl (by decide +kernel)
  · exact .inr ⟨[56], [46], 56, by decide +kernel, by decide +kernel, by decide, by decide⟩
  · exact .inr ⟨[49, 48, 32, 83, 80], [46, 49, 48, 32, 83], 80, by decide +kernel, by decide +kernel, by decide, by decide⟩
  · exact .inr ⟨[], [], 46, by decide +kernel, by decide +kernel, by decide, by decide⟩
theorem rest_ok {x : Str} (h : x ∈ restL) : RestOk x := by
  rcases rest_cases h with h | ⟨t, _, _, h, _, _, ht⟩
  · exact .inl h
  · exact .inr ⟨⟨t.toArray⟩, by rw [mk_list]; exact h, by rw [mk_list]; exact ht⟩

/-- a row's core at the level of lists -/
theorem core_cases {m : Int} {core : Str} {val : Option Int} (h0 : 0 ≤ m) (h1 : m < 1000) (h : CoreOk m core val) :
    (CoreL core.cps.toList val ∨ (∃ t, core.cps.toList = 43 :: t) ∨ core.cps.toList = []) ∧ Good core.cps.toList ∧ core.length < 100 ∧ (∀ v, val = some v → 0 ≤ v ∧ v < 100000) := by
  have hm := m_list h0 h1
  have hlt : m.toNat < 1000 := by omega
  have hcast : ((m.toNat : Nat) : Int) = m := Int.toNat_of_nonneg h0
  have gd := digits_good (dg_digits hlt)
  have hl3 : (dg m.toNat).length ≤ 3 := by
    obtain ⟨_, _, e, _, hr⟩ := dg_head hlt
    rw [e, List.length_cons]; omega
  have hl : (mTxt m).length ≤ 3 := by rw [← toList_length, hm]; exact hl3
  cases h with
  | plain =>
    refine ⟨.inl ?_, by rw [hm]; exact gd, by omega, ?_⟩
    · rw [hm]
      have := CoreL.plain m.toNat hlt
      rw [hcast] at this; exact this
    · intro v hv; cases hv; omega
  | under =>
    have e : (Str.ofString "_0").cps.toList = [95, 48] := by decide +kernel
    refine ⟨.inl ?_, ?_, ?_, ?_⟩
    · rw [app_list, hm, e]
      have := CoreL.under m.toNat hlt
      rw [hcast] at this; exact this
    · rw [app_list, hm]; exact good_app gd (goodB_is (by decide +kernel))
    · rw [Str.length_append]
      have : (Str.ofString "_0").length ≤ 2 := by decide +kernel
      omega
    · intro v hv; cases hv; omega
  | b =>
    have e : (Str.ofString "b").cps.toList = [98] := by decide +kernel
    refine ⟨.inl ?_, ?_, ?_, fun v hv => by cases hv⟩
    · rw [app_list, hm, e]; exact CoreL.b m.toNat hlt
    · rw [app_list, hm]; exact good_app gd (goodB_is (by decide +kernel))
    · rw [Str.length_append]
      have : (Str.ofString "b").length ≤ 2 := by decide +kernel
      omega
  | v =>
    have e : (Str.ofString "V").cps.toList = [86] := by decide +kernel
    refine ⟨.inl ?_, ?_, ?_, fun v hv => by cases hv⟩
    · rw [app_list, hm, e]; exact CoreL.v m.toNat hlt
    · rw [app_list, hm]; exact good_app (goodB_is (by decide +kernel)) gd
    · rw [Str.length_append]
      have : (Str.ofString "V").length ≤ 2 := by decide +kernel
      omega
  | plus =>
    have e : (Str.ofString "+").cps.toList = [43] := by decide +kernel
    refine ⟨.inr (.inl ⟨dg m.toNat, by rw [app_list, hm, e]; rfl⟩), ?_, ?_, fun v hv => by cases hv⟩
    · rw [app_list, hm]; exact good_app (goodB_is (by decide +kernel)) gd
    · rw [Str.length_append]
      have : (Str.ofString "+").length ≤ 2 := by decide +kernel
      omega
  | nil =>
    refine ⟨.inr (.inr (by decide +kernel)), goodB_is (by decide +kernel), by decide +kernel, fun v hv => by cases hv⟩

theorem core_ends {q : List Nat} {val : Option Int} (h : CoreL q val) : ∃ c r u d, q = c :: r ∧ q = u ++ [d] ∧ isB c = false ∧ isB d = false := by
  have nb : ∀ {c : Nat}, 33 ≤ c → isB c = false := fun {c} hc => by
    unfold isB
    rw [beq_eq_false_iff_ne.mpr (by omega), beq_eq_false_iff_ne.mpr (by omega)]; rfl
  cases h with
  | plain m hm =>
    obtain ⟨c, r, e, _, _⟩ := dg_head hm
    obtain ⟨u, d, e2⟩ := snoc_of (l := dg m) (by rw [e]; simp)
    have h1 := dg_digits hm c (by rw [e]; exact .head _)
    have h2 := dg_digits hm d (by rw [e2]; simp)
    exact ⟨c, r, u, d, e, e2, nb (by omega), nb (by omega)⟩
  | under m hm =>
    obtain ⟨c, r, e, _, _⟩ := dg_head hm
    have h1 := dg_digits hm c (by rw [e]; exact .head _)
    exact ⟨c, r ++ [95, 48], dg m ++ [95], 48, by rw [e]; rfl, by simp, nb (by omega), nb (by omega)⟩
  | b m hm =>
    obtain ⟨c, r, e, _, _⟩ := dg_head hm
    have h1 := dg_digits hm c (by rw [e]; exact .head _)
    exact ⟨c, r ++ [98], dg m, 98, by rw [e]; rfl, rfl, nb (by omega), nb (by omega)⟩
  | v m hm =>
    obtain ⟨c, r, e, _, _⟩ := dg_head hm
    obtain ⟨u, d, e2⟩ := snoc_of (l := dg m) (by rw [e]; simp)
    have h2 := dg_digits hm d (by rw [e2]; simp)
    exact ⟨86, dg m, [86] ++ u, d, rfl, by rw [e2]; simp, nb (by omega), nb (by omega)⟩

theorem blank_isB {g : List Nat} (h : ∀ e ∈ g, e = 32 ∨ e = 9) : ∀ e ∈ g, isB e = true := fun e he => by
  rcases h e he with rfl | rfl <;> rfl

structure YFacts (y : Str) (val : Option Int) (r : Str) : Prop where
  form : YForm y.cps.toList val r
  formS : YForm (stripF y).cps.toList val r
  good : Good y.cps.toList
  len : y.length < 300
  val : ∀ v, val = some v → 0 ≤ v ∧ v < 100000
  restOk : RestOk r
  restGood : Good r.cps.toList
  restLen : r.length < 100

theorem y_facts {x y z r : Str} {val : Option Int} (h : RowOk x y z val r) : YFacts y val r := by
  obtain ⟨_, _, hrest, m, lead, core, gap, h0, h1, hlead, hgap, hcore, rfl⟩ := h
  obtain ⟨hc, gc, lc, hv⟩ := core_cases h0 h1 hcore
  have hld := lead_cases hlead
  have hgp := gap_blank hgap
  have hrs := rest_cases hrest
  have ll := len_of (n := 20) hlead (by decide +kernel)
  have lg := len_of (n := 20) hgap (by decide +kernel)
  have lr := len_of (n := 20) hrest (by decide +kernel)
  have gl : Good lead.cps.toList := goodB_is (tab_of hlead (p := goodB) (by decide +kernel))
  have gg : Good gap.cps.toList := goodB_is (tab_of hgap (p := goodB) (by decide +kernel))
  have gr : Good r.cps.toList := goodB_is (tab_of hrest (p := goodB) (by decide +kernel))
  have hy : (lead ++ core ++ gap ++ r).cps.toList = lead.cps.toList ++ core.cps.toList ++ gap.cps.toList ++ r.cps.toList := by rw [app_list, app_list, app_list]
  have hlb : ∀ e ∈ lead.cps.toList, isB e = true := by
    rcases hld with e | e | e <;> rw [e]
    · intro e he; cases he
    · intro e he; rw [List.mem_singleton.mp he]; rfl
    · intro e he; rw [List.mem_singleton.mp he]; rfl
  have hgb := blank_isB hgp
  refine ⟨?_, ?_, ?_, ?_, hv, rest_ok hrest, gr, by omega⟩
  · rw [hy]
    rcases hld with e | e | e
    · rw [e, List.nil_append]
      rcases hc with hc | ⟨t, hc⟩ | hc
      · exact .inr ⟨_, _, hgp, rfl, hc⟩
      · rw [hc]
        exact .inl (.inr ⟨43, _, rfl, by decide⟩)
      · rw [hc, List.nil_append]
        refine .inl ?_
        cases eg : gap.cps.toList with
        | nil =>
          rcases hrs with er | ⟨t, _, _, er, _⟩
          · rw [er]; exact .inl rfl
          · rw [er]; exact .inr ⟨46, t, rfl, by decide⟩
        | cons a s =>
          have ha := hgp a (by rw [eg]; exact .head _)
          exact .inr ⟨a, _, rfl, by omega⟩
    · rw [e]; exact .inl (.inr ⟨32, _, rfl, by decide⟩)
    · rw [e]; exact .inl (.inr ⟨9, _, rfl, by decide⟩)
  · rw [stripF_list, hy]
    rcases hc with hc | ⟨t, hc⟩ | hc
    · obtain ⟨c, r', u, d, e1, e2, b1, b2⟩ := core_ends hc
      rcases hrs with er | ⟨t, u', d', er, er2, bd, _⟩
      · rw [er, List.append_nil]
        rw [strip_mid hlb hgb e1 e2 b1 b2]
        exact .inr ⟨core.cps.toList, [], (by intro e he; cases he), (by rw [er, List.append_nil, List.append_nil]), hc⟩
      · have e3 : lead.cps.toList ++ core.cps.toList ++ gap.cps.toList ++ r.cps.toList = lead.cps.toList ++ (core.cps.toList ++ gap.cps.toList ++ r.cps.toList) ++ [] := by simp
        rw [e3, strip_mid (t := core.cps.toList ++ gap.cps.toList ++ r.cps.toList) (c := c) (r := r' ++ gap.cps.toList ++ r.cps.toList) (u := core.cps.toList ++ gap.cps.toList ++ u') (d := d') hlb (by intro e he; cases he) (by rw [e1]; rfl) (by rw [er2]; simp) b1 bd]
        exact .inr ⟨_, _, hgp, rfl, hc⟩
    · have e3 : lead.cps.toList ++ core.cps.toList ++ gap.cps.toList ++ r.cps.toList = lead.cps.toList ++ 43 :: (t ++ gap.cps.toList ++ r.cps.toList) := by rw [hc]; simp
      obtain ⟨t', e4⟩ := strip_head (t := t ++ gap.cps.toList ++ r.cps.toList) hlb (show isB 43 = false by decide)
      rw [e3, e4]
      exact .inl (.inr ⟨43, t', rfl, by decide⟩)
    · have hb2 : ∀ e ∈ lead.cps.toList ++ gap.cps.toList, isB e = true := fun e he => (List.mem_append.mp he).elim (hlb e) (hgb e)
      rcases hrs with er | ⟨t, _, _, er, _⟩
      · rw [hc, er, List.append_nil, List.append_nil, strip_blank hb2]
        exact .inl (.inl rfl)
      · rw [hc, er, List.append_nil]
        obtain ⟨t', e4⟩ := strip_head (t := t) hb2 (show isB 46 = false by decide)
        rw [e4]
        exact .inl (.inr ⟨46, t', rfl, by decide⟩)
  · rw [hy]; exact good_app (good_app (good_app gl gc) gg) gr
  · rw [Str.length_append, Str.length_append, Str.length_append]; omega

def sysB (x : Str) : Bool := sys6.any fun a => a == x
theorem sysB_is {x : Str} (h : sysB x = true) : x ∈ sys6 := by
  obtain ⟨a, ha, e⟩ := List.any_eq_true.mp h
  rw [← eq_of_beq e]; exact ha
theorem sys_in {x : Str} (h : x ∈ sysL) : x ∈ sys6 ∧ stripF x ∈ sys6 ∧ x.length < 500 ∧ Good x.cps.toList := by
  have := tab_of h (p := fun x => sysB x && sysB (stripF x) && decide (x.length < 500) && goodB x) (by decide +kernel)
  simp only [Bool.and_eq_true, decide_eq_true_eq] at this
  exact ⟨sysB_is this.1.1.1, sysB_is this.1.1.2, this.1.2, goodB_is this.2⟩
theorem ver_in {x : Str} (h : x ∈ verL) : x.length < 500 ∧ Good x.cps.toList ∧ (x.length = 0 ∨ stripL x.cps.toList ≠ []) ∧ ((stripF x).length = 0 ∨ stripL (stripF x).cps.toList ≠ []) := by
  have := tab_of h (p := fun x => decide (x.length < 500) && goodB x && (decide (x.length = 0) || fullB x) && (decide ((stripF x).length = 0) || fullB (stripF x))) (by decide +kernel)
  simp only [Bool.and_eq_true, Bool.or_eq_true, decide_eq_true_eq] at this
  exact ⟨this.1.1.1, goodB_is this.1.1.2, this.1.2.imp id fullB_is, this.2.imp id fullB_is⟩
theorem goodF {x : Str} (h : Good x.cps.toList) : Good (stripF x).cps.toList := by rw [stripF_list]; exact good_strip h

theorem HF (x y z : Str) (val : Option Int) (r : Str) (h : RowOk x y z val r) : (x.length < 500 ∧ y.length < 500 ∧ z.length < 500 ∧ r.length < 100) ∧ PyData.strOk (stripF x) = true ∧ PyData.strOk (stripF y) = true ∧ PyData.strOk (stripF z) = true := by
  have f := y_facts h
  obtain ⟨_, _, lx, gx⟩ := sys_in h.sysIn
  obtain ⟨lz, gz, _, _⟩ := ver_in h.verIn
  have := f.len
  exact ⟨⟨lx, by omega, lz, f.restLen⟩, ok_good (goodF gx), ok_good (goodF f.good), ok_good (goodF gz)⟩
theorem HH (w : World) (mean : ExcName → Option Value) (mg mb : Str → Option Value) (x y z : Str) (val : Option Int) (r : Str) (h : RowOk x y z val r) (l : Addr) (tx ty tz tv tr : Tok) : HoldsDoes w mean mg mb x y z val r l tx ty tz tv tr := by
  have f := y_facts h
  obtain ⟨hx, _, _, _⟩ := sys_in h.sysIn
  obtain ⟨lz, gz, hz, _⟩ := ver_in h.verIn
  exact row_holds w mean mg mb hx f.len lz f.restLen f.good gz f.restGood hz f.form f.restOk f.val l tx ty tz tv tr
theorem HC (w : World) (mean : ExcName → Option Value) (mg mb : Str → Option Value) (x y z : Str) (val : Option Int) (r : Str) (h : RowOk x y z val r) (l : Addr) (tx ty tz tv tr : Tok) : HoldsDoes w mean mg mb (stripF x) (stripF y) (stripF z) val r l tx ty tz tv tr := by
  have f := y_facts h
  obtain ⟨_, hx, _, _⟩ := sys_in h.sysIn
  obtain ⟨lz, gz, _, hz⟩ := ver_in h.verIn
  exact row_holds w mean mg mb hx (Nat.lt_of_le_of_lt (strip_len y) f.len) (Nat.lt_of_le_of_lt (strip_len z) lz) f.restLen (goodF f.good) (goodF gz) f.restGood hz f.formS f.restOk f.val l tx ty tz tv tr
theorem whole : PySem.Challenge.rw_mg0046_01.Holds := tp HF HH HC
end Mine
end

theorem PySem.Challenge.cw_mg0046_01_holds : PySem.Challenge.rw_mg0046_01.Holds :=
  Mine.whole
