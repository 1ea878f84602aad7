import PyProof.Rows.All
import Wide.All
import OpenK.AllK
import Wide.FinOn
import PySem.Challenge.RW_oo0007_03
set_option Elab.async false
section
open PySem PySem.W PyProof.Rows
namespace Mine
set_option maxRecDepth 100000 in
set_option maxHeartbeats 8000000 in
open_top hd for PySem.Challenge.rw_oo0007_03
end Mine
end
section
open PySem PySem.W PySem.Calls PyProof.Rows
set_option maxRecDepth 100000
set_option linter.unusedVariables false
namespace Mine
abbrev AA (dp un : Nat) (fr : Option (List Env)) (gd : Option (List Code)) : Around := { handled := none, depth := dp, frames := fr, guards := gd, units := un }

theorem enterK {prog : Program} {w : World} {A : Around} {E : Value → Shared → Prop} {s : Shared} {K : Frag} {p : Program} {loose : List Str} {mean : ExcName → Option Value} {mg mb : Str → Option Value} {Q : Value → Shared → Prop}
    {name : Str} {params : Arguments} {body : List Stmt} {scope : Scope} {dV kV doc pm cdv ct oc : Value} {an od : Option Addr} {osl : Array (Option Value)} {f : Addr} {args : List Value} {binds : List (Str × Value)}
    (X : K.In s.heap) (T : Top p loose mean mg mb s.heap) (hroom : A.depth < recursionLimit)
    (ho : K.lookup f = some ⟨oc, od, .func (fnOf name name params body scope dV kV doc pm an cdv ct), osl⟩) (hcd : codeIn K cdv name = true)
    (hbind : BindsTo s (fnOf name name params body scope dV kV doc pm an cdv ct) ⟨args, []⟩ binds) (hloc : ∀ y ∈ binds, scope.names.lookup y.1 = some .local)
    (h : ∀ h₁, Fr s.heap s.heap.objs.size h₁ (fun x => binds.reverse.lookup x) → News s.heap s.heap.objs.size h₁ [] →
      wpAny (model prog w) (A.deeper (envOf name scope s.heap.objs.size f cdv)) (execs body (envOf name scope s.heap.objs.size f cdv))
        (fun fl s' => Q (match fl with | .ret v => v | _ => .none) s') (fun _ _ => False) { s with heap := h₁, toks := s.toks + binds.length })
    (hco : scope.isCoroutine = false := by rfl) (hgen : scope.isGenerator = false := by rfl) (hk : scope.kind = .function := by rfl)
    (hcell : ∀ x ∈ scope.names, x.2 ≠ .cell := by decide) :
    wpAny (model prog w) A (call (.ref f) args) Q E s := by
  refine wpAny_call (codeAny_call_def (fd := fnOf name name params body scope dV kV doc pm an cdv ct) (body := body) (binds := binds) hroom (X _ _ ho) rfl T.nolimit (codeRec_of X hcd) rfl hbind hcell hloc (fun h₁ hns hk₁ => ?_) hco hgen hk)
  exact wpAny_mono (h h₁ ⟨hns, hk₁, Nat.le_refl _⟩ News.nil) (fun fl s' hl => hl) fun _ _ y => y.elim

/-- the grown heap, handed to the caller's facts -/
def Grow (s : Shared) (h' : Heap) : Prop := ∀ b o, s.heap.get? b = some o → h'.get? b = some o

section
variable {prog : Program} {w : World} {A : Around} {E : Value → Shared → Prop} {s : Shared} {env : Env} {h₀ : Heap} {x : Str} {body : List Stmt} {Q : Flow → Shared → Prop}
/-- a loop over a list of ints that the call was handed: the ledger stays -/
theorem loopL {σ : Type} {l : Addr} {vs : List Value} {ns : List Int} {m₀ : Str → Option Value} {news : List (Addr × Obj)} (ps : σ → List (Str × Value)) (stored : List Str) (P : List Int → σ → Prop) (c₀ : σ)
    (hh : A.handled = none) (hl : h₀.IsList l vs.toArray) (hi : IntsAre vs ns) (F : Fr h₀ env.locals s.heap m₀) (N : News h₀ env.locals s.heap news) (hk : ∀ p ∈ ps c₀, m₀ p.1 = some p.2) (hp : P [] c₀)
    (turn : ∀ (c : σ) pre post n t (u : Str → Option Value) h tk own, ns = pre ++ n :: post → P pre c →
      Fr h₀ env.locals h (fun y => if y = x then some (.int n t) else kstB (fun z => if stored.contains z then u z else m₀ z) (ps c) y) → News h₀ env.locals h (news ++ own) →
      wpAny (model prog w) A (execs body env) (InvPostN h₀ env.locals (KstS (fun _ => news) ps (fun _ => True) x stored m₀ P (pre ++ [n])) own (news.map (·.1)) { s with heap := h, toks := tk } Q) E { s with heap := h, toks := tk })
    (done : ∀ (c : σ) (u : Str → Option Value) h tk, P ns c → Fr h₀ env.locals h (fun y => if y = x then u y else kstB (fun z => if stored.contains z then u z else m₀ z) (ps c) y) → News h₀ env.locals h news → Q .next { s with heap := h, toks := tk }) :
    wpAny (model prog w) A (pyIter (.ref l)) (fun it s₂ => LoopAtV prog w A h₀ env x body Q E it s₂) E s :=
  kst_list (fun _ => news) ps (fun _ => True) stored P c₀ hh hl hi F N trivial hk hp (fun c pre post n t u h tk own e _ _ _ hp F N => turn c pre post n t u h tk own e hp F N) (fun c u h tk _ hp F N => done c u h tk hp F N)

theorem loopR {σ : Type} {r : Addr} {a₀ b₀ : Int} {t₀ u₀ v₀ : Tok} {n : Nat} {m₀ : Str → Option Value} {news : List (Addr × Obj)} (ps : σ → List (Str × Value)) (stored : List Str) (P : List Int → σ → Prop) (c₀ : σ)
    (hh : A.handled = none) (hr : IsRange s.heap r a₀ b₀ 1 t₀ u₀ v₀) (hsmall : Builtin.Range.small a₀ b₀ 1 = true) (hn : Builtin.Range.rangeSize a₀ b₀ 1 = (n : Int)) (F : Fr h₀ env.locals s.heap m₀) (N : News h₀ env.locals s.heap news) (hk : ∀ p ∈ ps c₀, m₀ p.1 = some p.2) (hp : P [] c₀)
    (turn : ∀ (c : σ) (pre : List Int) (k : Int) t (u : Str → Option Value) h tk own, k = a₀ + (pre.length : Int) → pre.length < n → P pre c →
      Fr h₀ env.locals h (fun y => if y = x then some (.int k t) else kstB (fun z => if stored.contains z then u z else m₀ z) (ps c) y) → News h₀ env.locals h (news ++ own) →
      wpAny (model prog w) A (execs body env) (InvPostN h₀ env.locals (KstS (fun _ => news) ps (fun _ => True) x stored m₀ P (pre ++ [k])) own (news.map (·.1)) { s with heap := h, toks := tk } Q) E { s with heap := h, toks := tk })
    (done : ∀ (c : σ) (u : Str → Option Value) h tk, P (rangeKs a₀ n) c → Fr h₀ env.locals h (fun y => if y = x then u y else kstB (fun z => if stored.contains z then u z else m₀ z) (ps c) y) → News h₀ env.locals h news → Q .next { s with heap := h, toks := tk }) :
    wpAny (model prog w) A (pyIter (.ref r)) (fun it s₂ => LoopAtV prog w A h₀ env x body Q E it s₂) E s :=
  kst_range (fun _ => news) ps (fun _ => True) stored P c₀ hh hr hsmall hn F N trivial hk hp (fun c pre k t u h tk own e hlt _ _ hp F N => turn c pre k t u h tk own e hlt hp F N) (fun c u h tk _ hp F N => done c u h tk hp F N)

theorem loopEnd {σ : Type} {ps : σ → List (Str × Value)} {stored : List Str} {m₀ : Str → Option Value} {P : List Int → σ → Prop} {pre : List Int} (c : σ) {L : Addr} {m' : Str → Option Value} {own news news' : List (Addr × Obj)} {s₁ : Shared} {h' : Heap} {tk : Nat}
    (F : Fr h₀ L h' m') (N : News h₀ L h' news') (hn : ∀ p ∈ news ++ own, p ∈ news') (hk : ∀ p ∈ ps c, m' p.1 = some p.2) (hr : ∀ z, z ≠ x → (∀ p ∈ ps c, z ≠ p.1) → stored.contains z = false → m' z = m₀ z) (hp : P pre c) :
    InvPostN h₀ L (KstS (fun _ => news) ps (fun _ => True) x stored m₀ P pre) own (news.map (·.1)) s₁ Q .next { s₁ with heap := h', toks := tk } :=
  kst_end c F N (fun p hp => hn p (List.mem_append.mpr (.inl hp))) (fun p hp => hn p (List.mem_append.mpr (.inr hp))) rfl trivial hk hr hp
end

theorem bits_and25 (c : Int) : (Builtin.bitAnd c 33554431).natAbs < 2 ^ 64 := by
  by_cases hx : 0 ≤ c
  · rw [bitAnd_pp hx (by decide)]
    have h : c.toNat &&& (33554431 : Int).toNat ≤ 33554431 := Nat.and_le_right
    omega
  · rw [bitAnd_np hx (by decide)]
    have h : (33554431 : Int).toNat &&& (Builtin.bitNot c).toNat ≤ 33554431 := Nat.and_le_left
    omega
def genZ (i : Int) : Int := if i = 0 then 996825010 else if i = 1 then 642813549 else if i = 2 then 513874426 else if i = 3 then 1027748829 else 705979059
def inZ (top : Int) (c i : Int) : Int := Builtin.bitXor c (if Builtin.bitAnd (top.fdiv (2 ^ i.toNat)) 1 ≠ 0 then genZ i else 0)
def stepZ (c v : Int) : Int := [0, 1, 2, 3, 4].foldl (inZ (c.fdiv (2 ^ Int.toNat 25))) (Builtin.bitXor (Builtin.bitAnd c 33554431 * 2 ^ Int.toNat 5) v)
def polyZ (ns : List Int) : Int := ns.foldl stepZ 1
theorem inZ_posE {top c i g : Int} (h : Builtin.bitAnd (top.fdiv (2 ^ i.toNat)) 1 ≠ 0) (hg : genZ i = g) : Builtin.bitXor c g = inZ top c i := by unfold inZ; rw [if_pos h, hg]
theorem inZ_negE {top c i : Int} (h : Builtin.bitAnd (top.fdiv (2 ^ i.toNat)) 1 = 0) : Builtin.bitXor c 0 = inZ top c i := by unfold inZ; rw [if_neg (fun x => x h)]
theorem polyZ_snoc (pre : List Int) (n : Int) : polyZ (pre ++ [n]) = stepZ (polyZ pre) n := by unfold polyZ; rw [List.foldl_append, List.foldl_cons, List.foldl_nil]
theorem stepZ_range (a n : Int) : List.foldl (inZ (a.fdiv (2 ^ Int.toNat 25))) (Builtin.bitXor (Builtin.bitAnd a 33554431 * 2 ^ Int.toNat 5) n) (rangeKs 0 5) = stepZ a n := by
  unfold stepZ; have h : rangeKs 0 5 = [0,1,2,3,4] := by decide
  rw [h]
end Mine
end
section
open PySem PySem.W PySem.Calls PyProof.Rows
set_option maxRecDepth 100000
set_option linter.unusedVariables false
namespace Mine
open LCg
section
variable {prog : Program} {w : World} {A : Around} {E : Value → Shared → Prop} {s : Shared} {h₀ : Heap} {L : Addr} {m : Str → Option Value} {env : Env}

/-- the turns of a comprehension, by a word that is kept -/
theorem compFold {σ : Type} {elt : Expr} {x : Str} {scope : Scope} {cl : List (Str × Addr)} {S : List (Addr × Obj) → Prop} {P : Nat → Value → Prop} {Fin : List Value → List (Addr × Obj) → Prop} {n : Nat}
    (Led : σ → List (Addr × Obj)) (J : Nat → σ → List Value → Prop) (hS : ∀ c, S (Led c)) (hadr : ∀ c c', (Led c).map (·.1) = (Led c').map (·.1))
    (step : ∀ i c ys v I oI C oC D m₂ h tk (E' : Value → Shared → Prop), i < n → P i v → ys.length = i → J i c ys → NsObj oC m₂ → m₂ x = some v → Fr h₀ L h m → News h₀ L h ((I, oI) :: (C, oC) :: (D, lst ys) :: Led c) → Off3 I C D (Led c) →
      ((@Ne Nat I C) ∧ (@Ne Nat I D) ∧ (@Ne Nat C D)) →
      wpAny (model prog w) A (eval elt (compEnvC scope cl C env)) (fun y s₂ => ∃ c' h' tk', s₂ = { s with heap := h', toks := tk' } ∧ Fr h₀ L h' m ∧ News h₀ L h' ((I, oI) :: (C, oC) :: (D, lst ys) :: Led c') ∧ J (i + 1) c' (ys ++ [y])) E' { s with heap := h, toks := tk })
    (fin : ∀ c ys, ys.length = n → J n c ys → Fin ys (Led c)) :
    ∀ k i c ys, i + k = n → ys.length = i → J i c ys → CompRest prog w A h₀ L m env elt x scope cl s S P Fin k i ys (Led c) := by
  have off : ∀ {I C D : Addr} {l l' : List (Addr × Obj)}, l.map (·.1) = l'.map (·.1) → Off3 I C D l → Off3 I C D l' := fun {I C D l l'} e h =>
    Off3.of fun p hp => by
      have : p.1 ∈ l.map (·.1) := by rw [e]; exact List.mem_map_of_mem hp
      obtain ⟨q, hq, e'⟩ := List.mem_map.mp this
      rw [← e']; exact h.mem q hq
  intro k
  induction k with
  | zero => intro i c ys hi hl hj; exact CompRest.zero (fin c ys (by omega) (by rw [show n = i by omega]; exact hj))
  | succ k ih =>
    intro i c ys hi hl hj
    refine CompRest.succ fun v I oI C oC D m₂ h tk E' hP hC hx F N o3 ne => ?_
    refine wpAny_mono (step i c ys v I oI C oC D m₂ h tk E' (by omega) hP hl hj hC hx F N o3 ne) (fun y s₂ hy => ?_) fun _ _ e => e
    obtain ⟨c', h', tk', rfl, F', N', hj'⟩ := hy
    exact CompEnd.intro F' N' (Led c') (fun p hp => hp) (off (hadr c c') o3) (hS c') (ih (i + 1) c' (ys ++ [y]) (by omega) (by rw [List.length_append, hl]; rfl) hj')

def SrcS (prog : Program) (w : World) (A : Around) (h₀ : Heap) (L : Addr) (m : Str → Option Value) (env : Env) (elt : Expr) (x : Str) (scope : Scope) (cl : List (Str × Addr)) (Fin : Shared → List Value → List (Addr × Obj) → Prop) (xv : Value) (s₁ : Shared) : Prop :=
  ∃ tx t news, xv = .str tx t ∧ A.handled = none ∧ Fr h₀ L s₁.heap m ∧ News h₀ L s₁.heap news ∧ tx.cps.size ≤ sizeLine ∧
    ∀ s₂ : Shared, (∃ h, s₂ = { s₁ with heap := h }) → CompRest prog w A h₀ L m env elt x scope cl s₂ (fun _ => True) (SignAt tx) (Fin s₂) tx.cps.size 0 [] news

theorem str_st {I : Addr} {ty : String} {tx : Str} {t : Tok} : ∀ i (h h' : Heap) (o : Obj) (nw : List (Addr × Obj)), h.IsStrIter I ty tx t i → h.get? I = some o → h'.get? I = some o → (∀ b o, h₀.get? b = some o → h'.get? b = some o) → News h₀ L h' nw → True → h'.IsStrIter I ty tx t i :=
  fun i h h' o nw st e e' _ _ _ => by obtain ⟨o', q, r⟩ := st; rw [e] at q; cases q; exact ⟨o, e', r⟩

theorem ListComp_S {elt iter : Expr} {x : Str} {px : Pos} {scope : Scope} {cl : List (Str × Addr)} {pos : Pos} {Q : Value → Shared → Prop} (F₀ : Fr h₀ L s.heap m)
    (hclos : closureFor scope env = pure cl) (hcell : ∀ y ∈ scope.names, y.2 ≠ .cell) (hkind : scope.kind = .function)
    (hnames : ∀ y ∈ scope.names, y.2 = .local → scope.names.lookup y.1 = some .local) (hx : scope.names.lookup x = some .local)
    (h : wpAny (model prog w) A (eval iter env) (SrcS prog w A h₀ L m env elt x scope cl (fun s₂ => FinE h₀ L m s₂ Q)) E s)
    (hs : ∀ x, foldedSetIterable iter env x = pure x := by intro _; rfl) :
    wpAny (model prog w) A (eval (.ListComp elt [⟨.Name x px, iter, [], 0⟩] scope pos) env) Q E s := by
  rw [eval_ListComp]
  refine wpAny_comprehension_free (use := none) rfl hs hclos hkind hnames (wpAny_mono h (fun xv s₁ h₁ => ?_) fun _ _ e => e)
  obtain ⟨tx, t, news, rfl, hh, F, N, hsz, R⟩ := h₁
  have endp : ∀ (o : Obj) (D C : Addr) (h : Heap) (tk : Nat) (m' : Str → Option Value) (ys : List Value) (news' : List (Addr × Obj)), Fr h₀ L h m → News h₀ L h ((D, lst ys) :: news') → Off1 D news' → h.Ns C m' → h₀.get? C = none → h₀.get? D = none → C ≠ L → D ≠ L → C ≠ D → (∀ p ∈ news', p.1 ≠ C) →
      FinE h₀ L m { s₁ with heap := s₁.heap.push o } Q ys news' → ∃ m, h.Ns C m ∧ ∀ h', Heap.SameBut C h h' → Q (.ref D) { s₁ with heap := h', toks := tk } := by
    intro o D C h' tk m' ys news' F' N' o1 hn hC₀ hD₀ hCL hDL hCD offC fin
    refine ⟨m', hn, fun h'' hs'' => fin D h'' tk (F'.change hs'' hCL hC₀) (fun p hp => ?_) o1⟩
    refine ⟨hs''.extBut _ _ ?_ (N' p hp).1, (N' p hp).2⟩
    rcases List.mem_cons.mp hp with rfl | hp
    · exact Ne.symm hCD
    · exact offC p hp
  cases ha : tx.cps.all (· < 128)
  · refine wpAny_pyIter_wide ha ?_
    refine block_U (Walks.strWide hh s₁.heap.objs.size tx t) hsz (fun i h st => by obtain ⟨o, e, _⟩ := st; exact ⟨o, e⟩) str_st hcell hkind hx ⟨_, Heap.get?_push_size _ rfl, rfl, rfl⟩ (fun b hb => ?_)
      (F.keeps fun _ _ e => Heap.get?_push_of_some _ e) (N.grown fun _ _ e => Heap.get?_push_of_some _ e) (Nat.ne_of_lt F.ns.lt) (next_is_new F) (fun p hp => Nat.ne_of_lt (Heap.lt_size (N p hp).1)) trivial (R _ ⟨_, rfl⟩) ?_
    · rw [List.mem_singleton.mp hb]
      show s₁.heap.objs.size < (s₁.heap.push _).objs.size
      rw [Heap.size_push]; exact Nat.lt_succ_self _
    · intro D C h' tk m' ys news' F' N' o1 hn hC₀ hD₀ hCL hDL hCD offC fin
      exact endp _ D C h' tk m' ys news' F' N' o1 hn hC₀ hD₀ hCL hDL hCD offC fin
  · refine wpAny_pyIter_ascii ha ?_
    refine block_U (Walks.strAscii hh s₁.heap.objs.size tx t) hsz (fun i h st => by obtain ⟨o, e, _⟩ := st; exact ⟨o, e⟩) str_st hcell hkind hx ⟨_, Heap.get?_push_size _ rfl, rfl, rfl⟩ (fun b hb => ?_)
      (F.keeps fun _ _ e => Heap.get?_push_of_some _ e) (N.grown fun _ _ e => Heap.get?_push_of_some _ e) (Nat.ne_of_lt F.ns.lt) (next_is_new F) (fun p hp => Nat.ne_of_lt (Heap.lt_size (N p hp).1)) trivial (R _ ⟨_, rfl⟩) ?_
    · rw [List.mem_singleton.mp hb]
      show s₁.heap.objs.size < (s₁.heap.push _).objs.size
      rw [Heap.size_push]; exact Nat.lt_succ_self _
    · intro D C h' tk m' ys news' F' N' o1 hn hC₀ hD₀ hCL hDL hCD offC fin
      exact endp _ D C h' tk m' ys news' F' N' o1 hn hC₀ hD₀ hCL hDL hCD offC fin

theorem Assign_ListComp_S {elt iter : Expr} {x y : Str} {px py : Pos} {scope : Scope} {cl : List (Str × Addr)} {pos spos : Pos} {Q : Flow → Shared → Prop} (F₀ : Fr h₀ L s.heap m) (hLe : env.locals = L)
    (hsw : swapsWith (.ListComp elt [⟨.Name x px, iter, [], 0⟩] scope pos) (some (.Name y py)) spos.line env = pure true)
    (hclos : closureFor scope env = pure cl) (hcell : ∀ z ∈ scope.names, z.2 ≠ .cell) (hkind : scope.kind = .function)
    (hnames : ∀ z ∈ scope.names, z.2 = .local → scope.names.lookup z.1 = some .local) (hx : scope.names.lookup x = some .local)
    (hy : env.kindOf y = some .local) (hp : (env.scope.kind == .class || (env.scope.kind == .module && env.locals != env.globals)) = false)
    (h : wpAny (model prog w) A (eval iter env) (SrcS prog w A h₀ L m env elt x scope cl (fun s₂ => FinA h₀ L m s₂ y Q)) E s)
    (hs : ∀ x, foldedSetIterable iter env x = pure x := by intro _; rfl) :
    wpAny (model prog w) A (exec (.Assign [.Name y py] (.ListComp elt [⟨.Name x px, iter, [], 0⟩] scope pos) spos) env) Q E s := by
  subst hLe
  rw [exec_Assign_Name_used _ _ _ _ hsw]
  refine wpAny_bind (wpAny_standAt (wpAny_bind ?_))
  show wpAny _ A (do let _ ← comprehension (.ListComp elt [⟨.Name x px, iter, [], 0⟩] scope pos) scope env _ (newList []) false (eval iter env) (some (assign (.Name y py) env))) _ _ s
  refine wpAny_bind (wpAny_mono (wpAny_comprehension_free (use := some (assign (.Name y py) env)) (Q := fun _ s' => Q .next s') rfl hs hclos hkind hnames
    (wpAny_mono h (fun xv s₁ h₁ => ?_) fun _ _ e => e)) (fun _ s' hq => wpAny_pure (wpAny_pure hq)) fun _ _ e => e)
  obtain ⟨tx, t, news, rfl, hh, F, N, hsz, R⟩ := h₁
  have endp : ∀ (o : Obj) (D C : Addr) (h' : Heap) (tk : Nat) (m' : Str → Option Value) (ys : List Value) (news' : List (Addr × Obj)), Fr h₀ env.locals h' m → News h₀ env.locals h' ((D, lst ys) :: news') → Off1 D news' → h'.Ns C m' → h₀.get? C = none → h₀.get? D = none → C ≠ env.locals → D ≠ env.locals → C ≠ D → (∀ p ∈ news', p.1 ≠ C) →
      FinA h₀ env.locals m { s₁ with heap := s₁.heap.push o } y Q ys news' →
      wpAny (model prog w) A (assign (.Name y py) env (.ref D)) (fun _ s'' => ∃ m, s''.heap.Ns C m ∧ ∀ h', Heap.SameBut C s''.heap h' → Q .next { s'' with heap := h' }) E { s₁ with heap := h', toks := tk } := by
    intro o D C h' tk m' ys news' F' N' o1 hn hC₀ hD₀ hCL hDL hCD offC fin
    refine wpAny_assign_Name (wpAny_storeName_local hy F'.ns (fun h₂ hn₂ hs₂ => ?_) hp)
    have hL₀ : h₀.get? env.locals = none := Heap.get?_none_of_le F'.above
    have F₂ : Fr h₀ env.locals h₂ (fun z => if z = y then some (.ref D) else m z) := ⟨hn₂, fun b o e => hs₂.extBut b o (fun q => by rw [q, hL₀] at e; cases e) (F'.keep b o e), F'.above⟩
    refine ⟨m', hn.sameBut hs₂ hCL, fun h'' hs'' => fin D h'' _ (F₂.change hs'' hCL hC₀) (fun p hp => ?_) o1⟩
    have z : h₂.get? p.1 = some p.2 := hs₂.extBut _ _ (N' p hp).2.1 (N' p hp).1
    refine ⟨hs''.extBut _ _ ?_ z, (N' p hp).2⟩
    rcases List.mem_cons.mp hp with rfl | hp
    · exact Ne.symm hCD
    · exact offC p hp
  cases ha : tx.cps.all (· < 128)
  · refine wpAny_pyIter_wide ha ?_
    refine block_U (Walks.strWide hh s₁.heap.objs.size tx t) hsz (fun i h st => by obtain ⟨o, e, _⟩ := st; exact ⟨o, e⟩) str_st hcell hkind hx ⟨_, Heap.get?_push_size _ rfl, rfl, rfl⟩ (fun b hb => ?_)
      (F.keeps fun _ _ e => Heap.get?_push_of_some _ e) (N.grown fun _ _ e => Heap.get?_push_of_some _ e) (Nat.ne_of_lt F.ns.lt) (next_is_new F) (fun p hp => Nat.ne_of_lt (Heap.lt_size (N p hp).1)) trivial (R _ ⟨_, rfl⟩) ?_
    · rw [List.mem_singleton.mp hb]
      show s₁.heap.objs.size < (s₁.heap.push _).objs.size
      rw [Heap.size_push]; exact Nat.lt_succ_self _
    · intro D C h' tk m' ys news' F' N' o1 hn hC₀ hD₀ hCL hDL hCD offC fin
      exact endp _ D C h' tk m' ys news' F' N' o1 hn hC₀ hD₀ hCL hDL hCD offC fin
  · refine wpAny_pyIter_ascii ha ?_
    refine block_U (Walks.strAscii hh s₁.heap.objs.size tx t) hsz (fun i h st => by obtain ⟨o, e, _⟩ := st; exact ⟨o, e⟩) str_st hcell hkind hx ⟨_, Heap.get?_push_size _ rfl, rfl, rfl⟩ (fun b hb => ?_)
      (F.keeps fun _ _ e => Heap.get?_push_of_some _ e) (N.grown fun _ _ e => Heap.get?_push_of_some _ e) (Nat.ne_of_lt F.ns.lt) (next_is_new F) (fun p hp => Nat.ne_of_lt (Heap.lt_size (N p hp).1)) trivial (R _ ⟨_, rfl⟩) ?_
    · rw [List.mem_singleton.mp hb]
      show s₁.heap.objs.size < (s₁.heap.push _).objs.size
      rw [Heap.size_push]; exact Nat.lt_succ_self _
    · intro D C h' tk m' ys news' F' N' o1 hn hC₀ hD₀ hCL hDL hCD offC fin
      exact endp _ D C h' tk m' ys news' F' N' o1 hn hC₀ hD₀ hCL hDL hCD offC fin

theorem compPure {elt : Expr} {x : Str} {scope : Scope} {cl : List (Str × Addr)} {S : List (Addr × Obj) → Prop} {P : Nat → Value → Prop} {Fin : List Value → List (Addr × Obj) → Prop} {n : Nat} {news : List (Addr × Obj)} (R : Nat → Value → Prop) (hS : S news)
    (step : ∀ i ys v I oI C oC D m₂ h tk (E' : Value → Shared → Prop), i < n → P i v → NsObj oC m₂ → m₂ x = some v → Fr h₀ L h m → News h₀ L h ((I, oI) :: (C, oC) :: (D, lst ys) :: news) →
      wpAny (model prog w) A (eval elt (compEnvC scope cl C env)) (fun y s₂ => R i y ∧ ∃ h' tk', s₂ = { s with heap := h', toks := tk' } ∧ Fr h₀ L h' m ∧ News h₀ L h' ((I, oI) :: (C, oC) :: (D, lst ys) :: news)) E' { s with heap := h, toks := tk })
    (fin : ∀ ys, ys.length = n → (∀ j y, ys[j]? = some y → R j y) → Fin ys news) : CompRest prog w A h₀ L m env elt x scope cl s S P Fin n 0 [] news := by
  refine compFold (σ := Unit) (fun _ => news) (fun i _ ys => ∀ j y, ys[j]? = some y → R j y) (fun _ => hS) (fun _ _ => rfl) ?_ (fun _ ys hl hj => fin ys hl hj) n 0 () [] (by omega) rfl (by simp)
  intro i c ys v I oI C oC D m₂ h tk E' hi hP hl hj hC hx F N o3 ne
  refine wpAny_mono (step i ys v I oI C oC D m₂ h tk E' hi hP hC hx F N) (fun y s₂ hy => ?_) fun _ _ e => e
  obtain ⟨hR, h', tk', rfl, F', N'⟩ := hy
  refine ⟨(), h', tk', rfl, F', N', fun j z hz => ?_⟩
  by_cases hj' : j < ys.length
  · rw [List.getElem?_append_left hj'] at hz; exact hj j z hz
  · rw [List.getElem?_append_right (by omega)] at hz
    have : j - ys.length = 0 := by
      rcases Nat.eq_zero_or_pos (j - ys.length) with e | e
      · exact e
      · rw [List.getElem?_eq_none (by simp; omega)] at hz; cases hz
    rw [this] at hz
    obtain rfl : y = z := by simpa using hz
    have : j = i := by omega
    rw [this]; exact hR
end
theorem intsAre_of : ∀ {ys : List Value} {ns : List Int}, ys.length = ns.length → (∀ j y, ys[j]? = some y → ∃ t, y = Value.int (ns.getD j 0) t) → IntsAre ys ns
  | [], [], _, _ => .nil
  | y :: ys, n :: ns, hl, h => by
    obtain ⟨t, e⟩ := h 0 y rfl
    subst e
    exact IntsAre.cons _ _ (intsAre_of (by simpa using hl) fun j y hy => h (j + 1) y hy)
theorem strsAre_of : ∀ {ys : List Value} {ns : List Str}, ys.length = ns.length → (∀ j y, ys[j]? = some y → ∃ t, y = Value.str (ns.getD j ⟨#[]⟩) t) → StrsAre ys ns
  | [], [], _, _ => .nil
  | y :: ys, n :: ns, hl, h => by
    obtain ⟨t, e⟩ := h 0 y rfl
    subst e
    exact StrsAre.cons _ _ (strsAre_of (by simpa using hl) fun j y hy => h (j + 1) y hy)

theorem getD_map {β : Type} {x : Str} {i c : Nat} {f : Nat → β} {d : β} (h : x.cps[i]? = some c) : (x.cps.toList.map f).getD i d = f c := by
  simp [List.getD, h]

theorem enterKC {prog : Program} {w : World} {A : Around} {E : Value → Shared → Prop} {s : Shared} {K : Frag} {p : Program} {loose : List Str} {mean : ExcName → Option Value} {mg mb : Str → Option Value} {Q : Value → Shared → Prop}
    {name : Str} {params : Arguments} {body : List Stmt} {scope : Scope} {dV kV doc pm cdv ct oc : Value} {an od : Option Addr} {osl : Array (Option Value)} {f : Addr} {args : List Value} {binds : List (Str × Value)}
    (X : K.In s.heap) (T : Top p loose mean mg mb s.heap) (hroom : A.depth < recursionLimit)
    (ho : K.lookup f = some ⟨oc, od, .func (fnOf name name params body scope dV kV doc pm an cdv ct), osl⟩) (hcd : codeIn K cdv name = true)
    (hbind : BindsTo s (fnOf name name params body scope dV kV doc pm an cdv ct) ⟨args, []⟩ binds) (hkind : (binds.all fun y => scope.names.lookup y.1 == some .local || scope.names.lookup y.1 == some .cell) = true)
    (hnd : ((cellsFrom 0 scope.names []).map (·.1)).Nodup)
    (h : ∀ h₁ tk cells, Fr s.heap s.heap.objs.size h₁ (bindL (envOfC name scope s.heap.objs.size f cdv).kindOf binds fun _ => none) → News s.heap s.heap.objs.size h₁ cells →
      CellsAre (bindC (envOfC name scope s.heap.objs.size f cdv).kindOf binds fun _ => none) (cellsFrom (s.heap.objs.size + 1) scope.names []) cells →
      wpAny (model prog w) (A.deeper (envOfC name scope s.heap.objs.size f cdv)) (execs body (envOfC name scope s.heap.objs.size f cdv))
        (fun fl s' => Q (match fl with | .ret v => v | _ => .none) s') (fun _ _ => False) { s with heap := h₁, toks := tk })
    (hco : scope.isCoroutine = false := by rfl) (hgen : scope.isGenerator = false := by rfl) (hk : scope.kind = .function := by rfl) :
    wpAny (model prog w) A (call (.ref f) args) Q E s := by
  refine wpAny_call (codeAny_call_function (fd := fnOf name name params body scope dV kV doc pm an cdv ct) hroom (X _ _ ho) rfl hco hgen rfl (codeRec_of X hcd) (hbind _ _ _ _ ?_))
  refine wpAny_newFunctionEnv_cells hk (kindsX hkind _) fun env' he s' x => ?_
  subst he
  refine ⟨T.nolimit.keeps x.toInCall.keep, codeAny_func ?_⟩
  obtain ⟨h₁, tk, rfl, _⟩ := x.done
  obtain ⟨cells, NC, Y⟩ := Cl.news (h₀ := s.heap) (Nat.le_refl _) fun n c hm => ⟨x.cell n c (lookup_of_mem_nodup (cellsFrom_names scope.names 0 (s.heap.objs.size + 1) [] [] rfl ▸ hnd) hm), x.above n c hm⟩
  exact wpAny_mono (h h₁ tk cells ⟨x.toInCall.ns, x.toInCall.keep, Nat.le_refl _⟩ NC Y) (fun fl s' hl => hl) fun _ _ y => y.elim

/-- what a contract hands back, as the caller's facts -/
theorem backL {h₀ : Heap} {L : Addr} {m : Str → Option Value} {s : Shared} {news : List (Addr × Obj)} {h' : Heap} {l : Addr} {o : Obj} (F : Fr h₀ L s.heap m) (N : News h₀ L s.heap news) (hg : Grow s h') (hn : s.heap.get? l = none) (ho : h'.get? l = some o) :
    Fr h₀ L h' m ∧ News h₀ L h' ((l, o) :: news) ∧ LCg.Off1 l news := by
  refine ⟨F.keeps hg, fun p hp => ?_, ?_⟩
  · rcases List.mem_cons.mp hp with rfl | hp
    · refine ⟨ho, fun e => ?_, ?_⟩
      · obtain ⟨o', _, _, e', _⟩ := F.ns
        have e1 : l = L := e
        rw [e1, e'] at hn; cases hn
      · cases q : h₀.get? l with
        | none => rfl
        | some o' => have := F.keep _ _ q; rw [hn] at this; cases this
    · exact N.grown hg p hp
  · have : ∀ q : List (Addr × Obj), (∀ p ∈ q, p.1 ≠ l) → LCg.Off1 l q := by
      intro q
      induction q with
      | nil => intro _; trivial
      | cons a r ih => intro hq; exact ⟨hq a (.head _), ih fun p hp => hq p (.tail _ hp)⟩
    exact this news fun p hp e => by
      have := (N p hp).1
      rw [e, hn] at this; cases this
theorem backI {h₀ : Heap} {L : Addr} {m : Str → Option Value} {s : Shared} {news : List (Addr × Obj)} {h' : Heap} (F : Fr h₀ L s.heap m) (N : News h₀ L s.heap news) (hg : Grow s h') :
    Fr h₀ L h' m ∧ News h₀ L h' news := ⟨F.keeps hg, N.grown hg⟩
theorem isList_in {h₀ h : Heap} {L l : Addr} {news : List (Addr × Obj)} {arr : Array Value} {k : Nat} (N : News h₀ L h news) (hm : (l, W.listOf arr k) ∈ news) : h.IsList l arr := ⟨_, N.get hm, rfl, k, rfl⟩

theorem addInts {prog : Program} {w : World} {A : Around} {E : Value → Shared → Prop} {s : Shared} {h₀ : Heap} {L l b : Addr} {m : Str → Option Value} {news : List (Addr × Obj)} {a1 a2 : Array Value} {ns ms : List Int} {Q : Value → Shared → Prop}
    (F : Fr h₀ L s.heap m) (N : News h₀ L s.heap news) (hl : s.heap.IsList l a1) (hb : s.heap.IsList b a2) (hi : IntsAre a1.toList ns) (hj : IntsAre a2.toList ms) (hsz : ns.length + ms.length ≤ 100000)
    (h : ∀ D arr k h', Fr h₀ L h' m → News h₀ L h' ((D, W.listOf arr k) :: news) → IntsAre arr.toList (ns ++ ms) → LCg.Off1 D news → Q (.ref D) { s with heap := h' }) :
    wpAny (model prog w) A (binaryOp .Add (.ref l) (.ref b)) Q E s := by
  refine add_arrays_ints F N hl hb hi hj (fun h' F' N' hI => h _ _ _ h' F' N' (by simpa using hI) ?_) (by rw [sizeLine_eq]; omega)
  have : ∀ q : List (Addr × Obj), (∀ p ∈ q, p.1 ≠ s.heap.objs.size) → LCg.Off1 s.heap.objs.size q := by
    intro q
    induction q with
    | nil => intro _; trivial
    | cons a r ih => intro hq; exact ⟨hq a (.head _), ih fun p hp => hq p (.tail _ hp)⟩
  exact this news fun p hp => Nat.ne_of_lt (Heap.lt_size (N p hp).1)
end Mine
end
section
open PySem PySem.W PySem.Calls PyProof.Rows
set_option maxRecDepth 100000
set_option linter.unusedVariables false
namespace Mine
abbrev CH : Str := PySem.Str.ofString "qpzry9x8gf2tvdw0s3jn54khce6mua7l"
def chL : List Nat := [113, 112, 122, 114, 121, 57, 120, 56, 103, 102, 50, 116, 118, 100, 119, 48, 115, 51, 106, 110, 53, 52, 107, 104, 99, 101, 54, 109, 117, 97, 55, 108]
theorem ch_is : CH = ⟨chL.toArray⟩ := by decide +kernel
theorem ch_len : CH.length = 32 := by decide +kernel
def signN (n : Int) : Nat := chL.getD n.toNat 0
def signS (n : Int) : Str := ⟨#[signN n]⟩
def textOf (x : Str) (ns : List Int) : Str := ⟨(x.cps.toList ++ 49 :: ns.map signN).toArray⟩
theorem len_one : (PySem.Str.ofString "1").length = 1 := by decide +kernel
theorem len_one2 : (PySem.Str.ofString "1").cps.size = 1 := by decide +kernel
theorem item_sign {n : Int} (h : 0 ≤ n ∧ n < 32) : Txt.item CH n = signS n := by
  have : ∀ k : Fin 32, Txt.item ⟨chL.toArray⟩ (k : Nat) = signS (k : Nat) := by decide +kernel
  have h2 := this ⟨n.toNat, by omega⟩
  rw [ch_is]
  have e : ((⟨n.toNat, by omega⟩ : Fin 32) : Nat) = n.toNat := rfl
  rw [e] at h2
  rwa [Int.toNat_of_nonneg h.1] at h2
theorem join_cps : ∀ (xs : List Str), (Str.join ⟨#[]⟩ xs).cps = (xs.flatMap fun x => x.cps.toList).toArray
  | [] => rfl
  | [x] => by simp [Str.join]
  | x :: y :: r => by
    have ih := join_cps (y :: r)
    rw [Str.join, Str.cps_append, Str.cps_append, ih]
    · simp
    · simp
theorem join_signs (ns : List Int) : Txt.join (PySem.Str.ofString "") (ns.map signS) = ⟨(ns.map signN).toArray⟩ := by
  have e : PySem.Str.ofString "" = ⟨#[]⟩ := by decide +kernel
  unfold Txt.join
  rw [StrLaws.glued_eq_join, e]
  refine Str.ext' ?_
  rw [join_cps]
  simp only [List.flatMap_map, signS]
  congr 1
  induction ns with
  | nil => rfl
  | cons n r ih => simp [List.flatMap_cons, ih]
theorem text_is (x : Str) (ns : List Int) : x ++ PySem.Str.ofString "1" ++ Txt.join (PySem.Str.ofString "") (ns.map signS) = textOf x ns := by
  have e : PySem.Str.ofString "1" = ⟨#[49]⟩ := by decide +kernel
  rw [join_signs, e]
  refine Str.ext' ?_
  rw [Str.cps_append, Str.cps_append]
  simp [textOf]
theorem text_len (x : Str) (ns : List Int) : (textOf x ns).length = x.cps.size + 1 + ns.length := by
  simp [textOf, Str.length]; omega
end Mine
end
section
open PySem PySem.W PySem.Calls PyProof.Rows
set_option maxRecDepth 100000
set_option linter.unusedVariables false
namespace Mine
section
variable {prog : Program} {w : World} {A : Around} {E : Value → Shared → Prop} {s : Shared} {g : Heap} {L : Addr} {m : Str → Option Value} {c P : Addr} {mg : Str → Option Value} {bm : Addr} {ob : Obj}

/-- the code of a generator expression: made, or found where an earlier run has laid it -/
theorem genCode {env : Env} {ps : Array Value} {pos : Pos} {qn : Str} {scope : Scope} {Q : Value → Shared → Prop} (C : CodeHd g c P) (hcode : env.code = .ref c)
    (F : Fr g L s.heap m) (N : News g L s.heap [(P, tabObj ps)]) (ht : TriplesOk ps.toList)
    (hQ : ∀ code h' tk ps', Heap.ExtBut P s.heap h' → s.heap.objs.size ≤ h'.objs.size → Fr g L h' m → News g L h' [(P, tabObj ps')] → TriplesOk ps'.toList → Q code { s with heap := h', toks := tk }) :
    wpAny (model prog w) A (genexprCode env pos qn scope) Q E s := by
  have hP := N _ (.head _)
  have C' := C.keeps F.keep
  cases hnf : codeAmong pos ps.toList with
  | some cv => exact wpAny_genexprCode_hit hcode (C'.code hP.1 ht) hnf (hQ cv s.heap s.toks ps (Heap.ExtBut.refl _ _) (Nat.le_refl _) F N ht)
  | none =>
    refine wpAny_genexprCodeX hcode (C'.code hP.1 ht) (C'.tab hP.1) hnf fun c' h' tk hx hge hlt hc' _ htb _ => ?_
    have hLP : L ≠ P := hP.2.1.symm
    refine hQ _ h' tk _ hx (Nat.le_trans hge (Nat.le_of_lt hlt)) ⟨F.ns.extBut hx hLP, fun b o e => hx b o (fun q => by have q' : b = P := q; rw [q'] at e; have := hP.2.2; rw [e] at this; cases this) (F.keep b o e), F.above⟩
      (fun p hp => by rw [List.mem_singleton.mp hp]; exact ⟨htb.2, hP.2⟩) ?_
    obtain ⟨_, _, _, _, _, _, _, _, _, op, _, _, _, _, _, _, _, hop, hpd, htr, _⟩ := hc'
    exact htr

theorem genStr {env : Env} {elt iter : Expr} {x : Str} {px : Pos} {scope : Scope} {cl : List (Str × Addr)} {pos : Pos} {Q : Value → Shared → Prop} {q : Str → Bool}
    (_F : Fr g L s.heap m) (C : CodeHd g c P) (M : BMod g env.globals mg bm ob) (hlim : g.NoLimit) (hcode : env.code = .ref c)
    (hh : A.handled = none) (hco : scope.isCoroutine = false) (hclos : closureFor scope env = pure cl) (hcell : ∀ y ∈ scope.names, y.2 ≠ .cell) (h0 : scope.names.lookup (".0" : Str) = some NameKind.local)
    (hx : scope.names.lookup x = some .local) (hkind : scope.kind = .function) (hroom : A.depth < recursionLimit)
    (h : wpAny (model prog w) A (eval iter env) (fun xv s₁ => ∃ y t ps, xv = .str y t ∧ Fr g L s₁.heap m ∧ News g L s₁.heap [(P, tabObj ps)] ∧ TriplesOk ps.toList ∧ AllBare s₁.gens ∧
      (∀ (C : Addr) (code : Value) (A' : Around) (E' : Value → Shared → Prop) (a : Str) (tk : Tok) (u : Shared) m₂, A'.handled = none → A'.depth ≤ A.depth + 1 → A'.units ≤ A.units + 8 → a ∈ signs y → Fr g C u.heap m₂ → m₂ x = some (.str a tk) →
        wpAny (model prog w) A' (eval elt (genEnv scope cl C code builtinsNs env)) (fun r s₃ => r = .bool (q a) ∧ Keeps u s₃) E' u) ∧
      (∀ (a Kb : Addr) (s₅ : Shared) ps', L ≤ Kb → P ≤ Kb → Fr g L s₅.heap m → News g L s₅.heap [(P, tabObj ps')] → TriplesOk ps'.toList → AllBare s₅.gens → s₅.os = s₁.os →
        GenOnD prog w A Kb a (signs y) (fun _ => true) (fun k => .bool (q k)) s₅ → Q (.ref a) s₅)) E s)
    (hs : ∀ x, genFold iter env x = pure x) :
    wpAny (model prog w) A (eval (.GeneratorExp elt [⟨.Name x px, iter, [], 0⟩] scope pos) env) Q E s := by
  refine wpAny_GeneratorExp_walksQD hh hco hclos hcell h0 hx hkind hroom (wpAny_mono h (fun xv s₁ h₁ => ?_) fun _ _ e => e) hs
  obtain ⟨y, t, ps, rfl, F₁, N₁, ht, G₁, helt, hQ⟩ := h₁
  refine wpAny_pyIter_str fun o St W hst => ?_
  have up : ∀ b o', s₁.heap.get? b = some o' → (s₁.heap.push o).get? b = some o' := fun b o' e => Heap.get?_push_of_some _ e
  have F₂ : Fr g L (s₁.heap.push o) m := F₁.keeps up
  have N₂ : News g L (s₁.heap.push o) [(P, tabObj ps)] := N₁.grown up
  have hPlt : P < s₁.heap.objs.size := Heap.lt_size (N₁ _ (.head _)).1
  have hLlt : L < s₁.heap.objs.size := F₁.ns.lt
  refine ⟨hlim.keeps F₂.keep, genCode C hcode F₂ N₂ ht fun code h₃ tk₃ ps' hx₃ hge₃ F₃ N₃ ht₃ => ?_⟩
  have hge₃' : s₁.heap.objs.size + 1 ≤ h₃.objs.size := by
    have e : (s₁.heap.push o).objs.size = s₁.heap.objs.size + 1 := Heap.size_push ..
    have hge : (s₁.heap.push o).objs.size ≤ h₃.objs.size := hge₃
    omega
  have M₃ := M.keeps F₃.keep
  refine wpAny_builtinsFor M₃.ns M₃.name M₃.ne M₃.obj M₃.cls M₃.dict M₃.data ?_
  have hI : s₁.heap.objs.size ≠ P := Nat.ne_of_gt hPlt
  have hl₃ : h₃.NoLimit := hlim.keeps F₃.keep
  have hcw : cStatics ∉ [s₁.heap.objs.size] := fun hm => by
    have e := List.mem_singleton.mp hm
    obtain ⟨_, ⟨o', _, _, q, _⟩, _⟩ := hlim
    exact absurd (Heap.lt_size (F₁.keep _ _ q)) (by rw [e]; exact Nat.lt_irrefl _)
  refine ⟨s₁.heap.objs.size, [s₁.heap.objs.size], [s₁.heap.objs.size], y.cps.size, SignAt y, St, fun _ => true, (fun i r => ∃ b, (signs y)[i]? = some b ∧ Carried r (.bool (q b))), rfl, W,
    (W A hh).frame _ _ _ hst (fun b hb o' e => hx₃ b o' (fun e' => hI ((List.mem_singleton.mp hb).symm.trans e')) e), (fun b hb => by rw [List.mem_singleton.mp hb]; exact hge₃'), hl₃, hcw, (fun href hhref => ?_), fun a h₅ tk gs hgb hag hsz₅ hk₅ W' hat => ?_⟩
  · have inB : ∀ (u : Shared) m₂, u.heap.Ns h₃.objs.size m₂ → (∀ b ∈ List.range h₃.objs.size, b ∉ [s₁.heap.objs.size] → ∀ o, href.get? b = some o → u.heap.get? b = some o) → Fr g h₃.objs.size u.heap m₂ := fun u m₂ hn hkp =>
      ⟨hn, fun b o' e => hkp b (List.mem_range.mpr (Heap.lt_size (F₃.keep b o' e))) (fun hm => by
        have e1 := List.mem_singleton.mp hm
        exact absurd (Heap.lt_size (F₁.keep b o' e)) (by rw [e1]; exact Nat.lt_irrefl _)) o' (hhref b o' (F₃.keep b o' e)), Nat.le_trans F₃.above (Nat.le_of_lt F₃.ns.lt)⟩
    refine ⟨fun A' E' i v u m₂ hA hD hU hP hn hm hkp => wpAny_tests_nil ⟨rfl, u.heap, u.toks, rfl, fun _ _ e => e⟩, fun A' E' i v u m₂ hA hD hU hP hp hn hm hkp => ?_⟩
    obtain ⟨cc, tk, hc, rfl⟩ := hP
    have ha := signs_at hc
    exact wpAny_mono (helt _ code A' E' _ tk u m₂ hA hD hU (List.mem_of_getElem? ha) (inB u m₂ hn hkp) hm) (fun r s₃ k => ⟨⟨_, ha, by rw [k.1]; exact .bool _⟩, k.2⟩) fun _ _ e => e
  · have F₅ : Fr g L h₅ m := F₃.keeps hk₅
    have N₅ : News g L h₅ [(P, tabObj ps')] := N₃.grown hk₅
    refine hQ a (s₁.heap.objs.size - 1) _ ps' (Nat.le_sub_one_of_lt hLlt) (Nat.le_sub_one_of_lt hPlt) F₅ N₅ ht₃ (G₁.push hgb) rfl ?_
    have hpass : passing (fun _ => true) y.cps.size 0 = List.range y.cps.size := by simp [passing]
    have hfil : (signs y).filter (fun _ => true) = signs y := List.filter_eq_self.mpr (by simp)
    have hlen : y.cps.size = (signs y).length := (signs_length y).symm
    rw [hpass] at W'
    unfold GenOnD
    rw [hfil, ← hlen]
    have e0 : (List.range y.cps.size).length = y.cps.size := by simp
    refine Gen.imp (F := fun j r => ∃ i, (List.range y.cps.size)[j]? = some i ∧ ∃ b, (signs y)[i]? = some b ∧ Carried r (.bool (q b))) ⟨_, _, _, _, e0 ▸ W', hat, (fun i s' st => st.1.typeIs), List.mem_cons_self, ?_, ?_⟩ ?_
    · intro b hb
      show b < h₅.objs.size
      rw [hsz₅]
      rcases List.mem_cons.mp hb with rfl | hb
      · exact Nat.lt_succ_self _
      · rcases List.mem_cons.mp hb with rfl | hb
        · exact Nat.lt_succ_of_lt hag
        · exact Nat.lt_succ_of_lt (Nat.lt_trans (List.mem_range.mp hb) hag)
    · intro b hb
      rcases List.mem_cons.mp hb with rfl | hb
      · exact Nat.lt_of_le_of_lt (Nat.sub_le _ _) (Nat.lt_of_succ_le hge₃')
      · rw [List.mem_singleton.mp hb]; exact Nat.sub_lt (Nat.lt_of_le_of_lt (Nat.zero_le _) hLlt) Nat.one_pos
    · rintro j r ⟨i, hij, b, hb, hc⟩
      have : i = j := by
        by_cases hj : j < y.cps.size
        · rw [List.getElem?_range hj] at hij; exact (Option.some.inj hij).symm
        · rw [List.getElem?_eq_none (by simp; omega)] at hij; cases hij
      subst this
      exact ⟨b, hb, hc⟩
end
end Mine
end
section
open PySem PySem.W PySem.Calls PyProof.Rows
set_option maxRecDepth 100000
set_option linter.unusedVariables false
namespace Mine
section
variable {h : Heap} {P : Addr} {ps : Array Value} {mg mb : Str → Option Value} {K : Frag} {p : Program} {loose : List Str} {mean : ExcName → Option Value}
theorem hide_get {b : Addr} {o : Obj} (hP : h.get? P = some (tabObj ps)) (e : h.get? b = some o) (hn : ∀ qs, o ≠ tabObj qs) : (hideAll h [P]).get? b = some o :=
  hideAll_get _ e fun q => by rw [List.mem_singleton.mp q, hP] at e; exact hn ps (Option.some.inj e).symm
theorem hide_ns {a : Addr} {mm : Str → Option Value} (hP : h.get? P = some (tabObj ps)) (x : h.Ns a mm) : (hideAll h [P]).Ns a mm :=
  let ⟨o, es, ep, e, hd, r⟩ := x; ⟨o, es, ep, hide_get hP e (fun qs q => by rw [q] at hd; cases hd), hd, r⟩
theorem hide_list {a : Addr} {its : Array Value} (hP : h.get? P = some (tabObj ps)) (x : h.IsList a its) : (hideAll h [P]).IsList a its := by
  obtain ⟨o, e, hc, r⟩ := x
  exact ⟨o, hide_get hP e (fun qs q => by rw [q] at hc; cases hc), hc, r⟩
theorem hide_K (hP : h.get? P = some (tabObj ps)) (X : K.In h) (hK : noTabs K = true) : K.In (hideAll h [P]) := fun a o e => by
  refine hide_get hP (X a o e) fun qs q => ?_
  have h2 := List.all_eq_true.mp hK (a, o) (mem_of_lookupK e)
  subst q
  exact absurd (show false = true from h2) Bool.false_ne_true
theorem hide_code {c : Addr} (hP : h.get? P = some (tabObj ps)) (C : CodeHd h c P) : CodeHd (hideAll h [P]) c P := by
  obtain ⟨o, vs, file, tf, flags, tg, inF, text, tt, e1, r1, r⟩ := C
  exact ⟨o, vs, file, tf, flags, tg, inF, text, tt, hide_get hP e1 (fun qs q => by rw [q] at r1; cases r1), r1, r⟩
theorem hide_top (hP : h.get? P = some (tabObj ps)) (T : Top p loose mean mg mb h) :
    Top topProg (loose ++ (recsOf p).map (·.name) ++ (litsOf p).map (·.1) ++ (clssOf p loose).map (·.name)) mean mg mb (hideAll h [P]) where
  g := hide_ns hP T.g
  b := hide_ns hP T.b
  nolimit := let ⟨mc, a, r⟩ := T.nolimit; ⟨mc, hide_ns hP a, r⟩
  nodigits := let ⟨mc, a, r⟩ := T.nodigits; ⟨mc, hide_ns hP a, r⟩
  fn := fun d hd => absurd (show d ∈ ([] : List DefRec) from hd) List.not_mem_nil
  own := fun o ho => absurd (show o ∈ ([] : List OwnSpec) from ho) List.not_mem_nil
  const := fun x d e => by cases (show (none : Option PyData) = some d from e)
  free := fun x h1 h2 _ _ _ => T.free x h1 (fun q => h2 (List.mem_append_left _ (List.mem_append_left _ (List.mem_append_left _ q))))
    (fun q => h2 (List.mem_append_left _ (List.mem_append_left _ (List.mem_append_right _ q)))) (fun q => h2 (List.mem_append_left _ (List.mem_append_right _ q))) fun q => h2 (List.mem_append_right _ q)
  builtins := T.builtins
  tab := fun d hd => absurd (show d ∈ ([] : List DefRec) from hd) List.not_mem_nil
  bmain := let ⟨bm, ob, a1, a2, a3, a4, r⟩ := T.bmain; ⟨bm, ob, a1, a2, hide_get hP a3 (fun qs q => by rw [q] at a4; cases a4), a4, r⟩
  seer := fun e => absurd (show false = true from e) Bool.false_ne_true
end

theorem enterKH {prog : Program} {w : World} {A : Around} {E : Value → Shared → Prop} {s : Shared} {K : Frag} {p : Program} {loose : List Str} {mean : ExcName → Option Value} {mg mb : Str → Option Value} {Q : Value → Shared → Prop}
    {name : Str} {params : Arguments} {body : List Stmt} {scope : Scope} {dV kV doc pm cdv ct oc : Value} {an od : Option Addr} {osl : Array (Option Value)} {f P : Addr} {args : List Value} {binds : List (Str × Value)} {ps : Array Value}
    (X : K.In s.heap) (T : Top p loose mean mg mb s.heap) (hP : s.heap.get? P = some (tabObj ps)) (hroom : A.depth < recursionLimit)
    (ho : K.lookup f = some ⟨oc, od, .func (fnOf name name params body scope dV kV doc pm an cdv ct), osl⟩) (hcd : codeIn K cdv name = true)
    (hbind : BindsTo s (fnOf name name params body scope dV kV doc pm an cdv ct) ⟨args, []⟩ binds) (hloc : ∀ y ∈ binds, scope.names.lookup y.1 = some .local)
    (h : ∀ h₁, Fr (hideAll s.heap [P]) s.heap.objs.size h₁ (fun x => binds.reverse.lookup x) → News (hideAll s.heap [P]) s.heap.objs.size h₁ [(P, tabObj ps)] →
      wpAny (model prog w) (A.deeper (envOf name scope s.heap.objs.size f cdv)) (execs body (envOf name scope s.heap.objs.size f cdv))
        (fun fl s' => Q (match fl with | .ret v => v | _ => .none) s') (fun _ _ => False) { s with heap := h₁, toks := s.toks + binds.length })
    (hco : scope.isCoroutine = false := by rfl) (hgen : scope.isGenerator = false := by rfl) (hk : scope.kind = .function := by rfl)
    (hcell : ∀ x ∈ scope.names, x.2 ≠ .cell := by decide) :
    wpAny (model prog w) A (call (.ref f) args) Q E s := by
  refine enterK X T hroom ho hcd hbind hloc (fun h₁ F N => ?_) hco hgen hk hcell
  refine h h₁ ⟨F.ns, fun b o e => F.keep b o (of_hideAll _ e), Nat.le_trans (Nat.le_of_eq (hideAll_size _ _)) F.above⟩ fun q hq => ?_
  rw [List.mem_singleton.mp hq]
  exact ⟨F.keep _ _ hP, Nat.ne_of_lt (Heap.lt_size hP), hideAll_none _ (.head _)⟩


section
variable {M : Model} {A : Around} {E : Value → Shared → Prop} {s : Shared} {K : Frag} {g : Heap} {C : Addr} {m mg mb : Str → Option Value} {p : Program} {loose : List Str} {x : Str} {pos : Pos} {v : Value} {Q : Value → Shared → Prop} {scope : Scope} {cl : List (Str × Addr)} {code : Value} {env : Env}
theorem nameG_L (F : Fr g C s.heap m) (hv : m x = some v) (h : Q v s)
    (hk : (genEnv scope cl C code builtinsNs env).scope.kind = .function := by rfl) (hx : (genEnv scope cl C code builtinsNs env).kindOf x = some .local := by rfl) (hd : (x == ("__debug__" : Str)) = false := by decide) :
    wpAny M A (eval (.Name x pos) (genEnv scope cl C code builtinsNs env)) Q E s := wpAny_Name (wpAny_loadName_local hk hx F.ns hv h) hd
theorem nameG_K (F : Fr g C s.heap m) (X : K.In g) (T : TopRead p loose mg mb g) (hg : env.globals = mainGlobals) (e : nsIn K mainGlobals x = some (some v)) (h : Q v s)
    (hk : (genEnv scope cl C code builtinsNs env).scope.kind = .function := by rfl) (hx : (genEnv scope cl C code builtinsNs env).kindOf x = some .globalImplicit := by rfl) (hd : (x == ("__debug__" : Str)) = false := by decide) :
    wpAny M A (eval (.Name x pos) (genEnv scope cl C code builtinsNs env)) Q E s :=
  Name_function_global hk hx (loadGlobal_global (env := genEnv scope cl C code builtinsNs env) (show s.heap.Ns env.globals mg from hg ▸ T.g.keeps F.keep) (mg_of X T.g e) h) hd
theorem nameG_B (F : Fr g C s.heap m) (X : K.In g) (T : TopRead p loose mg mb g) (hg : env.globals = mainGlobals) (e : nsIn K mainGlobals x = some none) (hv : bootBuiltins x = some v) (hn : x ≠ "__name__") (h : Q v s)
    (hk : (genEnv scope cl C code builtinsNs env).scope.kind = .function := by rfl) (hx : (genEnv scope cl C code builtinsNs env).kindOf x = some .globalImplicit := by rfl) (hd : (x == ("__debug__" : Str)) = false := by decide) :
    wpAny M A (eval (.Name x pos) (genEnv scope cl C code builtinsNs env)) Q E s :=
  Name_function_global hk hx (loadGlobal_builtin (env := genEnv scope cl C code builtinsNs env) (show s.heap.Ns env.globals mg from hg ▸ T.g.keeps F.keep) (mg_none_of X T.g e) (T.b.keeps F.keep) ((T.builtins x hn).trans hv) h) hd
end
end Mine
end
section
open PySem PySem.W PySem.Calls PyProof.Rows
set_option maxRecDepth 100000
set_option linter.unusedVariables false
namespace Mine
theorem filterMap_run {α : Type} (xs : List α) : ∀ (k a : Nat), a + k ≤ xs.length → ((List.range k).map (fun i => a + i)).filterMap (fun i => xs[i]?) = (xs.drop a).take k := by
  intro k
  induction k with
  | zero => intro a h; simp
  | succ k ih =>
    intro a h
    rw [List.range_succ, List.map_append, List.filterMap_append, ih a (by omega), List.take_add_one]
    congr 1
    simp
    have : a + k < xs.length := by omega
    simp [this]
theorem slice_nat (x : Str) (a b : Nat) (hab : a ≤ b) (hb : b ≤ x.cps.size) : Txt.slice x (some a) (some b) = ⟨((x.cps.toList.drop a).take (b - a)).toArray⟩ := by
  unfold Txt.slice
  rw [StrLaws.strSliceIndices_plain (len := x.length) hab hb]
  split
  · rename_i h
    simp only [beq_self_eq_true, Bool.true_and, beq_iff_eq, List.length_map, List.length_range, Str.length] at h
    have h1 : a = 0 := by omega
    have h2 : b = x.cps.size := by omega
    subst h1 h2
    refine Str.ext' ?_
    show x.cps = (List.take _ (List.drop 0 _)).toArray
    rw [List.drop_zero, List.take_of_length_le (by simp)]
  · refine Str.ext' ?_
    show (List.filterMap (fun i => x.cps[i]?) _).toArray = _
    congr 1
    have e := filterMap_run x.cps.toList (b - a) a (by simp; omega)
    rw [← e]
    congr 1
    funext i
    exact Array.getElem?_toList.symm
theorem slice_from (x : Str) (a : Nat) (ha : a ≤ x.cps.size) : Txt.slice x (some a) none = ⟨(x.cps.toList.drop a).toArray⟩ := by
  have e : Txt.slice x (some a) none = Txt.slice x (some a) (some (x.cps.size : Nat)) := by
    unfold Txt.slice
    have : Builtin.Str.strSliceIndices (some (a : Int)) none 1 x.length = Builtin.Str.strSliceIndices (some (a : Int)) (some ((x.cps.size : Nat) : Int)) 1 x.length := by
      unfold Builtin.Str.strSliceIndices
      have e1 : max (0 : Int) (min (if ((x.cps.size : Nat) : Int) < 0 then ((x.cps.size : Nat) : Int) + ((x.length : Nat) : Int) else ((x.cps.size : Nat) : Int)) ((x.length : Nat) : Int)) = ((x.length : Nat) : Int) := by
        rw [if_neg (by omega)]; show max (0 : Int) (min ((x.cps.size : Nat) : Int) ((x.cps.size : Nat) : Int)) = _; simp only [Int.min_self, Str.length]; omega
      simp only [show ((1 : Int) > 0) = True from by simp, if_true, e1]
    rw [this]
  rw [e, slice_nat x a _ ha (Nat.le_refl _)]
  refine Str.ext' ?_
  show (List.take _ _).toArray = _
  rw [List.take_of_length_le (by simp)]
theorem slice_upto (x : Str) (b : Nat) (hb : b ≤ x.cps.size) : Txt.slice x none (some b) = ⟨(x.cps.toList.take b).toArray⟩ := by
  have e : Txt.slice x none (some b) = Txt.slice x (some (0 : Nat)) (some b) := by
    unfold Txt.slice
    have : Builtin.Str.strSliceIndices none (some (b : Int)) 1 x.length = Builtin.Str.strSliceIndices (some ((0 : Nat) : Int)) (some (b : Int)) 1 x.length := by
      unfold Builtin.Str.strSliceIndices
      have e1 : max (0 : Int) (min (if ((0 : Nat) : Int) < 0 then ((0 : Nat) : Int) + ((x.length : Nat) : Int) else ((0 : Nat) : Int)) ((x.length : Nat) : Int)) = 0 := by
        rw [if_neg (by omega)]; omega
      simp only [show ((1 : Int) > 0) = True from by simp, if_true, e1]
    rw [this]
  rw [e, slice_nat x 0 _ (Nat.zero_le _) hb]
  refine Str.ext' ?_
  simp
theorem text_cps (x : Str) (ns : List Int) : (textOf x ns).cps.toList = x.cps.toList ++ 49 :: ns.map signN := rfl
theorem text_head (x : Str) (ns : List Int) : Txt.slice (textOf x ns) none (some ((x.cps.size : Nat) : Int)) = x := by
  rw [slice_upto _ _ (by simp [textOf])]
  refine Str.ext' ?_
  rw [text_cps]
  simp
theorem text_tail (x : Str) (ns : List Int) : Txt.slice (textOf x ns) (some (((x.cps.size : Nat) : Int) + 1)) none = ⟨(ns.map signN).toArray⟩ := by
  have e : (((x.cps.size : Nat) : Int) + 1) = ((x.cps.size + 1 : Nat) : Int) := by omega
  rw [e, slice_from _ _ (by simp [textOf])]
  refine Str.ext' ?_
  rw [text_cps, List.drop_append]
  simp
theorem chL_ok : ∀ c ∈ chL, 33 ≤ c ∧ c < 127 ∧ (c < 65 ∨ 90 < c) ∧ c ≠ 49 := by decide +kernel
theorem signN_mem {n : Int} (h : 0 ≤ n ∧ n < 32) : signN n ∈ chL := by
  have h2 : n.toNat < chL.length := by have : chL.length = 32 := rfl; omega
  unfold signN
  rw [List.getD, List.getElem?_eq_getElem h2, Option.getD_some]
  exact List.getElem_mem h2
theorem text_still {x : Str} {ns : List Int} (hx : ∀ c ∈ x.cps.toList, 33 ≤ c ∧ c ≤ 126 ∧ ¬ (65 ≤ c ∧ c ≤ 90)) (hb : ∀ n ∈ ns, 0 ≤ n ∧ n < 32) : KXs.Still (textOf x ns) := by
  intro c hc
  rw [text_cps] at hc
  rcases List.mem_append.mp hc with hc | hc
  · have := hx c hc; omega
  · rcases List.mem_cons.mp hc with rfl | hc
    · decide
    · obtain ⟨n, hn, rfl⟩ := List.mem_map.mp hc
      have := chL_ok _ (signN_mem (hb n hn))
      exact ⟨this.1, this.2.1, this.2.2.1⟩
theorem at_one (x : Str) (c i : Nat) : StrLaws.At x ⟨#[c]⟩ x.length i ↔ x.cps[i]? = some c := by rw [← Array.getElem?_toList]; exact StrLaws.subAt_one x c i
theorem text_rfind {x : Str} {ns : List Int} (hb : ∀ n ∈ ns, 0 ≤ n ∧ n < 32) : Txt.rfind (textOf x ns) (PySem.Str.ofString "1") = ((x.cps.size : Nat) : Int) := by
  have e : PySem.Str.ofString "1" = ⟨#[49]⟩ := by decide +kernel
  rw [e]
  have hl := text_len x ns
  have hat : (textOf x ns).cps[x.cps.size]? = some 49 := by
    rw [← Array.getElem?_toList, text_cps]
    simp
  rcases rfind_whole (textOf x ns) ⟨#[49]⟩ with ⟨_, h⟩ | ⟨i, hi, h1, h2⟩
  · exact absurd ((at_one _ _ x.cps.size).mpr hat) (h _)
  · rw [hi]
    congr 1
    rcases Nat.lt_trichotomy i x.cps.size with h | h | h
    · exact absurd ((at_one _ _ x.cps.size).mpr hat) (h2 _ h)
    · exact h
    · have := (at_one _ _ i).mp h1
      rw [← Array.getElem?_toList, text_cps, List.getElem?_append_right (by simp; omega), Array.length_toList] at this
      obtain ⟨j, hj⟩ : ∃ j, i - x.cps.size = j + 1 := ⟨i - x.cps.size - 1, by omega⟩
      rw [hj, List.getElem?_cons_succ, List.getElem?_map] at this
      cases hn : ns[j]? with
      | none => rw [hn] at this; cases this
      | some n =>
        rw [hn] at this
        have e2 : signN n = 49 := Option.some.inj this
        exact absurd e2 (chL_ok _ (signN_mem (hb n (List.mem_of_getElem? hn)))).2.2.2
theorem find_sign {n : Int} (h : 0 ≤ n ∧ n < 32) : Txt.find CH (signS n) = n := by
  have : ∀ k : Fin 32, Txt.find ⟨chL.toArray⟩ (signS (k : Nat)) = ((k : Nat) : Int) := by decide +kernel
  have h2 := this ⟨n.toNat, by omega⟩
  rw [ch_is]
  have e : ((⟨n.toNat, by omega⟩ : Fin 32) : Nat) = n.toNat := rfl
  rw [e] at h2
  rwa [Int.toNat_of_nonneg h.1] at h2
theorem in_sign {n : Int} (h : 0 ≤ n ∧ n < 32) : (!(Builtin.Str.occurrences CH (signS n) 0 CH.length 1).isEmpty) = true := by
  unfold signS
  rw [StrLaws.found_one, ch_is]
  exact decide_eq_true (signN_mem h)
theorem signs_text {ns : List Int} {a : Str} (h : a ∈ signs ⟨(ns.map signN).toArray⟩) : ∃ n ∈ ns, a = signS n := by
  obtain ⟨c, hc, rfl⟩ := List.mem_map.mp h
  obtain ⟨n, hn, rfl⟩ := List.mem_map.mp hc
  exact ⟨n, hn, rfl⟩
end Mine
end
section
open PySem PySem.W PySem.Calls PyProof.Rows
set_option maxRecDepth 100000
set_option linter.unusedVariables false
namespace Mine
open LCg
section
variable {prog : Program} {w : World} {A : Around} {E : Value → Shared → Prop} {s : Shared} {h₀ : Heap} {env : Env} {Q : Flow → Shared → Prop}

/-- what a turn hands back -/
def TurnEnd (h₀ : Heap) (L I : Addr) (oI : Obj) (G : Shared → Prop) (S : List (Addr × Obj) → Prop) (J : (Str → Option Value) → List (Addr × Obj) → Prop) (Q : Flow → Shared → Prop) (f : Flow) (s₂ : Shared) : Prop :=
  match f with
  | .ret v => Q (.ret v) s₂
  | .brk => False
  | _ => G s₂ ∧ ∃ m' news', Fr h₀ L s₂.heap m' ∧ News h₀ L s₂.heap ((I, oI) :: news') ∧ Off1 I news' ∧ S news' ∧ J m' news'

theorem off1_mem {I : Addr} : ∀ {l : List (Addr × Obj)}, Off1 I l → ∀ p ∈ l, p.1 ≠ I
  | [], _, _, h => nomatch h
  | _ :: _, x, p, h => by
    rcases List.mem_cons.mp h with rfl | h
    · exact x.1
    · exact off1_mem x.2 p h
theorem off1_of {I : Addr} : ∀ {l : List (Addr × Obj)}, (∀ p ∈ l, p.1 ≠ I) → Off1 I l
  | [], _ => trivial
  | _ :: _, h => ⟨h _ (.head _), off1_of fun p hp => h p (.tail _ hp)⟩

theorem loopJ {x : Str} {px pos : Pos} {iter : Expr} {body : List Stmt} {I : Addr} {fp : List Addr} {n : Nat} {P : Nat → Value → Prop} {St : Nat → Heap → Prop} {S : List (Addr × Obj) → Prop} {G : Shared → Prop} {m : Str → Option Value} {news : List (Addr × Obj)}
    {R : Result → Shared → Prop}
    (J : Nat → (Str → Option Value) → List (Addr × Obj) → Prop) (W : Walks prog w A I fp [I] n P St) (hIo : ∀ i h, St i h → ∃ o, h.get? I = some o)
    (hSt : ∀ i h h' o nw, St i h → h.get? I = some o → h'.get? I = some o → (∀ b o, h₀.get? b = some o → h'.get? b = some o) → News h₀ env.locals h' nw → S nw → St i h')
    (hG : ∀ s h tk, G s → G { s with heap := h, toks := tk })
    (hx : env.kindOf x = some .local) (hp : (env.scope.kind == .class || (env.scope.kind == .module && env.locals != env.globals)) = false)
    (hIL : env.locals ≠ I) (hLf : env.locals ∉ fp) (hI0 : h₀.get? I = none) (g0 : G s) (hst : St 0 s.heap) (F : Fr h₀ env.locals s.heap m) (N : News h₀ env.locals s.heap news) (off : Off1 I news) (hS : S news) (j0 : J 0 m news)
    (turn : ∀ i v m₁ news₁ s₁ oI, i < n → P i v → J i m₁ news₁ → G s₁ → Fr h₀ env.locals s₁.heap (fun y => if y = x then some v else m₁ y) → News h₀ env.locals s₁.heap ((I, oI) :: news₁) → Off1 I news₁ → S news₁ →
      wpAny (model prog w) A (execs body env) (TurnEnd h₀ env.locals I oI G S (J (i + 1)) (fun f s' => R (.ok f) s')) (fun _ _ => False) s₁)
    (done : ∀ s' m' news', G s' → Fr h₀ env.locals s'.heap m' → News h₀ env.locals s'.heap news' → J n m' news' → R (.ok .next) s') :
    codeAny (model prog w) A (.forLoop (.Name x px) (.ref I) body [] env) R s := by
  refine codeAny_forLoop
    (fun k s' => ∃ i m' news', G s' ∧ St i s'.heap ∧ Fr h₀ env.locals s'.heap m' ∧ News h₀ env.locals s'.heap news' ∧ Off1 I news' ∧ S news' ∧ J i m' news' ∧ i ≤ n ∧ k = n + 1 - i) ?_ (n + 1)
    ⟨0, m, news, g0, hst, F, N, off, hS, j0, Nat.zero_le _, rfl⟩
  rintro k s' ⟨i, m', news', g', hst', F', N', off', hS', hJ, hi, rfl⟩
  have next : ∀ h₁ : Heap, (∀ b o, b ∉ [I] → s'.heap.get? b = some o → h₁.get? b = some o) → Fr h₀ env.locals h₁ m' ∧ News h₀ env.locals h₁ news' := fun h₁ hk₁ =>
    ⟨fr_but F' hk₁ hIL hI0, news_but N' hk₁ (off1_mem off')⟩
  by_cases hlt : i < n
  · refine W.item i _ _ _ hlt hst' fun v h₁ tk₁ hP hst₁ hk₁ => ?_
    obtain ⟨F₁, N₁⟩ := next h₁ hk₁
    refine wpAny_assign_Name (wpAny_storeName_local hx F₁.ns (fun h₂ hn₂ hs₂ => ?_) hp)
    have F₂ := F₁.set hn₂ hs₂
    have hst₂ : St (i + 1) h₂ := W.frame _ _ _ hst₁ fun b hb o e => (hs₂.2 b fun q => hLf (q ▸ hb)).trans e
    obtain ⟨oI, heI⟩ := hIo _ _ hst₂
    have N₂ : News h₀ env.locals h₂ ((I, oI) :: news') := fun p hp => by
      rcases List.mem_cons.mp hp with rfl | hp
      · exact ⟨heI, Ne.symm hIL, hI0⟩
      · exact (N₁.set hs₂) p hp
    refine wpAny_mono (turn i v m' news' _ oI hlt hP hJ (hG _ _ _ (hG _ _ _ g')) F₂ N₂ off' hS') (fun f s₃ h₃ => ?_) fun _ _ e => e.elim
    have go : (G s₃ ∧ ∃ m'' news'', Fr h₀ env.locals s₃.heap m'' ∧ News h₀ env.locals s₃.heap ((I, oI) :: news'') ∧ Off1 I news'' ∧ S news'' ∧ J (i + 1) m'' news'') → ∃ k', k' < n + 1 - i ∧ ∃ i m' news', G s₃ ∧ St i s₃.heap ∧ Fr h₀ env.locals s₃.heap m' ∧ News h₀ env.locals s₃.heap news' ∧ Off1 I news' ∧ S news' ∧ J i m' news' ∧ i ≤ n ∧ k' = n + 1 - i := by
      rintro ⟨g3, m3, news3, F3, N3, off3, S3, J3⟩
      have N3' : News h₀ env.locals s₃.heap news3 := fun p hp => N3 p (List.mem_cons_of_mem _ hp)
      exact ⟨n + 1 - (i + 1), by omega, i + 1, m3, news3, g3, hSt _ _ _ _ _ hst₂ heI (N3 _ (.head _)).1 F3.keep N3' S3, F3, N3', off3, S3, J3, hlt, rfl⟩
    cases f with
    | ret v => exact h₃
    | brk => exact h₃.elim
    | cont => exact go h₃
    | next => exact go h₃
  · have hin : i = n := by omega
    subst hin
    refine W.done _ _ _ hst' fun h₁ tk₁ hk₁ => wpAny_execs_nil ?_
    obtain ⟨F₁, N₁⟩ := next h₁ hk₁
    exact done { s' with heap := h₁, toks := tk₁ } m' news' (hG _ _ _ g') F₁ N₁ hJ

/-- a loop over a list of the ledger or of the base -/
def AtList (prog : Program) (w : World) (A : Around) (h₀ : Heap) (env : Env) (x : Str) (body : List Stmt) (Q : Flow → Shared → Prop) (xv : Value) (s₁ : Shared) : Prop :=
  ∃ (ax : Addr) (its : Array Value) (news : List (Addr × Obj)) (m : Str → Option Value) (G : Shared → Prop) (J : Nat → (Str → Option Value) → List (Addr × Obj) → Prop), xv = .ref ax ∧ A.handled = none ∧ Fr h₀ env.locals s₁.heap m ∧ News h₀ env.locals s₁.heap news ∧ SrcAt h₀ ax its news ∧ G s₁ ∧ J 0 m news ∧
    (∀ s h tk, G s → G { s with heap := h, toks := tk }) ∧
    (∀ i v m₁ news₁ s₂ I oI, its[i]? = some v → J i m₁ news₁ → G s₂ → Fr h₀ env.locals s₂.heap (fun y => if y = x then some v else m₁ y) → News h₀ env.locals s₂.heap ((I, oI) :: news₁) → Off1 I news₁ → SrcAt h₀ ax its news₁ →
      wpAny (model prog w) A (execs body env) (TurnEnd h₀ env.locals I oI G (SrcAt h₀ ax its) (J (i + 1)) Q) (fun _ _ => False) s₂) ∧
    (∀ s' m' news', G s' → Fr h₀ env.locals s'.heap m' → News h₀ env.locals s'.heap news' → J its.size m' news' → Q .next s')

theorem For_list {x : Str} {px pos : Pos} {iter : Expr} {body : List Stmt} (hx : env.kindOf x = some .local) (hp : (env.scope.kind == .class || (env.scope.kind == .module && env.locals != env.globals)) = false)
    (h : wpAny (model prog w) A (eval iter env) (AtList prog w A h₀ env x body Q) E s)
    (hs : ∀ x, foldedSetIterable iter env x = pure x := by intro _; rfl) :
    wpAny (model prog w) A (exec (.For (.Name x px) iter body [] pos) env) Q E s := by
  refine wpAny_For (wpAny_mono h (fun xv s₁ h₁ => ?_) fun _ _ e => e) hs
  obtain ⟨ax, its, news, m, G, J, rfl, hh, F, N, S, g0, j0, hG, turn, done⟩ := h₁
  have hl := S.list F.keep N
  have hlt : ax < s₁.heap.objs.size := by obtain ⟨_, e, _⟩ := hl; exact Heap.lt_size e
  have up : ∀ b o, s₁.heap.get? b = some o → (s₁.heap.push { cls := .type "list_iterator", data := .fields #[.ref ax, .int 0 0] }).get? b = some o := fun b o e => Heap.get?_push_of_some _ e
  have hLa : env.locals ≠ ax := fun e => by
    obtain ⟨oL, es, ep, q, hd, _⟩ := F.ns
    obtain ⟨o, q2, _, n', hd'⟩ := hl
    rw [← e, q] at q2; cases q2; rw [hd] at hd'; cases hd'
  refine wpAny_pyIter_list hl ?_
  refine loopJ (pos := pos) (iter := iter) (G := G) (S := SrcAt h₀ ax its) (fp := [s₁.heap.objs.size, ax]) J (Walks.list hh s₁.heap.objs.size ax (Nat.ne_of_lt hlt) its) (fun i h st => by obtain ⟨o, e, _⟩ := st.1; exact ⟨o, e⟩) list_st hG hx hp (Nat.ne_of_lt F.ns.lt)
    (fun hm => by rcases List.mem_cons.mp hm with e | hm
                  · exact Nat.ne_of_lt F.ns.lt e
                  · exact hLa (List.mem_singleton.mp hm)) (next_is_new F) (hG _ _ _ g0) ⟨⟨_, Heap.get?_push_size _ rfl, rfl, rfl⟩, hl.push _⟩ (F.keeps up) (N.grown up) (off1_of fun p hp => Nat.ne_of_lt (Heap.lt_size (N p hp).1)) S j0 ?_ ?_
  · intro i v m₁ news₁ s₂ oI hi hP hJ hg F₁ N₁ off₁ S₁
    exact turn i v m₁ news₁ s₂ _ oI hP hJ hg F₁ N₁ off₁ S₁
  · intro s' m' news' g' F' N' J'
    exact done s' m' news' g' F' N' J'

def AtRange (prog : Program) (w : World) (A : Around) (h₀ : Heap) (env : Env) (x : Str) (body : List Stmt) (Q : Flow → Shared → Prop) (xv : Value) (s₁ : Shared) : Prop :=
  ∃ (r : Addr) (a b : Int) (t u v : Tok) (n : Nat) (news : List (Addr × Obj)) (m : Str → Option Value) (G : Shared → Prop) (J : Nat → (Str → Option Value) → List (Addr × Obj) → Prop), xv = .ref r ∧ A.handled = none ∧ Fr h₀ env.locals s₁.heap m ∧ News h₀ env.locals s₁.heap news ∧
    IsRange s₁.heap r a b 1 t u v ∧ Builtin.Range.small a b 1 = true ∧ Builtin.Range.rangeSize a b 1 = ((n : Nat) : Int) ∧ G s₁ ∧ J 0 m news ∧
    (∀ s h tk, G s → G { s with heap := h, toks := tk }) ∧
    (∀ i t m₁ news₁ s₂ I oI, i < n → J i m₁ news₁ → G s₂ → Fr h₀ env.locals s₂.heap (fun y => if y = x then some (.int (a + (i : Int)) t) else m₁ y) → News h₀ env.locals s₂.heap ((I, oI) :: news₁) → Off1 I news₁ →
      wpAny (model prog w) A (execs body env) (TurnEnd h₀ env.locals I oI G (fun _ => True) (J (i + 1)) Q) (fun _ _ => False) s₂) ∧
    (∀ s' m' news', G s' → Fr h₀ env.locals s'.heap m' → News h₀ env.locals s'.heap news' → J n m' news' → Q .next s')

theorem For_range {x : Str} {px pos : Pos} {iter : Expr} {body : List Stmt} (hx : env.kindOf x = some .local) (hp : (env.scope.kind == .class || (env.scope.kind == .module && env.locals != env.globals)) = false)
    (h : wpAny (model prog w) A (eval iter env) (AtRange prog w A h₀ env x body Q) E s)
    (hs : ∀ x, foldedSetIterable iter env x = pure x := by intro _; rfl) :
    wpAny (model prog w) A (exec (.For (.Name x px) iter body [] pos) env) Q E s := by
  refine wpAny_For (wpAny_mono h (fun xv s₁ h₁ => ?_) fun _ _ e => e) hs
  obtain ⟨r, a, b, t, u, v, n, news, m, G, J, rfl, hh, F, N, hr, hsm, hn, g0, j0, hG, turn, done⟩ := h₁
  refine wpAny_pyIter_range hr hsm ?_
  refine loopJ (pos := pos) (iter := iter) (G := G) (S := fun _ => True) (fp := [s₁.heap.objs.size]) J (range_walks hh a n) (fun i h st => ⟨_, st⟩) range_st hG hx hp (Nat.ne_of_lt F.ns.lt)
    (fun hm => Nat.ne_of_lt F.ns.lt (List.mem_singleton.mp hm)) (next_is_new F) (hG _ _ _ g0) (by show IsRangeIter _ _ _ _ _; rw [hn]; simpa using Heap.get?_push_size _ rfl) (F.keeps fun _ _ e => Heap.get?_push_of_some _ e) (N.grown fun _ _ e => Heap.get?_push_of_some _ e)
    (off1_of fun p hp => Nat.ne_of_lt (Heap.lt_size (N p hp).1)) trivial j0 ?_ ?_
  · intro i v m₁ news₁ s₂ oI hi hP hJ hg F₁ N₁ off₁ _
    obtain ⟨t, rfl⟩ := hP
    exact turn i t m₁ news₁ s₂ _ oI hi hJ hg F₁ N₁ off₁
  · intro s' m' news' g' F' N' J'
    exact done s' m' news' g' F' N' J'
end
end Mine
end
namespace Mine
theorem anew_B1v3 : True ∧ True := by
  w_top off
  walk1
  all_goals trivial
end Mine
section
open PySem PySem.W PySem.Calls PyProof.Rows
set_option maxRecDepth 100000
set_option linter.unusedVariables false
namespace Mine

local macro_rules | `(tactic| walk_at "binaryOp LShift int int") => `(tactic| (refine lshift_int_small (by decide) (by decide) (bits_and25 _) ?_))
local macro_rules | `(tactic| walk_at "stop") => `(tactic| first
  | (with_reducible show wpAny _ _ (exec (Stmt.For _ _ _ _ _) _) _ _ _)
  | (with_reducible show wpAny _ _ (exec (Stmt.While _ _ _ _) _) _ _ _)
  | (with_reducible show wpAny _ _ (eval (Expr.ListComp _ _ _ _) _) _ _ _)
  | (with_reducible show wpAny _ _ (eval (Expr.GeneratorExp _ _ _ _) _) _ _ _)
  | (with_reducible show wpAny _ _ (pyIter _) _ _ _))
local macro_rules | `(tactic| walk_at "S") => `(tactic| repeat' (first
  | (k_unfold; (try dsimp only))
  | (fail_if_success (k_end; skip)); (fail_if_success walk_at "stop"); first | walk1 | (dsimp only; walk1)))
local macro_rules | `(tactic| walk_at "one") => `(tactic| exact List.forall_mem_cons.mpr ⟨rfl, List.forall_mem_nil _⟩)
local macro_rules | `(tactic| walk_at "others") => `(tactic| (intro z h1 h2 h3; have h4 := h2 _ (.head _); simp only [kstB, if_neg h1, if_neg h4, h3, Bool.false_eq_true, if_false]))

set_option maxHeartbeats 4000000 in
theorem poly_spec {w : World} {dp un : Nat} {fr : Option (List Env)} {gd : Option (List Code)} {E : Value → Shared → Prop} {s : Shared} {p : Program} {loose : List Str} {mean : ExcName → Option Value} {mg mb : Str → Option Value} {Q : Value → Shared → Prop}
    {l : Addr} {arr : Array Value} {ns : List Int}
    (X : (Mine.hd.heap_39 w.params).In s.heap) (T : Top p loose mean mg mb s.heap) (hd : dp + 4 < recursionLimit)
    (hl : s.heap.IsList l arr) (hi : IntsAre arr.toList ns)
    (ret : ∀ t h' tk', Grow s h' → Q (.int (polyZ ns) t) { s with heap := h', toks := tk' }) :
    wpAny (model PySem.Challenge.rw_oo0007_03.row.prog w) (AA dp un fr gd) (call (.ref 21) [.ref l]) Q E s := by
  revert X; k_fill; intro X
  refine enterK (binds := [("values", .ref l)]) X T (by show dp < _; omega) (by k_is) (by k_is) (BindsTo.of_eq rfl) (locs rfl) ?_
  intro h₁ F N
  walk_at "S"
  refine For_invV (h₀ := s.heap) rfl rfl ?_
  walk_at "S"
  refine loopL (σ := Int × Tok) (fun c => [("chk", .int c.1 c.2)]) ["top", "i"] (fun pre c => c.1 = polyZ pre) (1, _) rfl (vs := arr.toList) (by rw [Array.toArray_toList]; exact hl) hi (by k_asm) (by k_asm) (by walk_at "one") rfl ?_ ?_
  · intro c pre post n t u h tk own e hc F N
    walk_at "S"
    refine For_invV (h₀ := s.heap) rfl rfl ?_
    walk_at "S"
    refine loopR (σ := Int × Tok) (fun c => [("chk", .int c.1 c.2)]) [] (fun pre c' => c'.1 = pre.foldl (inZ (c.1.fdiv (2 ^ Int.toNat 25))) (Builtin.bitXor (Builtin.bitAnd c.1 33554431 * 2 ^ Int.toNat 5) n)) (_, _) rfl (by assumption) rfl (n := 5) rfl (by k_asm) (by k_asm) (by walk_at "one") rfl ?_ ?_
    · intro c1 pre1 k1 t1 u1 h1 tk1 own1 ek hlt hc1 F1 N1
      have hk : k1 = 0 ∨ k1 = 1 ∨ k1 = 2 ∨ k1 = 3 ∨ k1 = 4 := by omega
      clear ek
      rcases hk with rfl | rfl | rfl | rfl | rfl
      all_goals walk_at "S"
      all_goals (refine loopEnd (_, _) (by k_asm) (by k_asm) (fun p hp => hp) (by walk_at "one") (by walk_at "others") ?_)
      all_goals (rw [List.foldl_append, ← hc1, List.foldl_cons, List.foldl_nil])
      all_goals first | exact inZ_posE (by with_reducible assumption) (by decide) | exact inZ_negE (by with_reducible assumption)
    · intro c1 u1 h1 tk1 hc1 F1 N1
      walk_at "S"
      refine loopEnd c1 (by k_asm) (by k_asm) (fun p hp => hp) (by walk_at "one") ?_ ?_
      · intro z h1 h2 h3
        have h4 := h2 _ (.head _)
        have h5 : z ≠ "top" ∧ z ≠ "i" := by
          refine ⟨?_, ?_⟩ <;> (rintro rfl; cases h3)
        simp only [kstB, if_neg h1, if_neg h4, h3, if_neg h5.1, if_neg h5.2, Bool.false_eq_true, if_false, List.contains_nil]
      · rw [hc1, hc, stepZ_range, polyZ_snoc]
  · intro c u h tk hc F N
    walk_at "S"
    dsimp only; rw [hc]
    exact ret _ _ _ F.keep
end Mine
end
namespace Mine
theorem anew_B2v3 : True ∧ True := by
  w_top off
  walk1
  all_goals trivial
end Mine
section
open PySem PySem.W PySem.Calls PyProof.Rows
set_option maxRecDepth 100000
set_option linter.unusedVariables false
namespace Mine
open LCg

local macro_rules | `(tactic| walk_at "binaryOp LShift int int") => `(tactic| (refine lshift_int_small (by decide) (by decide) (bits_and25 _) ?_))
local macro_rules | `(tactic| walk_at "stop") => `(tactic| first
  | (with_reducible show wpAny _ _ (exec (Stmt.For _ _ _ _ _) _) _ _ _)
  | (with_reducible show wpAny _ _ (exec (Stmt.While _ _ _ _) _) _ _ _)
  | (with_reducible show wpAny _ _ (eval (Expr.ListComp _ _ _ _) _) _ _ _)
  | (with_reducible show wpAny _ _ (eval (Expr.GeneratorExp _ _ _ _) _) _ _ _)
  | (with_reducible show wpAny _ _ (pyIter _) _ _ _))
local macro_rules | `(tactic| walk_at "S") => `(tactic| repeat' (first
  | (k_unfold; (try dsimp only))
  | ((with_reducible show Frag.In _ _ ∧ _); walk1)
  | (fail_if_success (k_end; skip)); (fail_if_success walk_at "stop"); first | walk1 | (dsimp only; walk1)))
local macro_rules | `(tactic| walk_at "one") => `(tactic| exact List.forall_mem_cons.mpr ⟨rfl, List.forall_mem_nil _⟩)
local macro_rules | `(tactic| walk_at "others") => `(tactic| (intro z h1 h2 h3; have h4 := h2 _ (.head _); simp only [kstB, if_neg h1, if_neg h4, h3, Bool.false_eq_true, if_false]))
def hiZ (c : Nat) : Int := (c : Int).fdiv (2 ^ Int.toNat 5)
def loZ (c : Nat) : Int := Builtin.bitAnd (c : Int) 31
def expandZ (x : Str) : List Int := x.cps.toList.map hiZ ++ [0] ++ x.cps.toList.map loZ
theorem expandZ_len (x : Str) : (expandZ x).length = 2 * x.cps.size + 1 := by
  unfold expandZ; simp only [List.length_append, List.length_map, List.length_cons, List.length_nil, Array.length_toList]; omega
set_option maxHeartbeats 4000000 in
theorem expand_spec {w : World} {dp un : Nat} {fr : Option (List Env)} {gd : Option (List Code)} {E : Value → Shared → Prop} {s : Shared} {p : Program} {loose : List Str} {mean : ExcName → Option Value} {mg mb : Str → Option Value} {Q : Value → Shared → Prop}
    {x : Str} {tx : Tok}
    (X : (Mine.hd.heap_39 w.params).In s.heap) (T : Top p loose mean mg mb s.heap) (hd : dp + 4 < recursionLimit) (hx : x.cps.size ≤ 1000)
    (ret : ∀ l arr k h' tk', Grow s h' → s.heap.get? l = none → h'.get? l = some (W.listOf arr k) → IntsAre arr.toList (expandZ x) → Q (.ref l) { s with heap := h', toks := tk' }) :
    wpAny (model PySem.Challenge.rw_oo0007_03.row.prog w) (AA dp un fr gd) (call (.ref 26) [.str x tx]) Q E s := by
  revert X; k_fill; intro X
  refine enterK (binds := [("hrp", .str x tx)]) X T (by show dp < _; omega) (by k_is) (by k_is) (BindsTo.of_eq rfl) (locs rfl) ?_
  intro h₁ F N
  walk_at "S"
  refine ListComp_S (F₀ := F) (by rfl) (by decide) (by rfl) (by decide) (by rfl) ?_
  walk_at "S"
  refine ⟨x, tx, [], rfl, rfl, by k_asm, by k_asm, by rw [sizeLine_eq]; omega, fun s₂ ⟨g, e⟩ => ?_⟩
  subst e
  refine compPure (fun i y => ∃ t, y = .int ((x.cps.toList.map hiZ).getD i 0) t) trivial ?_ ?_
  · rintro i ys v I oI C oC D m₂ h tk E' hi ⟨c, u, hc, rfl⟩ hC hm F N
    walk_at "S"
    refine ⟨?_, _, _, rfl, by k_asm, by k_asm⟩
    rw [getD_map hc]; exact ⟨_, rfl⟩
  · intro ys hl hR
    have hI := intsAre_of (ns := x.cps.toList.map hiZ) (by simpa using hl) hR
    clear hR
    walk_at "FinE"
    walk_at "S"
    refine ListComp_S (F₀ := by k_asm) (by rfl) (by decide) (by rfl) (by decide) (by rfl) ?_
    walk_at "S"
    refine ⟨x, tx, _, rfl, rfl, by k_asm, by k_asm, by rw [sizeLine_eq]; omega, fun s₂ ⟨g, e⟩ => ?_⟩
    subst e
    refine compPure (fun i y => ∃ t, y = .int ((x.cps.toList.map loZ).getD i 0) t) trivial ?_ ?_
    · rintro i ys v I oI C oC D m₂ h tk E' hi ⟨c, u, hc, rfl⟩ hC hm F N
      walk_at "S"
      refine ⟨?_, _, _, rfl, by k_asm, by k_asm⟩
      rw [getD_map hc]; exact ⟨_, rfl⟩
    · intro ys hl hR
      have hI2 := intsAre_of (ns := x.cps.toList.map loZ) (by simpa using hl) hR
      clear hR
      walk_at "FinE"
      walk_at "S"
      refine ret _ _ _ _ _ (Fr.keep (by k_asm)) (News.fresh (by k_asm) (.head _)) (News.get (by k_asm) (.head _)) ?_
      simp only [List.push_toArray, Array.toList_append]
      exact (hI.append (.cons 0 _ .nil)).append hI2
end Mine
end
namespace Mine
theorem anew_B3v3 : True ∧ True := by
  w_top off
  walk1
  all_goals trivial
end Mine
section
open PySem PySem.W PySem.Calls PyProof.Rows
set_option maxRecDepth 100000
set_option linter.unusedVariables false
namespace Mine
open LCg

local macro_rules | `(tactic| walk_at "binaryOp LShift int int") => `(tactic| (refine lshift_int_small (by decide) (by decide) (bits_and25 _) ?_))
local macro_rules | `(tactic| walk_at "stop") => `(tactic| first
  | (with_reducible show wpAny _ _ (exec (Stmt.For _ _ _ _ _) _) _ _ _)
  | (with_reducible show wpAny _ _ (exec (Stmt.While _ _ _ _) _) _ _ _)
  | (with_reducible show wpAny _ _ (eval (Expr.ListComp _ _ _ _) _) _ _ _)
  | (with_reducible show wpAny _ _ (eval (Expr.GeneratorExp _ _ _ _) _) _ _ _)
  | (with_reducible show wpAny _ _ (pyIter _) _ _ _))
local macro_rules | `(tactic| walk_at "S") => `(tactic| repeat' (first
  | (k_unfold; (try dsimp only))
  | ((with_reducible show Frag.In _ _ ∧ _); walk1)
  | (fail_if_success (k_end; skip)); (fail_if_success walk_at "stop"); first | walk1 | (dsimp only; walk1)))
local macro_rules | `(tactic| walk_at "one") => `(tactic| exact List.forall_mem_cons.mpr ⟨rfl, List.forall_mem_nil _⟩)
local macro_rules | `(tactic| walk_at "others") => `(tactic| (intro z h1 h2 h3; have h4 := h2 _ (.head _); simp only [kstB, if_neg h1, if_neg h4, h3, Bool.false_eq_true, if_false]))
local macro_rules | `(tactic| walk_at "len") => `(tactic| ((try simp only [List.length_append, List.length_cons, List.length_nil, List.length_map, expandZ_len, rangeKs_length] at *); omega))
local macro_rules | `(tactic| walk_at "binaryOp Add ref ref") => `(tactic| (k_here; k_dflt (refine' addInts ?F ?N ?l ?b ?i ?j ?z ?_; (case F => k_asm); (case N => k_asm); (case l => walk_at "alist"); (case b => walk_at "alist"); (case i => first | assumption | l_ints); (case j => first | assumption | l_ints); (case z => walk_at "len"); intro D' arr' k' h' F' N' hI' o1'; (try simp only [LCg.Off1, and_true] at o1'))))
local macro_rules | `(tactic| walk_at "room") => `(tactic| (dsimp only [AA]; omega))
local macro_rules | `(tactic| walk_at "top") => `(tactic| exact Top.keeps (by assumption) (Fr.keep (by k_asm)))
local macro_rules | `(tactic| walk_at "alist") => `(tactic| first | (with_reducible assumption) | exact isList_in (by k_asm) (by k_mem) | (refine Heap.IsList.at (h := _) (by assumption) (fun o e => Fr.keep (by k_asm) _ o e)))
local macro_rules | `(tactic| walk_at "call ref") => `(tactic| (k_here; k_dflt (refine' expand_spec ?X ?T ?d ?x ?_; (case X => k_in); (case T => walk_at "top"); (case d => walk_at "room"); (case x => first | assumption | omega); intro l' arr' k' h' tk' hg' hn' ho' hI'; have hb' := backL (by k_asm) (by k_asm) hg' hn' ho'; obtain ⟨F', N', o1'⟩ := hb'; (try simp only [LCg.Off1, and_true] at o1'))))
local macro_rules | `(tactic| walk_at "call ref") => `(tactic| (k_here; k_dflt (refine' poly_spec ?X ?T ?d ?l ?i ?_; (case X => k_in); (case T => walk_at "top"); (case d => walk_at "room"); (case l => walk_at "alist"); (case i => assumption); intro t' h' tk' hg'; have hb' := backI (by k_asm) (by k_asm) hg'; obtain ⟨F', N'⟩ := hb')))

set_option maxHeartbeats 4000000 in
theorem verify_spec {w : World} {dp un : Nat} {fr : Option (List Env)} {gd : Option (List Code)} {E : Value → Shared → Prop} {s : Shared} {p : Program} {loose : List Str} {mean : ExcName → Option Value} {mg mb : Str → Option Value} {Q : Value → Shared → Prop}
    {x : Str} {tx : Tok} {l : Addr} {arr : Array Value} {ns : List Int}
    (X : (Mine.hd.heap_39 w.params).In s.heap) (T : Top p loose mean mg mb s.heap) (hd : dp + 8 < recursionLimit) (hx : x.cps.size ≤ 1000)
    (hl : s.heap.IsList l arr) (hi : IntsAre arr.toList ns) (hn : ns.length ≤ 1000)
    (ret : ∀ h' tk', Grow s h' → Q (.bool (polyZ (expandZ x ++ ns) == 1)) { s with heap := h', toks := tk' }) :
    wpAny (model PySem.Challenge.rw_oo0007_03.row.prog w) (AA dp un fr gd) (call (.ref 33) [.str x tx, .ref l]) Q E s := by
  revert X; k_fill; intro X
  refine enterK (binds := [("hrp", .str x tx), ("data", .ref l)]) X T (by show dp < _; omega) (by k_is) (by k_is) (BindsTo.of_eq rfl) (locs rfl) ?_
  intro h₁ F N
  walk_at "S"
  exact ret _ _ (Fr.keep (by k_asm))

def digZ (P : Int) (i : Nat) : Int := Builtin.bitAnd (P.fdiv (2 ^ (5 * (5 - (0 + (i : Int)))).toNat)) 31
def checkZ (x : Str) (ns : List Int) : List Int := (List.range 6).map (digZ (Builtin.bitXor (polyZ (expandZ x ++ ns ++ [0, 0, 0, 0, 0, 0])) 1))
theorem digZ_bound (P : Int) (i : Nat) : 0 ≤ digZ P i ∧ digZ P i < 32 := by
  unfold digZ
  generalize P.fdiv _ = c
  by_cases hx : 0 ≤ c
  · rw [bitAnd_pp hx (by decide)]
    have h : c.toNat &&& (31 : Int).toNat ≤ 31 := Nat.and_le_right
    omega
  · rw [bitAnd_np hx (by decide)]
    have h : (31 : Int).toNat &&& (Builtin.bitNot c).toNat ≤ 31 := Nat.and_le_left
    omega
theorem checkZ_bound (x : Str) (ns : List Int) : ∀ n ∈ checkZ x ns, 0 ≤ n ∧ n < 32 := by
  intro n hn
  obtain ⟨i, _, rfl⟩ := List.mem_map.mp hn
  exact digZ_bound _ i
theorem checkZ_len (x : Str) (ns : List Int) : (checkZ x ns).length = 6 := by simp [checkZ]
theorem getD_range {f : Nat → Int} {i n : Nat} (h : i < n) : ((List.range n).map f).getD i 0 = f i := by simp [List.getD, h]
set_option maxHeartbeats 4000000 in
theorem create_spec {w : World} {dp un : Nat} {fr : Option (List Env)} {gd : Option (List Code)} {E : Value → Shared → Prop} {s : Shared} {p : Program} {loose : List Str} {mean : ExcName → Option Value} {mg mb : Str → Option Value} {Q : Value → Shared → Prop}
    {x : Str} {tx : Tok} {l : Addr} {arr : Array Value} {ns : List Int}
    (X : (Mine.hd.heap_39 w.params).In s.heap) (T : Top p loose mean mg mb s.heap) (hd : dp + 8 < recursionLimit) (hx : x.cps.size ≤ 1000)
    (hl : s.heap.IsList l arr) (hi : IntsAre arr.toList ns) (hn : ns.length ≤ 1000)
    (ret : ∀ l arr k h' tk', Grow s h' → s.heap.get? l = none → h'.get? l = some (W.listOf arr k) → IntsAre arr.toList (checkZ x ns) → Q (.ref l) { s with heap := h', toks := tk' }) :
    wpAny (model PySem.Challenge.rw_oo0007_03.row.prog w) (AA dp un fr gd) (call (.ref 38) [.str x tx, .ref l]) Q E s := by
  revert X; k_fill; intro X
  refine enterKC (binds := [("hrp", .str x tx), ("data", .ref l)]) X T (by show dp < _; omega) (by k_is) (by k_is) (BindsTo.of_eq rfl) (by rfl) (by decide +kernel) ?_
  intro h₁ tk cells F N Y
  k_cells Y
  walk_at "S"
  refine ListComp_U (F₀ := by k_asm) (by with_unfolding_all rfl) (by decide) (by rfl) (by decide) (by rfl) ?_
  walk_at "S"
  refine CompSrc.range (by rfl) (by k_asm) (by k_asm) (by assumption) (by decide) (n := 6) rfl (by rw [sizeLine_eq]; omega) ?_
  intro g
  refine compPure (fun i y => ∃ t, y = .int ((checkZ x ns).getD i 0) t) trivial ?_ ?_
  · rintro i ys v I oI C oC D m₂ h tk E' hi ⟨t, rfl⟩ hC hm F N
    walk_at "S"
    refine ⟨?_, _, _, rfl, by k_asm, by k_asm⟩
    rw [checkZ, getD_range hi]; exact ⟨_, rfl⟩
  · intro ys hl hR
    have hI2 := intsAre_of (ns := checkZ x ns) (by rw [hl, checkZ_len]) hR
    clear hR
    walk_at "FinE"
    walk_at "S"
    refine ret _ _ _ _ _ (Fr.keep (by k_asm)) (News.fresh (by k_asm) (.head _)) (News.get (by k_asm) (.head _)) hI2
end Mine
end
namespace Mine
theorem anew_B4v3 : True ∧ True := by
  w_top off
  walk1
  all_goals trivial
end Mine
section
open PySem PySem.W PySem.Calls PyProof.Rows
set_option maxRecDepth 100000
set_option linter.unusedVariables false
namespace Mine
open LCg

local macro_rules | `(tactic| walk_at "binaryOp LShift int int") => `(tactic| (refine lshift_int_small (by decide) (by decide) (bits_and25 _) ?_))
local macro_rules | `(tactic| walk_at "stop") => `(tactic| first
  | (with_reducible show wpAny _ _ (exec (Stmt.For _ _ _ _ _) _) _ _ _)
  | (with_reducible show wpAny _ _ (exec (Stmt.While _ _ _ _) _) _ _ _)
  | (with_reducible show wpAny _ _ (eval (Expr.ListComp _ _ _ _) _) _ _ _)
  | (with_reducible show wpAny _ _ (eval (Expr.GeneratorExp _ _ _ _) _) _ _ _)
  | (with_reducible show wpAny _ _ (pyIter _) _ _ _))
local macro_rules | `(tactic| walk_at "S") => `(tactic| repeat' (first
  | (k_unfold; (try dsimp only))
  | ((with_reducible show Frag.In _ _ ∧ _); walk1)
  | (fail_if_success (k_end; skip)); (fail_if_success walk_at "stop"); first | walk1 | (dsimp only; walk1)))
local macro_rules | `(tactic| walk_at "one") => `(tactic| exact List.forall_mem_cons.mpr ⟨rfl, List.forall_mem_nil _⟩)
local macro_rules | `(tactic| walk_at "others") => `(tactic| (intro z h1 h2 h3; have h4 := h2 _ (.head _); simp only [kstB, if_neg h1, if_neg h4, h3, Bool.false_eq_true, if_false]))
local macro_rules | `(tactic| walk_at "len") => `(tactic| ((try simp only [List.length_append, List.length_cons, List.length_nil, List.length_map, expandZ_len, checkZ_len, rangeKs_length] at *); omega))
local macro_rules | `(tactic| walk_at "binaryOp Add ref ref") => `(tactic| (k_here; k_dflt (refine' addInts ?F ?N ?l ?b ?i ?j ?z ?_; (case F => k_asm); (case N => k_asm); (case l => walk_at "alist"); (case b => walk_at "alist"); (case i => first | assumption | l_ints); (case j => first | assumption | l_ints); (case z => walk_at "len"); intro D' arr' k' h' F' N' hI' o1'; (try simp only [LCg.Off1, and_true] at o1'))))
local macro_rules | `(tactic| walk_at "room") => `(tactic| (dsimp only [AA]; omega))
local macro_rules | `(tactic| walk_at "top") => `(tactic| exact Top.keeps (by assumption) (Fr.keep (by k_asm)))
local macro_rules | `(tactic| walk_at "alist") => `(tactic| first | (with_reducible assumption) | exact isList_in (by k_asm) (by k_mem) | (refine Heap.IsList.at (h := _) (by assumption) (fun o e => Fr.keep (by k_asm) _ o e)))
local macro_rules | `(tactic| walk_at "call ref") => `(tactic| (k_here; k_dflt (refine' expand_spec ?X ?T ?d ?x ?_; (case X => k_in); (case T => walk_at "top"); (case d => walk_at "room"); (case x => first | assumption | omega); intro l' arr' k' h' tk' hg' hn' ho' hI'; have hb' := backL (by k_asm) (by k_asm) hg' hn' ho'; obtain ⟨F', N', o1'⟩ := hb'; (try simp only [LCg.Off1, and_true] at o1'))))
local macro_rules | `(tactic| walk_at "call ref") => `(tactic| (k_here; k_dflt (refine' poly_spec ?X ?T ?d ?l ?i ?_; (case X => k_in); (case T => walk_at "top"); (case d => walk_at "room"); (case l => walk_at "alist"); (case i => assumption); intro t' h' tk' hg'; have hb' := backI (by k_asm) (by k_asm) hg'; obtain ⟨F', N'⟩ := hb')))
local macro_rules | `(tactic| walk_at "call ref") => `(tactic| (k_here; k_dflt (refine' create_spec ?X ?T ?d ?x ?l ?i ?n ?_; (case X => k_in); (case T => walk_at "top"); (case d => walk_at "room"); (case x => first | assumption | omega); (case l => walk_at "alist"); (case i => assumption); (case n => walk_at "len"); intro l' arr' k' h' tk' hg' hn' ho' hI'; have hb' := backL (by k_asm) (by k_asm) hg' hn' ho'; obtain ⟨F', N', o1'⟩ := hb'; (try simp only [LCg.Off1, and_true] at o1'))))
local macro_rules | `(tactic| walk_at "call ref") => `(tactic| (k_here; k_dflt (refine' verify_spec ?X ?T ?d ?x ?l ?i ?n ?_; (case X => k_in); (case T => walk_at "top"); (case d => walk_at "room"); (case x => first | assumption | omega); (case l => walk_at "alist"); (case i => assumption); (case n => walk_at "len"); intro h' tk' hg'; have hb' := backI (by k_asm) (by k_asm) hg'; obtain ⟨F', N'⟩ := hb')))
local macro_rules | `(tactic| walk_at "slen") => `(tactic| ((try simp only [PySem.Str.length_append, len_one, len_one2, PySem.Str.length, Array.size_append, List.size_toArray, List.length_map, List.length_append, checkZ_len] at *); rw [sizeLine_eq]; omega))
local macro_rules | `(tactic| walk_at "binaryOp Add str str") => `(tactic| (k_dflt (refine' PyProof.Rows.add_str ?_ ?z; (case z => walk_at "slen"); intro t' tk')))
local macro_rules | `(tactic| walk_at "subscriptTail Name Name str int") => `(tactic| (k_dflt (refine item_str (x := CH) (fitsSsize_of (N := 9223372036854775808) (by omega) (by omega) (Int.le_refl _)) (by rw [ch_len]; omega) (by rw [ch_len]; omega) ?_; intro _)))

theorem joinOk_signs {ns : List Int} (h : ns.length ≤ 5000) : JoinOk (PySem.Str.ofString "") (ns.map signS) = true := by
  unfold JoinOk
  rw [Bool.not_eq_true']
  refine StrLaws.joinFits (B := 1) (fun y hy => ?_) ?_
  · obtain ⟨n, _, rfl⟩ := List.mem_map.mp hy
    exact Nat.le_refl _
  · have e : (PySem.Str.ofString "").length = 0 := by decide +kernel
    rw [e, List.length_map]; omega
set_option maxHeartbeats 4000000 in
theorem encode_spec {w : World} {dp un : Nat} {fr : Option (List Env)} {gd : Option (List Code)} {E : Value → Shared → Prop} {s : Shared} {p : Program} {loose : List Str} {mean : ExcName → Option Value} {mg mb : Str → Option Value} {Q : Value → Shared → Prop}
    {x : Str} {tx : Tok} {l : Addr} {arr : Array Value} {ns : List Int}
    (X : (Mine.hd.heap_39 w.params).In s.heap) (T : Top p loose mean mg mb s.heap) (hd : dp + 12 < recursionLimit) (hx : x.cps.size ≤ 1000)
    (hl : s.heap.IsList l arr) (hi : IntsAre arr.toList ns) (hn : ns.length ≤ 1000) (hb : ∀ n ∈ ns, 0 ≤ n ∧ n < 32)
    (ret : ∀ t h' tk', Grow s h' → Q (.str (textOf x (ns ++ checkZ x ns)) t) { s with heap := h', toks := tk' }) :
    wpAny (model PySem.Challenge.rw_oo0007_03.row.prog w) (AA dp un fr gd) (call (.ref 43) [.str x tx, .ref l]) Q E s := by
  revert X; k_fill; intro X
  refine enterK (binds := [("hrp", .str x tx), ("data", .ref l)]) X T (by show dp < _; omega) (by k_is) (by k_is) (BindsTo.of_eq rfl) (locs rfl) ?_
  intro h₁ F N
  walk_at "S"
  have hIc := (by assumption : IntsAre _ (ns ++ checkZ x ns))
  have hlen := hIc.length
  simp only [List.length_append, checkZ_len, Array.length_toList] at hlen
  have hall : ∀ n ∈ ns ++ checkZ x ns, 0 ≤ n ∧ n < 32 := fun n hm => (List.mem_append.mp hm).elim (hb n) (checkZ_bound x ns n)
  refine ListComp_U (F₀ := by k_asm) (by with_unfolding_all rfl) (by decide) (by rfl) (by decide) (by rfl) ?_
  walk_at "S"
  refine CompSrc.ledger (by rfl) (by k_asm) (by k_asm) (by k_mem) (by rw [sizeLine_eq]; omega) ?_
  intro g
  refine compPure (fun i y => ∃ t, y = .str (((ns ++ checkZ x ns).map signS).getD i ⟨#[]⟩) t) (Or.inr ⟨_, by k_mem, rfl, _, rfl⟩) ?_ ?_
  · rintro i ys v I oI C oC D m₂ h tk E' hi hv hC hm F N
    obtain ⟨n, t, rfl, hn'⟩ := hIc.at i v (by simpa using hv)
    have hb' := hall n (List.mem_of_getElem? hn')
    walk_at "S"
    refine ⟨?_, _, _, rfl, by k_asm, by k_asm⟩
    have e : ((ns ++ checkZ x ns).map signS).getD i ⟨#[]⟩ = signS n := by simp only [List.getD, List.getElem?_map, hn', Option.map_some, Option.getD_some]
    rw [e, ← item_sign hb']
    exact ⟨_, rfl⟩
  · intro ys hl hR
    have hI2 := strsAre_of (ns := (ns ++ checkZ x ns).map signS) (by rw [hl, List.length_map, List.length_append, checkZ_len]; omega) hR
    clear hR
    walk_at "FinE"
    walk_at "S"
    obtain ⟨lv, ev, et⟩ := strsAre_values hI2
    refine SC.join (l := lv) (by rw [← ev]; exact isList_in (k := ys.length) (by k_asm) (by k_mem)) et (joinOk_signs (by rw [List.length_append, checkZ_len]; omega)) ?_
    intro t' tk'
    have hjl : (Txt.join (PySem.Str.ofString "") ((ns ++ checkZ x ns).map signS)).length ≤ 2000 := by
      rw [join_signs]; simp only [PySem.Str.length, List.size_toArray, List.length_map, List.length_append, checkZ_len]; omega
    refine PyProof.Rows.add_str ?_ (by rw [PySem.Str.length_append, len_one, sizeLine_eq]; simp only [PySem.Str.length] at *; omega)
    intro t2 tk2
    rw [text_is]
    walk_at "S"
    exact ret _ _ _ (Fr.keep (by k_asm))
end Mine
end
namespace Mine
theorem anew_B5v3 : True ∧ True := by
  w_top off
  walk1
  all_goals trivial
end Mine
section
open PySem PySem.W PySem.Calls PyProof.Rows
set_option maxRecDepth 100000
set_option linter.unusedVariables false
namespace Mine
open LCg

local macro_rules | `(tactic| walk_at "binaryOp LShift int int") => `(tactic| (refine lshift_int_small (by decide) (by decide) (bits_and25 _) ?_))
local macro_rules | `(tactic| walk_at "stop") => `(tactic| first
  | (with_reducible show wpAny _ _ (exec (Stmt.For _ _ _ _ _) _) _ _ _)
  | (with_reducible show wpAny _ _ (exec (Stmt.Assign _ (Expr.ListComp _ _ _ _) _) _) _ _ _)
  | (with_reducible show wpAny _ _ (exec (Stmt.While _ _ _ _) _) _ _ _)
  | (with_reducible show wpAny _ _ (eval (Expr.ListComp _ _ _ _) _) _ _ _)
  | (with_reducible show wpAny _ _ (eval (Expr.GeneratorExp _ _ _ _) _) _ _ _)
  | (with_reducible show wpAny _ _ (call (Value.builtin "any") _) _ _ _)
  | (with_reducible show wpAny _ _ (call (Value.builtin "all") _) _ _ _)
  | (with_reducible show wpAny _ _ (pyIter _) _ _ _))
local macro_rules | `(tactic| walk_at "S") => `(tactic| repeat' (first
  | (k_unfold; (try dsimp only))
  | ((with_reducible show Frag.In _ _ ∧ _); walk1)
  | (fail_if_success (k_end; skip)); (fail_if_success walk_at "stop"); first | walk1 | (dsimp only; walk1)))
local macro_rules | `(tactic| walk_at "one") => `(tactic| exact List.forall_mem_cons.mpr ⟨rfl, List.forall_mem_nil _⟩)
local macro_rules | `(tactic| walk_at "others") => `(tactic| (intro z h1 h2 h3; have h4 := h2 _ (.head _); simp only [kstB, if_neg h1, if_neg h4, h3, Bool.false_eq_true, if_false]))
local macro_rules | `(tactic| walk_at "len") => `(tactic| ((try simp only [List.length_append, List.length_cons, List.length_nil, List.length_map, expandZ_len, checkZ_len, rangeKs_length] at *); omega))
local macro_rules | `(tactic| walk_at "binaryOp Add ref ref") => `(tactic| (k_here; k_dflt (refine' addInts ?F ?N ?l ?b ?i ?j ?z ?_; (case F => k_asm); (case N => k_asm); (case l => walk_at "alist"); (case b => walk_at "alist"); (case i => first | assumption | l_ints); (case j => first | assumption | l_ints); (case z => walk_at "len"); intro D' arr' k' h' F' N' hI' o1'; (try simp only [LCg.Off1, and_true] at o1'))))
local macro_rules | `(tactic| walk_at "room") => `(tactic| (dsimp only [AA]; omega))
local macro_rules | `(tactic| walk_at "top") => `(tactic| exact Top.keeps (by assumption) (Fr.keep (by k_asm)))
local macro_rules | `(tactic| walk_at "alist") => `(tactic| first | (with_reducible assumption) | exact isList_in (by k_asm) (by k_mem) | (refine Heap.IsList.at (h := _) (by assumption) (fun o e => Fr.keep (by k_asm) _ o e)))
local macro_rules | `(tactic| walk_at "call ref") => `(tactic| (k_here; k_dflt (refine' expand_spec ?X ?T ?d ?x ?_; (case X => k_in); (case T => walk_at "top"); (case d => walk_at "room"); (case x => first | assumption | omega); intro l' arr' k' h' tk' hg' hn' ho' hI'; have hb' := backL (by k_asm) (by k_asm) hg' hn' ho'; obtain ⟨F', N', o1'⟩ := hb'; (try simp only [LCg.Off1, and_true] at o1'))))
local macro_rules | `(tactic| walk_at "call ref") => `(tactic| (k_here; k_dflt (refine' poly_spec ?X ?T ?d ?l ?i ?_; (case X => k_in); (case T => walk_at "top"); (case d => walk_at "room"); (case l => walk_at "alist"); (case i => assumption); intro t' h' tk' hg'; have hb' := backI (by k_asm) (by k_asm) hg'; obtain ⟨F', N'⟩ := hb')))
local macro_rules | `(tactic| walk_at "call ref") => `(tactic| (k_here; k_dflt (refine' create_spec ?X ?T ?d ?x ?l ?i ?n ?_; (case X => k_in); (case T => walk_at "top"); (case d => walk_at "room"); (case x => first | assumption | omega); (case l => walk_at "alist"); (case i => assumption); (case n => walk_at "len"); intro l' arr' k' h' tk' hg' hn' ho' hI'; have hb' := backL (by k_asm) (by k_asm) hg' hn' ho'; obtain ⟨F', N', o1'⟩ := hb'; (try simp only [LCg.Off1, and_true] at o1'))))
local macro_rules | `(tactic| walk_at "call ref") => `(tactic| (k_here; k_dflt (refine' verify_spec ?X ?T ?d ?x ?l ?i ?n ?_; (case X => k_in); (case T => walk_at "top"); (case d => walk_at "room"); (case x => first | assumption | omega); (case l => walk_at "alist"); (case i => assumption); (case n => walk_at "len"); intro h' tk' hg'; have hb' := backI (by k_asm) (by k_asm) hg'; obtain ⟨F', N'⟩ := hb')))
local macro_rules | `(tactic| walk_at "slen") => `(tactic| ((try simp only [PySem.Str.length_append, len_one, len_one2, PySem.Str.length, Array.size_append, List.size_toArray, List.length_map, List.length_append, checkZ_len] at *); rw [sizeLine_eq]; omega))
local macro_rules | `(tactic| walk_at "binaryOp Add str str") => `(tactic| (k_dflt (refine' PyProof.Rows.add_str ?_ ?z; (case z => walk_at "slen"); intro t' tk')))
local macro_rules | `(tactic| walk_at "subscriptTail Name Name str int") => `(tactic| (k_dflt (refine item_str (x := CH) (fitsSsize_of (N := 9223372036854775808) (by omega) (by omega) (Int.le_refl _)) (by rw [ch_len]; omega) (by rw [ch_len]; omega) ?_; intro _)))
local macro_rules | `(tactic| walk_at "eval Name") => `(tactic| (k_here; (with_reducible show wpAny _ _ (eval (Expr.Name _ _) (genEnv _ _ _ _ _ _)) _ _ _); k_dflt (first
  | (refine nameG_L (by k_asm) (by assumption) ?_)
  | (refine nameG_K (by k_asm) (by k_asm) (by k_asm) (by rfl) (by k_is) ?_)
  | (refine nameG_B (by k_asm) (by k_asm) (by k_asm) (by rfl) (by k_is) (by boot_by_name) (by decide) ?_))))
local macro_rules | `(tactic| walk_at "call builtin:str.lower") => `(tactic| (refine KXs.lower_K (by assumption) (by omega) ?_; intro t' tk'))
local macro_rules | `(tactic| walk_at "call builtin:str.rfind") => `(tactic| (refine SC.rfind ?_; (try dsimp only); rw [text_rfind (by assumption)]))
local macro_rules | `(tactic| walk_at "compareOp NotEq str str") => `(tactic| (refine PyProof.Rows.ne_str ?_; (try dsimp only); rw [bne_self_eq_false]))
set_option maxHeartbeats 4000000 in
theorem decode_spec {w : World} {dp un : Nat} {fr : Option (List Env)} {gd : Option (List Code)} {E : Value → Shared → Prop} {s : Shared} {p : Program} {loose : List Str} {mean : ExcName → Option Value} {mg mb : Str → Option Value} {Q : Value → Shared → Prop}
    {x : Str} {tx : Tok} {ns : List Int} {ps : Array Value}
    (X : (Mine.hd.heap_39 w.params).In s.heap) (T : Top p loose mean mg mb s.heap) (C : CodeHd s.heap 47 45) (hP : s.heap.get? 45 = some (tabObj ps)) (ht : TriplesOk ps.toList) (hG : AllBare s.gens) (hd : dp + 16 < recursionLimit)
    (hx0 : 1 ≤ x.cps.size) (hx : x.cps.size ≤ 83) (hxc : ∀ c ∈ x.cps.toList, 33 ≤ c ∧ c ≤ 126 ∧ ¬ (65 ≤ c ∧ c ≤ 90)) (hn0 : 6 ≤ ns.length) (hn : ns.length ≤ 500) (hb : ∀ n ∈ ns, 0 ≤ n ∧ n < 32)
    (retOk : polyZ (expandZ x ++ ns) = 1 → ∀ l dl t arr k k' s' ps', s'.os = s.os → AllBare s'.gens → (∀ b o, b ≠ 45 → s.heap.get? b = some o → s'.heap.get? b = some o) → s'.heap.get? 45 = some (tabObj ps') → TriplesOk ps'.toList →
      (hideAll s.heap [45]).get? l = none → (hideAll s.heap [45]).get? dl = none → l ≠ dl → s'.heap.get? l = some { cls := .type "tuple", data := .seq #[.str x t, .ref dl] k } → s'.heap.get? dl = some (W.listOf arr k') → IntsAre arr.toList (ns.take (ns.length - 6)) → Q (.ref l) s')
    (retNo : polyZ (expandZ x ++ ns) ≠ 1 → ∀ l k s' ps', s'.os = s.os → AllBare s'.gens → (∀ b o, b ≠ 45 → s.heap.get? b = some o → s'.heap.get? b = some o) → s'.heap.get? 45 = some (tabObj ps') → TriplesOk ps'.toList →
      (hideAll s.heap [45]).get? l = none → s'.heap.get? l = some { cls := .type "tuple", data := .seq #[.none, .none] k } → Q (.ref l) s') :
    wpAny (model PySem.Challenge.rw_oo0007_03.row.prog w) (AA dp un fr gd) (call (.ref 48) [.str (textOf x ns) tx]) Q E s := by
  revert X; k_fill; intro X
  refine enterKH (binds := [("bech", .str (textOf x ns) tx)]) X T hP (by show dp < _; omega) (by k_is) (by k_is) (BindsTo.of_eq rfl) (locs rfl) ?_
  intro h₁ F N
  have Xg := hide_K hP X (by rfl)
  have Tg := hide_top hP T
  have Cg := hide_code hP C
  obtain ⟨bm, ob, M⟩ := bmod_of_top Tg
  have hst := text_still hxc hb
  have hlow := KXs.lower_still hst
  have hrf := text_rfind (x := x) hb
  have htl := text_len x ns
  walk_at "S"
  refine genStr (g := hideAll s.heap [45]) (q := fun _ => false) (by k_asm) Cg M Tg.nolimit (by rfl) (by rfl) (by rfl) (by rfl) (by decide) (by rfl) (by rfl) (by rfl) (by show dp + 1 < _; omega) ?_ (by intro _; rfl)
  walk_at "S"
  refine ⟨_, _, _, rfl, by k_asm, by k_asm, ht, hG, ?_, ?_⟩
  · intro C code A' E' a tk u m₂ hA hD hU ha F hm
    obtain ⟨c, hc, rfl⟩ := List.mem_map.mp ha
    have hcb := hst c hc
    have hg1 : ((⟨#[c]⟩ : Str).cps.getD 0 0) = c := rfl
    walk_at "S"
    all_goals first
      | (exfalso; rw [hg1] at *; omega)
      | (refine ⟨?_, _, _, rfl, fun _ _ e => e⟩; rw [hg1] at *; exact congrArg Value.bool (decide_eq_false (by omega)))
  · intro a Kb s₅ ps' hLK hPK F N ht' hG' hos hgen
    walk_at "S"
    refine any_genD F hG' hgen hLK ?_
    intro s₆ F6 hG6 hos6 hk6
    have N6 : News _ _ s₆.heap [(45, tabObj ps')] := fun q hq => by rw [List.mem_singleton.mp hq]; exact ⟨hk6 _ _ hPK (N _ (.head _)).1, (N _ (.head _)).2⟩
    have hany : ((List.filter (fun x => true) (signs (textOf x ns))).any fun k => false) = false := by simp
    rw [hany]
    clear hgen hany hk6 N F
    walk_at "S"
    refine genStr (g := hideAll s.heap [45]) (q := fun _ => true) (by k_asm) Cg M Tg.nolimit (by rfl) (by rfl) (by rfl) (by rfl) (by decide) (by rfl) (by rfl) (by rfl) (by show dp + 1 < _; omega) ?_ (by intro _; rfl)
    walk_at "S"
    refine ⟨⟨(ns.map signN).toArray⟩, _, _, by rw [text_tail], by k_asm, by k_asm, ht', hG6, ?_, ?_⟩
    · intro C code A' E' a tk u m₂ hA hD hU ha F hm
      obtain ⟨n, hn1, rfl⟩ := signs_text ha
      walk_at "S"
      exact ⟨congrArg Value.bool (in_sign (hb n hn1)), _, _, rfl, fun _ _ e => e⟩
    · intro a2 Kb2 s₇ ps2 hLK2 hPK2 F7 N7 ht2 hG7 hos7 hgen2
      walk_at "S"
      refine all_genD F7 hG7 hgen2 hLK2 ?_
      intro s₈ F8 hG8 hos8 hk8
      have N8 : News _ _ s₈.heap [(45, tabObj ps2)] := fun q hq => by rw [List.mem_singleton.mp hq]; exact ⟨hk8 _ _ hPK2 (N7 _ (.head _)).1, (N7 _ (.head _)).2⟩
      have hall : ((List.filter (fun x => true) (signs (⟨(ns.map signN).toArray⟩ : Str))).all fun k => true) = true := by simp
      rw [hall]
      clear hgen2 hall hk8 N7 F7
      walk_at "S"
      rename Fr _ _ _ _ => F9
      rw [text_head] at F9
      refine Assign_ListComp_S (F₀ := F9) (by rfl) (by with_unfolding_all rfl) (by with_unfolding_all rfl) (by decide) (by rfl) (by decide) (by rfl) (by rfl) (by rfl) ?_
      walk_at "S"
      refine ⟨⟨(ns.map signN).toArray⟩, _, _, by rw [text_tail], rfl, by k_asm, by k_asm, by rw [sizeLine_eq]; simp only [List.size_toArray, List.length_map]; omega, fun s9 ⟨g9, e9⟩ => ?_⟩
      subst e9
      refine compPure (fun i y => ∃ t, y = .int (ns.getD i 0) t) trivial ?_ ?_
      · rintro i ys v I oI C oC D m₂ h tk E' hi ⟨c, u, hc, rfl⟩ hC hm F N
        obtain ⟨n, hn1, rfl⟩ : ∃ n, ns[i]? = some n ∧ signN n = c := by
          have hc' : (ns.map signN)[i]? = some c := by simpa using hc
          rw [List.getElem?_map] at hc'
          obtain ⟨n, h1, h2⟩ := Option.map_eq_some_iff.mp hc'
          exact ⟨n, h1, h2⟩
        walk_at "S"
        refine ⟨?_, _, _, rfl, by k_asm, by k_asm⟩
        have e1 := find_sign (hb n (List.mem_of_getElem? hn1))
        have e2 : ns.getD i 0 = n := by simp [List.getD, hn1]
        unfold signS at e1
        rw [e2, e1]; exact ⟨_, rfl⟩
      · intro ys hl hR
        have hI2 := intsAre_of (ns := ns) (by simpa using hl) hR
        clear hR
        walk_at "FinA"
        walk_at "S"
        · rename News _ _ _ _ => N10
          rename Fr _ _ _ _ => F10
          refine retOk (by assumption) _ _ _ _ _ _ _ ps2 (hos8.trans (hos7.trans (hos6.trans hos))) hG8 (fun b o hb' e => F10.keep b o (hideAll_get _ e (by simpa using hb'))) (News.get N10 (by k_mem)) ht2
            (News.fresh N10 (.head _)) (News.fresh N10 (.tail _ (.head _))) ?_ (News.get N10 (.head _)) (News.get N10 (.tail _ (.head _))) (by assumption)
          intro e
          have h1 := News.get N10 (.head _)
          have h2 := News.get N10 (.tail _ (.head _))
          rw [e, h2] at h1
          have h3 := congrArg (fun o => o.map Obj.cls) h1
          exact absurd (Value.type.inj (Option.some.inj h3)) (by decide)
        · rename News _ _ _ _ => N10
          rename Fr _ _ _ _ => F10
          exact retNo (by assumption) _ _ _ ps2 (hos8.trans (hos7.trans (hos6.trans hos))) hG8 (fun b o hb' e => F10.keep b o (hideAll_get _ e (by simpa using hb'))) (News.get N10 (by k_mem)) ht2
            (News.fresh N10 (.head _)) (News.get N10 (.head _))
end Mine
end
section
open PySem PySem.W PySem.Calls PyProof.Rows
set_option maxRecDepth 100000
set_option linter.unusedVariables false
namespace Mine
def byStep (c : List Int × Int) : List Int × Int := (c.1 ++ c.1.map (fun e => Builtin.bitXor e c.2), Builtin.bitXor (c.2 * 2) (if c.2 > 15 then 41 else 0))
def byIter : Nat → Int → List Int × Int
  | 0, n => ([0], n)
  | k + 1, n => byStep (byIter k n)
def byZ (n : Int) : List Int := (byIter 5 n).1
def tabZ (c e : Int) : Int := (byZ c).getD e.toNat 0
theorem small_nat {n : Nat} (h : n ≤ 100) : Builtin.Range.small 0 (n : Int) 1 = true ∧ Builtin.Range.rangeSize 0 (n : Int) 1 = (n : Int) := by
  have H : ∀ k : Nat, k ≤ 100 → Builtin.Range.small 0 (k : Int) 1 = true ∧ Builtin.Range.rangeSize 0 (k : Int) 1 = (k : Int) := by decide +kernel
  exact H n h
abbrev low (a : Int) : Prop := 0 ≤ a ∧ a < 32
theorem low_nat {a : Int} (h : low a) : ∃ k : Nat, k < 32 ∧ a = (k : Int) := ⟨a.toNat, by obtain ⟨h0, h1⟩ := h; omega, by obtain ⟨h0, h1⟩ := h; omega⟩
theorem low_xor {a b : Int} (ha : low a) (hb : low b) : low (Builtin.bitXor a b) := by
  have H : ∀ i : Nat, i < 32 → ∀ j : Nat, j < 32 → 0 ≤ Builtin.bitXor (i : Int) (j : Int) ∧ Builtin.bitXor (i : Int) (j : Int) < 32 := by decide +kernel
  obtain ⟨i, hi, rfl⟩ := low_nat ha
  obtain ⟨j, hj, rfl⟩ := low_nat hb
  exact H i hi j hj
theorem low_tab {c : Int} (hc : low c) (e : Int) : low (tabZ c e) := by
  have H : ∀ i : Nat, i < 32 → ∀ x ∈ byZ (i : Int), 0 ≤ x ∧ x < 32 := by decide +kernel
  obtain ⟨i, hi, rfl⟩ := low_nat hc
  unfold tabZ
  rcases Nat.lt_or_ge e.toNat (byZ (i : Int)).length with h | h
  · rw [List.getD, List.getElem?_eq_getElem h]
    exact H i hi _ (List.getElem_mem h)
  · rw [List.getD, List.getElem?_eq_none h]; exact ⟨Int.le_refl _, by decide⟩
section
variable {prog : Program} {w : World} {A : Around} {E : Value → Shared → Prop} {s : Shared}
theorem byZ_len (n : Int) : (byZ n).length = 32 := by
  have H : ∀ (k : Nat) (n : Int), (byIter k n).1.length = 2 ^ k := by
    intro k n
    induction k with
    | zero => rfl
    | succ k ih => show (_ ++ List.map _ _).length = _; rw [List.length_append, List.length_map, ih, Nat.pow_succ]; omega
  exact H 5 n
theorem tab_item {value slice : Expr} {l : Addr} {arr : Array Value} {c k : Int} {u : Tok} {Q : Value → Shared → Prop} (hl : s.heap.IsList l arr) (hi : IntsAre arr.toList (byZ c)) (h0 : 0 ≤ k) (h1 : k < 32) (h : ∀ t, Q (.int (tabZ c k) t) s)
    (hs : subscripted slice false (.ref l) (.int k u) = operate [.ref l, .int k u] (getItem (.ref l) (.int k u)) := by with_unfolding_all rfl) (hg : ∀ r, letTemporaryGo value (.ref l) r = pure () := by intro _; with_unfolding_all rfl) :
    wpAny (model prog w) A (subscriptTail value slice (.ref l) (.int k u)) Q E s := by
  have hlt : k.toNat < (byZ c).length := by rw [byZ_len]; omega
  have hlen := hi.length
  have hv : arr.toList[k.toNat]? = some (arr.toList[k.toNat]'(by rw [hlen]; exact hlt)) := List.getElem?_eq_getElem _
  obtain ⟨n, t, e, hn⟩ := hi.at k.toNat _ hv
  refine item_list (x := .int (tabZ c k) t) hl h0 (by omega) ?_ (h t) hs hg
  rw [← Array.getElem?_toList, hv, e]
  unfold tabZ
  rw [List.getD, hn]; rfl
end
end Mine
end
section
open PySem PySem.W PySem.Calls PyProof.Rows
set_option maxRecDepth 100000
set_option linter.unusedVariables false
namespace Mine
open LCg
/-- what holds between two turns -/
def StJ {σ : Type} (Led : σ → List (Addr × Obj)) (ps : σ → List (Str × Value)) (stored : List Str) (x : Str) (m₀ : Str → Option Value) (P : Nat → σ → Prop) (i : Nat) (m : Str → Option Value) (nx : List (Addr × Obj)) : Prop :=
  ∃ c, nx = Led c ∧ (∀ p ∈ ps c, m p.1 = some p.2) ∧ (∀ z, z ≠ x → (∀ p ∈ ps c, z ≠ p.1) → stored.contains z = false → m z = m₀ z) ∧ P i c
def stM (stored : List Str) (ps : List (Str × Value)) (m₀ u : Str → Option Value) : Str → Option Value := kstB (fun z => if stored.contains z then u z else m₀ z) ps
theorem stM_eq {σ : Type} {Led : σ → List (Addr × Obj)} {ps : σ → List (Str × Value)} {stored : List Str} {x : Str} {m₀ m : Str → Option Value} {c : σ} (hk : ∀ p ∈ ps c, m p.1 = some p.2) (hr : ∀ z, z ≠ x → (∀ p ∈ ps c, z ≠ p.1) → stored.contains z = false → m z = m₀ z) {z : Str} (hz : z ≠ x) :
    kstB (fun z => if stored.contains z then m z else m₀ z) (ps c) z = m z := by
  refine kstB_eq hk fun hn => ?_
  show (if stored.contains z = true then m z else m₀ z) = m z
  cases h3 : stored.contains z with
  | true => rfl
  | false => simp only [Bool.false_eq_true, if_false]; exact (hr z hz hn h3).symm
theorem stM_v {σ : Type} {ps : σ → List (Str × Value)} {stored : List Str} {x : Str} {m₀ m : Str → Option Value} {c : σ} {v : Option Value} (hk : ∀ p ∈ ps c, m p.1 = some p.2) (hr : ∀ z, z ≠ x → (∀ p ∈ ps c, z ≠ p.1) → stored.contains z = false → m z = m₀ z) :
    (fun y => if y = x then v else m y) = (fun y => if y = x then v else kstB (fun z => if stored.contains z then m z else m₀ z) (ps c) y) := by
  funext y
  by_cases e : y = x
  · rw [if_pos e, if_pos e]
  · rw [if_neg e, if_neg e]; exact (stM_eq (Led := fun _ => []) hk hr e).symm
theorem stM_x {σ : Type} {ps : σ → List (Str × Value)} {stored : List Str} {x : Str} {m₀ m : Str → Option Value} {c : σ} (hk : ∀ p ∈ ps c, m p.1 = some p.2) (hr : ∀ z, z ≠ x → (∀ p ∈ ps c, z ≠ p.1) → stored.contains z = false → m z = m₀ z) :
    m = (fun y => if y = x then m y else kstB (fun z => if stored.contains z then m z else m₀ z) (ps c) y) := by
  funext y
  by_cases e : y = x
  · rw [if_pos e]
  · rw [if_neg e]; exact (stM_eq (Led := fun _ => []) hk hr e).symm
section
variable {prog : Program} {w : World} {A : Around} {E : Value → Shared → Prop} {s : Shared} {env : Env} {h₀ : Heap} {x : Str} {body : List Stmt} {Q : Flow → Shared → Prop}
theorem stList {σ : Type} {ax : Addr} {its : Array Value} {m₀ : Str → Option Value} (G : Shared → Prop) (Led : σ → List (Addr × Obj)) (ps : σ → List (Str × Value)) (stored : List Str) (P : Nat → σ → Prop) (c₀ : σ)
    (hh : A.handled = none) (F : Fr h₀ env.locals s.heap m₀) (N : News h₀ env.locals s.heap (Led c₀)) (hS : ∀ c, SrcAt h₀ ax its (Led c)) (hg : G s) (hG : ∀ s h tk, G s → G { s with heap := h, toks := tk })
    (hk : ∀ p ∈ ps c₀, m₀ p.1 = some p.2) (hp : P 0 c₀)
    (turn : ∀ i v c (u : Str → Option Value) s₂ I oI, its[i]? = some v → P i c → G s₂ → Fr h₀ env.locals s₂.heap (fun y => if y = x then some v else kstB (fun z => if stored.contains z then u z else m₀ z) (ps c) y) →
      News h₀ env.locals s₂.heap ((I, oI) :: Led c) → Off1 I (Led c) →
      wpAny (model prog w) A (execs body env) (TurnEnd h₀ env.locals I oI G (SrcAt h₀ ax its) (StJ Led ps stored x m₀ P (i + 1)) Q) (fun _ _ => False) s₂)
    (done : ∀ c (u : Str → Option Value) s', G s' → P its.size c → Fr h₀ env.locals s'.heap (fun y => if y = x then u y else kstB (fun z => if stored.contains z then u z else m₀ z) (ps c) y) → News h₀ env.locals s'.heap (Led c) → Q .next s') :
    AtList prog w A h₀ env x body Q (.ref ax) s := by
  refine ⟨ax, its, Led c₀, m₀, G, StJ Led ps stored x m₀ P, rfl, hh, F, N, hS c₀, hg, ⟨c₀, rfl, hk, fun _ _ _ _ => rfl, hp⟩, hG, ?_, ?_⟩
  · rintro i v m₁ news₁ s₂ I oI hv ⟨c, rfl, hk', hr', hp'⟩ hg' F' N' off S'
    refine turn i v c m₁ s₂ I oI hv hp' hg' ?_ N' off
    rw [stM_v hk' hr'] at F'
    exact F'
  · rintro s' m' news' hg' F' N' ⟨c, rfl, hk', hr', hp'⟩
    refine done c m' s' hg' hp' ?_ N'
    rw [stM_x hk' hr'] at F'
    exact F'
theorem stRange {σ : Type} {r : Addr} {a b : Int} {t u₀ v₀ : Tok} {n : Nat} {m₀ : Str → Option Value} (G : Shared → Prop) (Led : σ → List (Addr × Obj)) (ps : σ → List (Str × Value)) (stored : List Str) (P : Nat → σ → Prop) (c₀ : σ)
    (hh : A.handled = none) (F : Fr h₀ env.locals s.heap m₀) (N : News h₀ env.locals s.heap (Led c₀)) (hr : IsRange s.heap r a b 1 t u₀ v₀) (hsm : Builtin.Range.small a b 1 = true) (hn : Builtin.Range.rangeSize a b 1 = ((n : Nat) : Int)) (hg : G s) (hG : ∀ s h tk, G s → G { s with heap := h, toks := tk })
    (hk : ∀ p ∈ ps c₀, m₀ p.1 = some p.2) (hp : P 0 c₀)
    (turn : ∀ i t c (u : Str → Option Value) s₂ I oI, i < n → P i c → G s₂ → Fr h₀ env.locals s₂.heap (fun y => if y = x then some (.int (a + (i : Int)) t) else kstB (fun z => if stored.contains z then u z else m₀ z) (ps c) y) →
      News h₀ env.locals s₂.heap ((I, oI) :: Led c) → Off1 I (Led c) →
      wpAny (model prog w) A (execs body env) (TurnEnd h₀ env.locals I oI G (fun _ => True) (StJ Led ps stored x m₀ P (i + 1)) Q) (fun _ _ => False) s₂)
    (done : ∀ c (u : Str → Option Value) s', G s' → P n c → Fr h₀ env.locals s'.heap (fun y => if y = x then u y else kstB (fun z => if stored.contains z then u z else m₀ z) (ps c) y) → News h₀ env.locals s'.heap (Led c) → Q .next s') :
    AtRange prog w A h₀ env x body Q (.ref r) s := by
  refine ⟨r, a, b, t, u₀, v₀, n, Led c₀, m₀, G, StJ Led ps stored x m₀ P, rfl, hh, F, N, hr, hsm, hn, hg, ⟨c₀, rfl, hk, fun _ _ _ _ => rfl, hp⟩, hG, ?_, ?_⟩
  · rintro i t m₁ news₁ s₂ I oI hv ⟨c, rfl, hk', hr', hp'⟩ hg' F' N' off
    refine turn i t c m₁ s₂ I oI hv hp' hg' ?_ N' off
    rw [stM_v hk' hr'] at F'
    exact F'
  · rintro s' m' news' hg' F' N' ⟨c, rfl, hk', hr', hp'⟩
    refine done c m' s' hg' hp' ?_ N'
    rw [stM_x hk' hr'] at F'
    exact F'
theorem stEnd {σ : Type} {L I : Addr} {oI : Obj} {G : Shared → Prop} {S : List (Addr × Obj) → Prop} {Led : σ → List (Addr × Obj)} {ps : σ → List (Str × Value)} {stored : List Str} {m₀ m' : Str → Option Value} {P : Nat → σ → Prop} {i : Nat} {news' : List (Addr × Obj)} {s₂ : Shared} (c' : σ)
    (F : Fr h₀ L s₂.heap m') (N : News h₀ L s₂.heap news') (hn : ∀ p ∈ (I, oI) :: Led c', p ∈ news') (off : Off1 I (Led c')) (hS : S (Led c')) (hg : G s₂) (hk : ∀ p ∈ ps c', m' p.1 = some p.2)
    (hr : ∀ z, z ≠ x → (∀ p ∈ ps c', z ≠ p.1) → stored.contains z = false → m' z = m₀ z) (hp : P i c') :
    TurnEnd h₀ L I oI G S (StJ Led ps stored x m₀ P i) Q .next s₂ :=
  ⟨hg, m', Led c', F, fun p hp => N p (hn p hp), off, hS, c', rfl, hk, hr, hp⟩
end

/-- decode's state, seen from the caller's frame -/
theorem backD {h₀ : Heap} {L : Addr} {m : Str → Option Value} {s : Shared} {pre : List (Addr × Obj)} {ps ps' : Array Value} {h' : Heap} (F : Fr h₀ L s.heap m) (N : News h₀ L s.heap (pre ++ [(45, tabObj ps)])) (hc : ∀ p ∈ pre, p.2.cls ≠ .none)
    (hk : ∀ b o, b ≠ 45 → s.heap.get? b = some o → h'.get? b = some o) (h46 : h'.get? 45 = some (tabObj ps')) :
    Fr h₀ L h' m ∧ News h₀ L h' (pre ++ [(45, tabObj ps')]) ∧ ∀ l o, (hideAll s.heap [45]).get? l = none → h'.get? l = some o → o.cls ≠ .none → News h₀ L h' ((l, o) :: pre ++ [(45, tabObj ps')]) ∧ (∀ p ∈ pre, p.1 ≠ l) ∧ 45 ≠ l := by
  have hT := N (45, tabObj ps) (List.mem_append_right _ (.head _))
  have hne : ∀ b o, h₀.get? b = some o → b ≠ 45 := fun b o e q => by rw [q, hT.2.2] at e; cases e
  have hL : L ≠ 45 := hT.2.1.symm
  have F' : Fr h₀ L h' m := by
    refine ⟨?_, fun b o e => hk b o (hne b o e) (F.keep b o e), F.above⟩
    obtain ⟨oL, es, ep, q, r⟩ := F.ns
    exact ⟨oL, es, ep, hk _ _ hL q, r⟩
  have hp46 : ∀ p ∈ pre, p.1 ≠ 45 := fun p hp q => by
    have h1 := N p (List.mem_append_left _ hp)
    have h2 := h1.1
    rw [q, hT.1] at h2
    exact hc p hp (by rw [← Option.some.inj h2])
  have N' : News h₀ L h' (pre ++ [(45, tabObj ps')]) := fun p hp => by
    rcases List.mem_append.mp hp with hp' | hp'
    · have h1 := N p (List.mem_append_left _ hp')
      exact ⟨hk _ _ (hp46 p hp') h1.1, h1.2⟩
    · rw [List.mem_singleton.mp hp']; exact ⟨h46, hT.2⟩
  refine ⟨F', N', fun l o hl ho hco => ?_⟩
  have l46 : 45 ≠ l := fun q => by
    rw [← q, h46] at ho
    exact hco (by rw [← Option.some.inj ho])
  have lS : s.heap.get? l = none := by
    cases q : s.heap.get? l with
    | none => rfl
    | some o' =>
      rw [hideAll_get _ q (by simpa using Ne.symm l46)] at hl
      cases hl
  refine ⟨fun p hp => ?_, fun p hp q => ?_, l46⟩
  · rcases List.mem_cons.mp hp with rfl | hp
    · refine ⟨ho, fun q => ?_, ?_⟩
      · obtain ⟨oL, es, ep, q2, r⟩ := F.ns
        have q3 : l = L := q
        rw [q3, q2] at lS; cases lS
      · cases q : h₀.get? l with
        | none => rfl
        | some o' => rw [F.keep _ _ q] at lS; cases lS
    · exact N' p hp
  · have h1 := N p (List.mem_append_left _ hp)
    have h2 := h1.1
    rw [q, lS] at h2; cases h2
end Mine
end
section
open PySem PySem.W PySem.Calls PyProof.Rows
set_option maxRecDepth 100000
set_option linter.unusedVariables false
namespace Mine
open LCg
/-- the lists that a comprehension of calls has made, the last one first -/
def ledOf (ls : List (Addr × Array Value × Nat)) (news : List (Addr × Obj)) : List (Addr × Obj) := ls.map (fun e => (e.1, W.listOf e.2.1 e.2.2)) ++ news
section
variable {prog : Program} {w : World} {A : Around} {E : Value → Shared → Prop} {s : Shared} {h₀ : Heap} {L : Addr} {m : Str → Option Value} {env : Env}
theorem compLists {elt : Expr} {x : Str} {scope : Scope} {cl : List (Str × Addr)} {S : List (Addr × Obj) → Prop} {P : Nat → Value → Prop} {Fin : List Value → List (Addr × Obj) → Prop} {n : Nat} {news : List (Addr × Obj)} (spec : Nat → List Int)
    (hS : ∀ ls, S (ledOf ls news))
    (step : ∀ i ls ys v I oI C oC D m₂ h tk (E' : Value → Shared → Prop), i < n → P i v → NsObj oC m₂ → m₂ x = some v → Fr h₀ L h m → News h₀ L h ((I, oI) :: (C, oC) :: (D, lst ys) :: ledOf ls news) →
      wpAny (model prog w) A (eval elt (compEnvC scope cl C env)) (fun y s₂ => ∃ l arr k h' tk', y = .ref l ∧ s₂ = { s with heap := h', toks := tk' } ∧ Fr h₀ L h' m ∧ News h₀ L h' ((l, W.listOf arr k) :: (I, oI) :: (C, oC) :: (D, lst ys) :: ledOf ls news) ∧
        Off1 l ((I, oI) :: (C, oC) :: (D, lst ys) :: ledOf ls news) ∧ IntsAre arr.toList (spec i)) E' { s with heap := h, toks := tk })
    (fin : ∀ ls, ls.length = n → (∀ j e, ls.reverse[j]? = some e → IntsAre e.2.1.toList (spec j)) → Fin (ls.reverse.map fun e => Value.ref e.1) (ledOf ls news)) :
    CompRest prog w A h₀ L m env elt x scope cl s S P Fin n 0 [] news := by
  have H : ∀ k i ls, i + k = n → ls.length = i → (∀ j e, ls.reverse[j]? = some e → IntsAre e.2.1.toList (spec j)) → CompRest prog w A h₀ L m env elt x scope cl s S P Fin k i (ls.reverse.map fun e => Value.ref e.1) (ledOf ls news) := by
    intro k
    induction k with
    | zero => intro i ls hi hl hj; exact CompRest.zero (fin ls (by omega) hj)
    | succ k ih =>
      intro i ls hi hl hj
      refine CompRest.succ fun v I oI C oC D m₂ h tk E' hP hC hx F N o3 ne => ?_
      refine wpAny_mono (step i ls _ v I oI C oC D m₂ h tk E' (by omega) hP hC hx F N) (fun y s₂ hy => ?_) fun _ _ e => e
      obtain ⟨l, arr, k', h', tk', rfl, rfl, F', N', o1, hI⟩ := hy
      refine CompEnd.intro F' N' (ledOf ((l, arr, k') :: ls) news) (fun p hp => ?_) ⟨⟨o1.1.symm, o1.2.1.symm, o1.2.2.1.symm⟩, o3⟩ (hS _) ?_
      · rcases List.mem_cons.mp hp with rfl | hp
        · exact .tail _ (.head _)
        · rcases List.mem_cons.mp hp with rfl | hp
          · exact .tail _ (.tail _ (.head _))
          · rcases List.mem_cons.mp hp with rfl | hp
            · exact .tail _ (.tail _ (.tail _ (.head _)))
            · rcases List.mem_cons.mp hp with rfl | hp
              · exact .head _
              · exact .tail _ (.tail _ (.tail _ (.tail _ hp)))
      · have e : ((ls.reverse.map fun e => Value.ref e.1) ++ [Value.ref l]) = (((l, arr, k') :: ls).reverse.map fun e => Value.ref e.1) := by simp
        rw [e]
        refine ih (i + 1) _ (by omega) (by simp [hl]) fun j e he => ?_
        rw [List.reverse_cons] at he
        by_cases hj' : j < ls.reverse.length
        · rw [List.getElem?_append_left hj'] at he; exact hj j e he
        · rw [List.getElem?_append_right (by omega)] at he
          have h0 : j - ls.reverse.length = 0 := by
            rcases Nat.eq_zero_or_pos (j - ls.reverse.length) with e | e
            · exact e
            · rw [List.getElem?_eq_none (by rw [List.length_singleton]; exact e)] at he; cases he
          rw [h0] at he
          obtain rfl : (l, arr, k') = e := by simpa using he
          have : j = i := by rw [List.length_reverse] at *; omega
          rw [this]; exact hI
  exact H n 0 [] (by omega) rfl (fun j e h => nomatch h)
end
theorem six {α : Type} : ∀ {ls : List α}, ls.length = 6 → ∃ a b c d e f, ls = [a, b, c, d, e, f]
  | [a, b, c, d, e, f], _ => ⟨a, b, c, d, e, f, rfl⟩
end Mine
end
section
open PySem PySem.W PySem.Calls PyProof.Rows
set_option maxRecDepth 100000
set_option linter.unusedVariables false
namespace Mine
open LCg
/-- the text of a def, as the heap says it -/
def FnAt (K : Frag) (f : Addr) (name : Str) (body : List Stmt) (scope : Scope) (cdv : Value) : Prop :=
  ∃ oc od params dV kV doc pm an ct osl, K.lookup f = some ⟨oc, od, .func (fnOf name name params body scope dV kV doc pm an cdv ct), osl⟩
theorem FnAt.mk {K : Frag} {f : Addr} {name : Str} {body : List Stmt} {scope : Scope} {cdv oc : Value} {od : Option Addr} {params : Arguments} {dV kV doc pm : Value} {an : Option Addr} {ct : Value} {osl : Array (Option Value)}
    (h : K.lookup f = some ⟨oc, od, .func (fnOf name name params body scope dV kV doc pm an cdv ct), osl⟩) : FnAt K f name body scope cdv := ⟨_, _, _, _, _, _, _, _, _, _, h⟩
theorem FnAt.inj {K : Frag} {f : Addr} {n n' : Str} {b b' : List Stmt} {sc sc' : Scope} {c c' : Value} (x : FnAt K f n b sc c) (y : FnAt K f n' b' sc' c') : n = n' ∧ b = b' ∧ sc = sc' ∧ c = c' := by
  obtain ⟨_, _, _, _, _, _, _, _, _, _, h⟩ := x
  obtain ⟨_, _, _, _, _, _, _, _, _, _, h'⟩ := y
  rw [h] at h'
  have e := congrArg (fun o => o.map fun z => z.data) h'
  have e2 := Data.func.inj (Option.some.inj e)
  exact ⟨congrArg FuncData.name e2, FuncBody.stmts.inj (congrArg FuncData.body e2), congrArg FuncData.scope e2, congrArg FuncData.code e2⟩
/-- the names of the frame, told anew -/
theorem frTold {h₀ h : Heap} {L : Addr} {m : Str → Option Value} (ps : List (Str × Value)) (F : Fr h₀ L h m) (hk : ∀ p ∈ ps, m p.1 = some p.2) : Fr h₀ L h (kstB m ps) := by
  have e : kstB m ps = m := by
    funext y
    exact kstB_eq hk fun _ => rfl
  rw [e]; exact F
end Mine
end
section
open PySem PySem.W PySem.Calls PyProof.Rows PySem.Spec
set_option maxRecDepth 100000
set_option linter.unusedVariables false
namespace Mine
def okD (x : PySem.Str) (rs : List Int) : PyData := .tuple [.str x, .list (rs.map .int)]
def noD : PyData := .tuple [.none, .none]
theorem eqv_ints : ∀ rs : List Int, PyData.eqvAll (rs.map .int) (rs.map .int) = true
  | [] => rfl
  | a :: r => by simp only [List.map_cons, PyData.eqvAll, PyData.eqv, beq_self_eq_true, Bool.true_and]; exact eqv_ints r
theorem eqv_ok (x : PySem.Str) (rs : List Int) : PyData.eqv (okD x rs) (okD x rs) = true := by
  simp only [okD, PyData.eqv, PyData.eqvAll, beq_self_eq_true, Bool.true_and, Bool.and_true, eqv_ints]
theorem eqv_no : PyData.eqv noD noD = true := rfl
theorem eqv_two {a b : PyData} (ha : PyData.eqv a a = true) (hb : PyData.eqv b b = true) : PyData.eqv (.list [a, b]) (.list [a, b]) = true := by
  simp only [PyData.eqv, PyData.eqvAll, ha, hb, Bool.and_true]
theorem okD_lay {x : PySem.Str} {rs : List Int} (h : ∀ c ∈ x.cps, c ≤ 126) : (okD x rs).canLay0 = true ∧ (okD x rs).depth = 2 := by
  constructor
  · simp only [okD, PyData.canLay0, PyData.canLayAll0, ke_canLayAll0, Bool.and_true]
    unfold PyData.strOk
    rw [Array.all_eq_true']
    intro c hc
    have := h c hc
    exact decide_eq_true (by omega)
  · simp only [okD, PyData.depth, PyData.depthAll, ke_depthAll]; rfl
theorem noD_lay : noD.canLay0 = true ∧ noD.depth = 1 := ⟨rfl, rfl⟩
theorem shaped_one {a : PyData} (ha : a.canLay0 = true ∧ a.depth ≤ 2) : SeqAt.shaped a = true := by
  unfold SeqAt.shaped
  rw [ha.1, decide_eq_true (by omega)]; rfl
theorem shaped_two {a b : PyData} (ha : a.canLay0 = true ∧ a.depth ≤ 2) (hb : b.canLay0 = true ∧ b.depth ≤ 2) : SeqAt.shaped (.list [a, b]) = true := by
  unfold SeqAt.shaped
  simp only [PyData.canLay0, PyData.canLayAll0, ha.1, hb.1, Bool.true_and, PyData.depth, PyData.depthAll]
  exact decide_eq_true (by omega)
theorem readsInts {h : Heap} : ∀ {vs : List Value} {ns : List Int}, IntsAre vs ns → ReadsAll h vs (ns.map .int) []
  | _, _, .nil => .nil
  | _, _, .cons n t r => .cons (.int n t) (readsInts r)
theorem readOk {h : Heap} {l dl : Addr} {x : PySem.Str} {t : Tok} {k k' : Nat} {arr : Array Value} {rs : List Int} (h1 : h.get? l = some { cls := .type "tuple", data := .seq #[.str x t, .ref dl] k }) (h2 : h.get? dl = some (W.listOf arr k')) (hi : IntsAre arr.toList rs) : Reads h (.ref l) (okD x rs) [dl] :=
  reads_tuple_at h1 rfl rfl (.cons (.str x t) (.cons (reads_list_at h2 rfl rfl (readsInts hi)) .nil))
theorem readNo {h : Heap} {l : Addr} {k : Nat} (h1 : h.get? l = some { cls := .type "tuple", data := .seq #[.none, .none] k }) : Reads h (.ref l) noD [] :=
  reads_tuple_at h1 rfl rfl (.cons .none (.cons .none .nil))
theorem readTwo {h : Heap} {l : Addr} {k : Nat} {a b : Value} {da db : PyData} {as bs : List Addr} (h1 : h.get? l = some { cls := .type "list", data := .seq #[a, b] k }) (ha : Reads h a da as) (hb : Reads h b db bs) : ∃ cs, Reads h (.ref l) (.list [da, db]) cs :=
  ⟨_, reads_list_at h1 rfl rfl (.cons ha (.cons hb .nil))⟩
end Mine
end
section
open PySem PySem.W PySem.Calls PyProof.Rows
set_option maxRecDepth 100000
set_option linter.unusedVariables false
namespace Mine
theorem xor_bits : ∀ (k x y : Nat), x ≤ k → x + y = (x ^^^ y) + 2 * (x &&& y) := by
  intro k
  induction k with
  | zero => intro x y h; obtain rfl : x = 0 := by omega
            simp
  | succ k ih =>
    intro x y h
    by_cases hx : x = 0
    · subst hx; simp
    have h1 := ih (x / 2) (y / 2) (by omega)
    have e1 : (x ^^^ y) / 2 = (x / 2) ^^^ (y / 2) := Nat.xor_div_two_pow (n := 1)
    have e2 : (x &&& y) / 2 = (x / 2) &&& (y / 2) := Nat.and_div_two_pow (n := 1)
    have e3 : (x ^^^ y) % 2 = (x % 2) ^^^ (y % 2) := Nat.xor_mod_two_pow (n := 1)
    have e4 : (x &&& y) % 2 = (x % 2) &&& (y % 2) := Nat.and_mod_two_pow (n := 1)
    have hx2 : x % 2 = 0 ∨ x % 2 = 1 := by omega
    have hy2 : y % 2 = 0 ∨ y % 2 = 1 := by omega
    rcases hx2 with hx2 | hx2 <;> rcases hy2 with hy2 | hy2 <;> rw [hx2, hy2] at e3 e4 <;> simp only [Nat.zero_xor, Nat.xor_zero, Nat.xor_self, Nat.zero_and, Nat.and_zero, Nat.and_self] at e3 e4 <;> omega
theorem bx (a b : Nat) : Builtin.bitXor (a : Int) (b : Int) = ((a ^^^ b : Nat) : Int) := by
  rw [bitXor_and, bitAnd_pp (by omega) (by omega)]
  have h := xor_bits a a b (Nat.le_refl _)
  simp only [Int.toNat_natCast]
  omega
theorem xor32 (A B a b : Nat) (ha : a < 32) (hb : b < 32) : (A * 32 + a) ^^^ (B * 32 + b) = (A ^^^ B) * 32 + (a ^^^ b) := by
  have e1 : ((A * 32 + a) ^^^ (B * 32 + b)) / 32 = ((A * 32 + a) / 32) ^^^ ((B * 32 + b) / 32) := Nat.xor_div_two_pow (n := 5)
  have e3 : ((A * 32 + a) ^^^ (B * 32 + b)) % 32 = ((A * 32 + a) % 32) ^^^ ((B * 32 + b) % 32) := Nat.xor_mod_two_pow (n := 5)
  have h1 : (A * 32 + a) / 32 = A := by omega
  have h2 : (B * 32 + b) / 32 = B := by omega
  have h3 : (A * 32 + a) % 32 = a := by omega
  have h4 : (B * 32 + b) % 32 = b := by omega
  rw [h1, h2] at e1
  rw [h3, h4] at e3
  omega
theorem x32 {a b : Nat} (ha : a < 32) (hb : b < 32) : a ^^^ b < 32 := Nat.xor_lt_two_pow (n := 5) ha hb
abbrev N6 := Nat × Nat × Nat × Nat × Nat × Nat
def packN (s : N6) : Nat := ((((s.1 * 32 + s.2.1) * 32 + s.2.2.1) * 32 + s.2.2.2.1) * 32 + s.2.2.2.2.1) * 32 + s.2.2.2.2.2
def okN (s : N6) : Prop := s.1 < 32 ∧ s.2.1 < 32 ∧ s.2.2.1 < 32 ∧ s.2.2.2.1 < 32 ∧ s.2.2.2.2.1 < 32 ∧ s.2.2.2.2.2 < 32
def tN (c e : Nat) : Nat := (tabZ (c : Int) (e : Int)).toNat
theorem tN_lt {c : Nat} (hc : c < 32) (e : Nat) : tN c e < 32 := by
  have h := low_tab (c := (c : Int)) ⟨by omega, by omega⟩ (e : Int)
  obtain ⟨h0, h1⟩ := h
  unfold tN; omega
theorem tN_eq {c : Nat} (hc : c < 32) (e : Nat) : tabZ (c : Int) (e : Int) = (tN c e : Int) := by
  have h := low_tab (c := (c : Int)) ⟨by omega, by omega⟩ (e : Int)
  obtain ⟨h0, h1⟩ := h
  unfold tN; omega
def xorV (s t : N6) : N6 := (s.1 ^^^ t.1, s.2.1 ^^^ t.2.1, s.2.2.1 ^^^ t.2.2.1, s.2.2.2.1 ^^^ t.2.2.2.1, s.2.2.2.2.1 ^^^ t.2.2.2.2.1, s.2.2.2.2.2 ^^^ t.2.2.2.2.2)
def feed (u : Nat) : N6 := (tN 29 u, tN 22 u, tN 20 u, tN 21 u, tN 29 u, tN 18 u)
def fwdN (s : N6) (n : Nat) : N6 := xorV (s.2.1, s.2.2.1, s.2.2.2.1, s.2.2.2.2.1, s.2.2.2.2.2, n) (feed s.1)
theorem ok_xor {s t : N6} (hs : okN s) (ht : okN t) : okN (xorV s t) := by
  obtain ⟨a1, a2, a3, a4, a5, a6⟩ := hs
  obtain ⟨b1, b2, b3, b4, b5, b6⟩ := ht
  exact ⟨x32 a1 b1, x32 a2 b2, x32 a3 b3, x32 a4 b4, x32 a5 b5, x32 a6 b6⟩
theorem ok_feed (u : Nat) : okN (feed u) := ⟨tN_lt (by decide) u, tN_lt (by decide) u, tN_lt (by decide) u, tN_lt (by decide) u, tN_lt (by decide) u, tN_lt (by decide) u⟩
theorem ok_fwd {s : N6} {n : Nat} (hs : okN s) (hn : n < 32) : okN (fwdN s n) := ok_xor ⟨hs.2.1, hs.2.2.1, hs.2.2.2.1, hs.2.2.2.2.1, hs.2.2.2.2.2, hn⟩ (ok_feed _)
theorem pack_xor {s t : N6} (hs : okN s) (ht : okN t) : packN s ^^^ packN t = packN (xorV s t) := by
  obtain ⟨a1, a2, a3, a4, a5, a6⟩ := hs
  obtain ⟨b1, b2, b3, b4, b5, b6⟩ := ht
  unfold packN xorV
  rw [xor32 _ _ _ _ a6 b6, xor32 _ _ _ _ a5 b5, xor32 _ _ _ _ a4 b4, xor32 _ _ _ _ a3 b3, xor32 _ _ _ _ a2 b2]
theorem pack_inj {s t : N6} (hs : okN s) (ht : okN t) (h : packN s = packN t) : s = t := by
  obtain ⟨s1, s2, s3, s4, s5, s6⟩ := s
  obtain ⟨t1, t2, t3, t4, t5, t6⟩ := t
  obtain ⟨a1, a2, a3, a4, a5, a6⟩ := hs
  obtain ⟨b1, b2, b3, b4, b5, b6⟩ := ht
  unfold packN at h
  dsimp only at *
  have e6 : s6 = t6 := by omega
  have e5 : s5 = t5 := by omega
  have e4 : s4 = t4 := by omega
  have e3 : s3 = t3 := by omega
  have e2 : s2 = t2 := by omega
  have e1 : s1 = t1 := by omega
  rw [e1, e2, e3, e4, e5, e6]
def gN (u : Nat) (i : Int) : Nat := if Builtin.bitAnd ((u : Int).fdiv (2 ^ i.toNat)) 1 ≠ 0 then (genZ i).toNat else 0
theorem inZ_N (u c : Nat) (i : Int) : inZ (u : Int) (c : Int) i = ((c ^^^ gN u i : Nat) : Int) := by
  unfold inZ gN
  split
  · have hg : genZ i = ((genZ i).toNat : Int) := by unfold genZ; split <;> (try rfl); split <;> (try rfl); split <;> (try rfl); split <;> rfl
    rw [hg, bx]; rfl
  · rw [show (0 : Int) = ((0 : Nat) : Int) from rfl, bx]
theorem gen_feed : ∀ u : Nat, u < 32 → gN u 0 ^^^ (gN u 1 ^^^ (gN u 2 ^^^ (gN u 3 ^^^ gN u 4))) = packN (feed u) := by decide +kernel
theorem step_N {s : N6} {n : Nat} (hs : okN s) (hn : n < 32) : stepZ (packN s : Int) (n : Int) = (packN (fwdN s n) : Int) := by
  obtain ⟨u, v, w, x, y, z⟩ := s
  have hs' := hs
  obtain ⟨a1, a2, a3, a4, a5, a6⟩ := hs
  dsimp only at a1 a2 a3 a4 a5 a6
  have e1 : ((packN (u, v, w, x, y, z) : Nat) : Int).fdiv (2 ^ Int.toNat 25) = (u : Int) := by
    rw [Int.fdiv_eq_ediv_of_nonneg _ (by decide)]
    have : (2 : Int) ^ Int.toNat 25 = 33554432 := by decide
    rw [this]; unfold packN; dsimp only; omega
  have e2 : Builtin.bitAnd ((packN (u, v, w, x, y, z) : Nat) : Int) 33554431 * 2 ^ Int.toNat 5 = ((packN (v, w, x, y, z, 0) : Nat) : Int) := by
    rw [bitAnd_pp (by omega) (by decide)]
    have h : (packN (u, v, w, x, y, z)) &&& 33554431 = packN (u, v, w, x, y, z) % 33554432 := Nat.and_two_pow_sub_one_eq_mod _ 25
    have h2 : (2 : Int) ^ Int.toNat 5 = 32 := by decide
    rw [Int.toNat_natCast, show (33554431 : Int).toNat = 33554431 from rfl, h, h2]
    unfold packN; dsimp only; omega
  have e3 : packN (v, w, x, y, z, 0) ^^^ n = packN (v, w, x, y, z, n) := by
    have h := xor32 ((((v * 32 + w) * 32 + x) * 32 + y) * 32 + z) 0 0 n (by decide) hn
    simp only [Nat.zero_mul, Nat.zero_add, Nat.xor_zero, Nat.zero_xor] at h
    exact h
  unfold stepZ
  rw [e1, e2, bx, e3]
  simp only [List.foldl_cons, List.foldl_nil, inZ_N]
  simp only [Nat.xor_assoc]
  rw [gen_feed u a1, pack_xor ⟨a2, a3, a4, a5, a6, hn⟩ (ok_feed u)]
  rfl
def runN (s : N6) (ns : List Nat) : N6 := ns.foldl fwdN s
theorem ok_run : ∀ {ns : List Nat} {s : N6}, okN s → (∀ n ∈ ns, n < 32) → okN (runN s ns)
  | [], _, h, _ => h
  | n :: r, s, h, hn => ok_run (ns := r) (ok_fwd h (hn n (.head _))) fun m hm => hn m (.tail _ hm)
theorem run_step : ∀ {ns : List Nat} {s : N6}, okN s → (∀ n ∈ ns, n < 32) → (ns.map fun n : Nat => (n : Int)).foldl stepZ (packN s : Int) = (packN (runN s ns) : Int)
  | [], _, _, _ => rfl
  | n :: r, s, h, hn => by
    rw [List.map_cons, List.foldl_cons, step_N h (hn n (.head _)), run_step (ok_fwd h (hn n (.head _))) fun m hm => hn m (.tail _ hm)]
    rfl
def oneN : N6 := (0, 0, 0, 0, 0, 1)
theorem ok_one : okN oneN := by unfold okN oneN; decide
theorem poly_N {ns : List Nat} (h : ∀ n ∈ ns, n < 32) : polyZ (ns.map fun n : Nat => (n : Int)) = (packN (runN oneN ns) : Int) := by
  rw [← run_step ok_one h]; rfl
def natsOf (ns : List Int) : List Nat := ns.map Int.toNat
theorem natsOf_cast {ns : List Int} (h : ∀ n ∈ ns, 0 ≤ n ∧ n < 32) : (natsOf ns).map (fun n : Nat => (n : Int)) = ns := by
  unfold natsOf
  rw [List.map_map]
  conv => rhs; rw [← List.map_id ns]
  refine List.map_congr_left fun n hn => ?_
  have := h n hn
  show ((n.toNat : Nat) : Int) = n
  omega
theorem natsOf_lt {ns : List Int} (h : ∀ n ∈ ns, 0 ≤ n ∧ n < 32) : ∀ n ∈ natsOf ns, n < 32 := by
  intro n hn
  obtain ⟨m, hm, rfl⟩ := List.mem_map.mp hn
  have := h m hm
  omega
theorem poly_one {ns : List Int} (h : ∀ n ∈ ns, 0 ≤ n ∧ n < 32) : polyZ ns = 1 ↔ runN oneN (natsOf ns) = oneN := by
  have e : polyZ ns = (packN (runN oneN (natsOf ns)) : Int) := by
    rw [← poly_N (natsOf_lt h), natsOf_cast h]
  rw [e]
  constructor
  · intro h1
    refine pack_inj (ok_run ok_one (natsOf_lt h)) ok_one ?_
    have : packN oneN = 1 := by decide
    omega
  · intro h1; rw [h1]; rfl
end Mine
end
section
open PySem PySem.W PySem.Calls PyProof.Rows
set_option maxRecDepth 100000
set_option linter.unusedVariables false
namespace Mine
theorem natsOf_app (a b : List Int) : natsOf (a ++ b) = natsOf a ++ natsOf b := List.map_append
theorem run_app (s : N6) (a b : List Nat) : runN s (a ++ b) = runN (runN s a) b := List.foldl_append
theorem hi_N (c : Nat) : hiZ c = ((c / 32 : Nat) : Int) := by
  unfold hiZ
  rw [Int.fdiv_eq_ediv_of_nonneg _ (by decide)]
  have : (2 : Int) ^ Int.toNat 5 = 32 := by decide
  rw [this]; omega
theorem lo_N (c : Nat) : loZ c = ((c % 32 : Nat) : Int) := by
  unfold loZ
  rw [bitAnd_pp (by omega) (by decide)]
  have h : c &&& 31 = c % 32 := Nat.and_two_pow_sub_one_eq_mod _ 5
  rw [Int.toNat_natCast, show (31 : Int).toNat = 31 from rfl, h]
theorem expand_low {x : Str} (h : ∀ c ∈ x.cps.toList, c ≤ 126) : ∀ n ∈ expandZ x, 0 ≤ n ∧ n < 32 := by
  intro n hn
  unfold expandZ at hn
  rcases List.mem_append.mp hn with hn | hn
  · rcases List.mem_append.mp hn with hn | hn
    · obtain ⟨c, hc, rfl⟩ := List.mem_map.mp hn
      have := h c hc
      rw [hi_N]; omega
    · rw [List.mem_singleton.mp hn]; decide
  · obtain ⟨c, hc, rfl⟩ := List.mem_map.mp hn
    rw [lo_N]; omega
theorem expand_N (x : Str) : natsOf (expandZ x) = x.cps.toList.map (· / 32) ++ [0] ++ x.cps.toList.map (· % 32) := by
  unfold expandZ
  rw [natsOf_app, natsOf_app]
  congr 1
  · congr 1
    · unfold natsOf; rw [List.map_map]; refine List.map_congr_left fun c _ => ?_
      show (hiZ c).toNat = _
      rw [hi_N]; rfl
  · unfold natsOf; rw [List.map_map]; refine List.map_congr_left fun c _ => ?_
    show (loZ c).toNat = _
    rw [lo_N]; rfl
theorem fwd_add (s : N6) (d2 d3 d4 d5 d6 n : Nat) : fwdN (xorV s (0, d2, d3, d4, d5, d6)) n = xorV (fwdN s 0) (d2, d3, d4, d5, d6, n) := by
  obtain ⟨u, v, w, x, y, z⟩ := s
  unfold fwdN xorV
  dsimp only
  simp only [Nat.xor_zero, Nat.zero_xor]
  have h : ∀ a b c : Nat, a ^^^ b ^^^ c = a ^^^ c ^^^ b := fun a b c => by rw [Nat.xor_assoc, Nat.xor_comm b c, ← Nat.xor_assoc]
  rw [h v, h w, h x, h y, h z, Nat.xor_comm n]
theorem xorV_zero (s : N6) : xorV s (0, 0, 0, 0, 0, 0) = s := by
  obtain ⟨u, v, w, x, y, z⟩ := s
  unfold xorV; simp only [Nat.xor_zero]
theorem run_six (s : N6) (a b c d e f : Nat) : runN s [a, b, c, d, e, f] = xorV (runN s [0, 0, 0, 0, 0, 0]) (a, b, c, d, e, f) := by
  show fwdN (fwdN (fwdN (fwdN (fwdN (fwdN s a) b) c) d) e) f = xorV (fwdN (fwdN (fwdN (fwdN (fwdN (fwdN s 0) 0) 0) 0) 0) 0) (a, b, c, d, e, f)
  rw [← fwd_add _ a b c d e f, ← fwd_add _ 0 a b c d e, ← fwd_add _ 0 0 a b c d, ← fwd_add _ 0 0 0 a b c, ← fwd_add _ 0 0 0 0 a b, ← fwd_add _ 0 0 0 0 0 a, xorV_zero]
theorem xorV_self (s t : N6) : xorV s (xorV s t) = t := by
  obtain ⟨u, v, w, x, y, z⟩ := s
  obtain ⟨a, b, c, d, e, f⟩ := t
  unfold xorV
  dsimp only
  simp only [← Nat.xor_assoc, Nat.xor_self, Nat.zero_xor]
theorem dig_N {t : N6} (h : okN t) : (List.range 6).map (digZ (packN t : Int)) = [t.1, t.2.1, t.2.2.1, t.2.2.2.1, t.2.2.2.2.1, t.2.2.2.2.2].map fun n : Nat => (n : Int) := by
  obtain ⟨u, v, w, x, y, z⟩ := t
  obtain ⟨a1, a2, a3, a4, a5, a6⟩ := h
  dsimp only at a1 a2 a3 a4 a5 a6
  have key : ∀ (i k : Nat), (2 : Int) ^ (5 * (5 - (0 + (i : Int)))).toNat = (k : Int) → 0 < k → digZ (packN (u, v, w, x, y, z) : Int) i = ((packN (u, v, w, x, y, z) / k % 32 : Nat) : Int) := by
    intro i k hk h0
    unfold digZ
    rw [hk, Int.fdiv_eq_ediv_of_nonneg _ (by omega), ← Int.natCast_ediv, bitAnd_pp (Int.natCast_nonneg _) (by decide)]
    have h : (packN (u, v, w, x, y, z) / k) &&& 31 = (packN (u, v, w, x, y, z) / k) % 32 := Nat.and_two_pow_sub_one_eq_mod _ 5
    rw [Int.toNat_natCast, show (31 : Int).toNat = 31 from rfl, h]
  show [_, _, _, _, _, _] = [_, _, _, _, _, _]
  rw [key 0 33554432 (by decide) (by decide), key 1 1048576 (by decide) (by decide), key 2 32768 (by decide) (by decide), key 3 1024 (by decide) (by decide), key 4 32 (by decide) (by decide), key 5 1 (by decide) (by decide)]
  unfold packN
  dsimp only
  congr 1
  · omega
  congr 1
  · omega
  congr 1
  · omega
  congr 1
  · omega
  congr 1
  · omega
  congr 1
  omega
theorem check_N {x : Str} {rs : List Int} (hx : ∀ c ∈ x.cps.toList, c ≤ 126) (hr : ∀ n ∈ rs, 0 ≤ n ∧ n < 32) : polyZ (expandZ x ++ (rs ++ checkZ x rs)) = 1 := by
  have hE := expand_low hx
  have hER : ∀ n ∈ expandZ x ++ rs, 0 ≤ n ∧ n < 32 := fun n hn => (List.mem_append.mp hn).elim (hE n) (hr n)
  have h6 : ∀ n ∈ expandZ x ++ rs ++ [0, 0, 0, 0, 0, 0], 0 ≤ n ∧ n < 32 := fun n hn => (List.mem_append.mp hn).elim (hER n) (fun h => (show ∀ n ∈ ([0, 0, 0, 0, 0, 0] : List Int), 0 ≤ n ∧ n < 32 by decide) n h)
  have e1 : polyZ (expandZ x ++ rs ++ [0, 0, 0, 0, 0, 0]) = (packN (runN oneN (natsOf (expandZ x ++ rs ++ [0, 0, 0, 0, 0, 0]))) : Int) := by
    rw [← poly_N (natsOf_lt h6), natsOf_cast h6]
  have hok := ok_run ok_one (natsOf_lt h6)
  rw [natsOf_app, run_app] at hok e1
  generalize hS : runN oneN (natsOf (expandZ x ++ rs)) = S at hok e1
  have ez : natsOf [0, 0, 0, 0, 0, 0] = [0, 0, 0, 0, 0, 0] := rfl
  rw [ez] at hok e1
  have e2 : Builtin.bitXor (polyZ (expandZ x ++ rs ++ [0, 0, 0, 0, 0, 0])) 1 = (packN (xorV (runN S [0, 0, 0, 0, 0, 0]) oneN) : Int) := by
    rw [e1, ← pack_xor hok ok_one, ← bx]; rfl
  rw [← List.append_assoc]
  have hlow : ∀ n ∈ expandZ x ++ rs ++ checkZ x rs, 0 ≤ n ∧ n < 32 := fun n hn => (List.mem_append.mp hn).elim (hER n) (checkZ_bound x rs n)
  rw [poly_one hlow, natsOf_app, run_app, hS]
  have e4 : ∀ l : List Nat, natsOf (l.map fun n : Nat => (n : Int)) = l := fun l => by
    unfold natsOf; rw [List.map_map]; exact (List.map_congr_left fun n _ => rfl).trans (List.map_id l)
  unfold checkZ
  rw [e2, dig_N (ok_xor hok ok_one), e4, run_six]
  exact xorV_self _ _
end Mine
end
section
open PySem PySem.W PySem.Calls PyProof.Rows
set_option maxRecDepth 100000
set_option linter.unusedVariables false
namespace Mine
def powL : List Int := [1, 2, 4, 8, 16, 9, 18, 13, 26, 29, 19, 15, 30, 21, 3, 6, 12, 24, 25, 27, 31, 23, 7, 14, 28, 17, 11, 22, 5, 10, 20]
def logL : List Int := [0, 0, 1, 14, 2, 28, 15, 22, 3, 5, 29, 26, 16, 7, 23, 11, 4, 25, 6, 10, 30, 13, 27, 21, 17, 18, 8, 19, 24, 9, 12, 20]
def timesZ (a b : Int) : Int := if a = 0 ∨ b = 0 then 0 else powL.getD ((logL.getD a.toNat 0 + logL.getD b.toNat 0).fmod 31).toNat 0
/-- one turn of the law's run -/
def fwdZ (s : List Int) (n : Int) : List Int :=
  [Builtin.bitXor (tabZ 29 (s.getD 0 0)) (s.getD 1 0), Builtin.bitXor (tabZ 22 (s.getD 0 0)) (s.getD 2 0), Builtin.bitXor (tabZ 20 (s.getD 0 0)) (s.getD 3 0), Builtin.bitXor (tabZ 21 (s.getD 0 0)) (s.getD 4 0), Builtin.bitXor (tabZ 29 (s.getD 0 0)) (s.getD 5 0), Builtin.bitXor (tabZ 18 (s.getD 0 0)) n]
theorem low_getD {s : List Int} (h : ∀ n ∈ s, low n) (i : Nat) : low (s.getD i 0) := by
  rcases Nat.lt_or_ge i s.length with h' | h'
  · rw [List.getD, List.getElem?_eq_getElem h']; exact h _ (List.getElem_mem h')
  · rw [List.getD, List.getElem?_eq_none h']; exact ⟨Int.le_refl _, by decide⟩
theorem low_fwd {s : List Int} {n : Int} (h : ∀ n ∈ s, low n) (hn : low n) : ∀ m ∈ fwdZ s n, low m := by
  intro m hm
  have g := fun i => low_getD h i
  have c : ∀ k : Int, low k → ∀ i j, low (Builtin.bitXor (tabZ k (s.getD i 0)) (s.getD j 0)) := fun k hk i j => low_xor (low_tab hk _) (g j)
  have hl : ∀ k : Int, low k → low (Builtin.bitXor (tabZ k (s.getD 0 0)) n) := fun k hk => low_xor (low_tab hk _) hn
  simp only [fwdZ, List.mem_cons, List.not_mem_nil, or_false] at hm
  rcases hm with rfl | rfl | rfl | rfl | rfl | rfl
  · exact c 29 (by decide) 0 1
  · exact c 22 (by decide) 0 2
  · exact c 20 (by decide) 0 3
  · exact c 21 (by decide) 0 4
  · exact c 29 (by decide) 0 5
  · exact hl 18 (by decide)
theorem low_fold : ∀ {vs s : List Int}, (∀ n ∈ s, low n) → (∀ n ∈ vs, low n) → ∀ m ∈ vs.foldl fwdZ s, low m
  | [], _, h, _ => h
  | v :: r, s, h, hv => low_fold (vs := r) (low_fwd h (hv v (.head _))) fun m hm => hv m (.tail _ hm)
end Mine
end
section
open PySem PySem.W PySem.Calls PyProof.Rows
set_option maxRecDepth 100000
set_option linter.unusedVariables false
namespace Mine
open LCg
structure NameIs (x : Str) (m : Int) : Prop where
  size : ((x.cps.size : Nat) : Int) = m
  signs : ∀ c ∈ x.cps, 33 ≤ c ∧ c ≤ 126 ∧ ¬ (65 ≤ c ∧ c ≤ 90)
theorem NameIs.ex {x : Str} {m : Int} (h : NameIs x m) : ∃ z, z = x ∧ NameIs z m := ⟨x, rfl, h⟩
theorem text_head1 (x : Str) (ns : List Int) : Txt.slice (textOf x ns) none (some ((x.cps.size : Int) + 1)) = x ++ PySem.Str.ofString "1" := by
  have h : ((x.cps.size : Int) + 1) = ((x.cps.size + 1 : Nat) : Int) := by omega
  rw [h, slice_upto _ _ (by simp [textOf])]
  have e : PySem.Str.ofString "1" = ⟨#[49]⟩ := by decide +kernel
  rw [e]
  refine Str.ext' ?_
  rw [Str.cps_append, text_cps]
  have h2 : (x.cps.toList ++ 49 :: ns.map signN).take (x.cps.size + 1) = x.cps.toList ++ [49] := by
    rw [List.take_append, List.take_of_length_le (by simp)]; simp
  rw [h2]
  simp only [← Array.toList_inj]
  simp
structure RowIs (arr : Array Value) (rs : List Int) : Prop where
  vals : IntsAre arr.toList rs
  few : rs.length ≤ 10
  low : ∀ n ∈ rs, 0 ≤ n ∧ n < 32
theorem news_swap {h₀ h : Heap} {L : Addr} {a b : Addr × Obj} {r : List (Addr × Obj)} (N : News h₀ L h (a :: b :: r)) : News h₀ L h (b :: a :: r) := fun p hp => N p (by
  rcases List.mem_cons.mp hp with rfl | hp
  · exact .tail _ (.head _)
  · rcases List.mem_cons.mp hp with rfl | hp
    · exact .head _
    · exact .tail _ (.tail _ hp))
theorem cutAt {M : Model} {A : Around} {st : Stmt} {env : Env} {Q : Flow → Shared → Prop} {E : Value → Shared → Prop} {s : Shared} (R : Flow → Shared → Prop) (h : wpAny M A (exec st env) R E s) (k : ∀ f s', R f s' → Q f s') : wpAny M A (exec st env) Q E s := wpAny_mono h k (fun _ _ e => e)
theorem text_tl (x : Str) (ns : List Int) : x ++ PySem.Str.ofString "1" ++ ⟨(ns.map signN).toArray⟩ = textOf x ns := by
  rw [← text_is, join_signs]
theorem news_two {h₀ h : Heap} {L : Addr} {a b : Addr × Obj} {r : List (Addr × Obj)} (N1 : News h₀ L h (a :: r)) (N2 : News h₀ L h (b :: r)) : News h₀ L h (a :: b :: r) := fun p hp => by
  rcases List.mem_cons.mp hp with rfl | hp
  · exact N1 _ (.head _)
  · exact N2 _ hp
theorem listCls {arr : Array Value} {k : Nat} : (W.listOf arr k).cls ≠ .none := by rintro ⟨⟩
theorem news_sub {h₀ h : Heap} {L : Addr} {a b : List (Addr × Obj)} (N : News h₀ L h a) (hs : ∀ p ∈ b, p ∈ a) : News h₀ L h b := fun p hp => N p (hs p hp)
theorem enterKCH {prog : Program} {w : World} {A : Around} {E : Value → Shared → Prop} {s : Shared} {K : Frag} {p : Program} {loose : List Str} {mean : ExcName → Option Value} {mg mb : Str → Option Value} {Q : Value → Shared → Prop}
    {name : Str} {params : Arguments} {body : List Stmt} {scope : Scope} {dV kV doc pm cdv ct oc : Value} {an od : Option Addr} {osl : Array (Option Value)} {f P : Addr} {args : List Value} {binds : List (Str × Value)} {ps : Array Value}
    (X : K.In s.heap) (T : Top p loose mean mg mb s.heap) (hP : s.heap.get? P = some (tabObj ps)) (hroom : A.depth < recursionLimit)
    (ho : K.lookup f = some ⟨oc, od, .func (fnOf name name params body scope dV kV doc pm an cdv ct), osl⟩) (hcd : codeIn K cdv name = true)
    (hbind : BindsTo s (fnOf name name params body scope dV kV doc pm an cdv ct) ⟨args, []⟩ binds) (hkind : (binds.all fun y => scope.names.lookup y.1 == some .local || scope.names.lookup y.1 == some .cell) = true)
    (hnd : ((cellsFrom 0 scope.names []).map (·.1)).Nodup)
    (h : ∀ h₁ tk cells, Fr (hideAll s.heap [P]) s.heap.objs.size h₁ (bindL (envOfC name scope s.heap.objs.size f cdv).kindOf binds fun _ => none) → News (hideAll s.heap [P]) s.heap.objs.size h₁ (cells ++ [(P, tabObj ps)]) →
      CellsAre (bindC (envOfC name scope s.heap.objs.size f cdv).kindOf binds fun _ => none) (cellsFrom (s.heap.objs.size + 1) scope.names []) cells →
      wpAny (model prog w) (A.deeper (envOfC name scope s.heap.objs.size f cdv)) (execs body (envOfC name scope s.heap.objs.size f cdv))
        (fun fl s' => Q (match fl with | .ret v => v | _ => .none) s') (fun _ _ => False) { s with heap := h₁, toks := tk })
    (hco : scope.isCoroutine = false := by rfl) (hgen : scope.isGenerator = false := by rfl) (hk : scope.kind = .function := by rfl) :
    wpAny (model prog w) A (call (.ref f) args) Q E s := by
  refine enterKC X T hroom ho hcd hbind hkind hnd (fun h₁ tk cells F N Y => ?_) hco hgen hk
  refine h h₁ tk cells ⟨F.ns, fun b o e => F.keep b o (of_hideAll _ e), Nat.le_trans (Nat.le_of_eq (hideAll_size _ _)) F.above⟩ (fun q hq => ?_) Y
  rcases List.mem_append.mp hq with hq | hq
  · have hN := N q hq
    refine ⟨hN.1, hN.2.1, ?_⟩
    cases g : (hideAll s.heap [P]).get? q.1 with
    | none => rfl
    | some o => have := of_hideAll _ g; rw [hN.2.2] at this; cases this
  · rw [List.mem_singleton.mp hq]
    exact ⟨F.keep _ _ hP, Nat.ne_of_lt (Heap.lt_size hP), hideAll_none _ (.head _)⟩
theorem int_item {prog : Program} {w : World} {A : Around} {E : Value → Shared → Prop} {s : Shared} {value slice : Expr} {l : Addr} {arr : Array Value} {ns : List Int} {k : Int} {u : Tok} {Q : Value → Shared → Prop} (hl : s.heap.IsList l arr) (hi : IntsAre arr.toList ns) (hz : ns.length ≤ 1000000) (h0 : 0 ≤ k) (h1 : k < ns.length) (h : ∀ t, Q (.int (ns.getD k.toNat 0) t) s)
    (hs : subscripted slice false (.ref l) (.int k u) = operate [.ref l, .int k u] (getItem (.ref l) (.int k u)) := by with_unfolding_all rfl) (hg : ∀ r, letTemporaryGo value (.ref l) r = pure () := by intro _; with_unfolding_all rfl) :
    wpAny (model prog w) A (subscriptTail value slice (.ref l) (.int k u)) Q E s := by
  have hlt : k.toNat < ns.length := by omega
  have hlen := hi.length
  have hv : arr.toList[k.toNat]? = some (arr.toList[k.toNat]'(by rw [hlen]; exact hlt)) := List.getElem?_eq_getElem _
  obtain ⟨n, t, e, hn⟩ := hi.at k.toNat _ hv
  refine item_list (x := .int (ns.getD k.toNat 0) t) hl h0 (by rw [Array.length_toList] at hlen; omega) ?_ (h t) hs hg
  rw [← Array.getElem?_toList, hv, e]
  rw [List.getD, hn]; rfl
theorem sliceFrom {prog : Program} {w : World} {A : Around} {E : Value → Shared → Prop} {s : Shared} {h₀ : Heap} {L l : Addr} {m : Str → Option Value} {news : List (Addr × Obj)} {value slice : PySem.Expr} {arr : Array Value} {ns : List Int} {a : Int} {u : Tok} {Q : Value → Shared → Prop}
    (F : Fr h₀ L s.heap m) (N : News h₀ L s.heap news) (hl : s.heap.IsList l arr) (hi : IntsAre arr.toList ns) (hz : ns.length ≤ 1000) (h0 : 0 ≤ a)
    (h : ∀ D arr2 h', Fr h₀ L h' m → News h₀ L h' ((D, W.listOf arr2 0) :: news) → (∀ p ∈ news, p.1 < D) → IntsAre arr2.toList (ns.drop a.toNat) → Q (.ref D) { s with heap := h' })
    (hs : subscripted slice false (.ref l) (.ref s.heap.objs.size) = operate [.ref s.heap.objs.size, .ref l] (getItem (.ref l) (.ref s.heap.objs.size)) := by with_unfolding_all rfl) (ht : ∀ r, letTemporaryGo value (.ref l) r = pure () := by intro _; with_unfolding_all rfl) :
    wpAny (model prog w) A (subscriptTail value slice (.ref l) (.ref s.heap.objs.size)) Q E { s with heap := s.heap.push { cls := .type "slice", data := .fields #[.int a u, .none, .none] } } := by
  have hz2 : arr.toList.toArray.size ≤ sizeLine := by rw [sizeLine_eq, List.size_toArray, hi.length]; omega
  have hl2 : s.heap.IsList l arr.toList.toArray := by rw [Array.toArray_toList]; exact hl
  exact kmk_slice_ints (lo := some a) (hi := none) F N hl2 (IsPart.int _ _) IsPart.none hi (kmk_from hi h0) rfl (fun D ws h' F' N' l1 hI _ _ => h D ws.toArray h' F' N' l1 hI) hs ht hz2
theorem sliceTo {prog : Program} {w : World} {A : Around} {E : Value → Shared → Prop} {s : Shared} {h₀ : Heap} {L l : Addr} {m : Str → Option Value} {news : List (Addr × Obj)} {value slice : PySem.Expr} {arr : Array Value} {ns : List Int} {a : Int} {u : Tok} {Q : Value → Shared → Prop}
    (F : Fr h₀ L s.heap m) (N : News h₀ L s.heap news) (hl : s.heap.IsList l arr) (hi : IntsAre arr.toList ns) (hz : ns.length ≤ 1000) (h0 : 0 ≤ a)
    (h : ∀ D arr2 h', Fr h₀ L h' m → News h₀ L h' ((D, W.listOf arr2 0) :: news) → (∀ p ∈ news, p.1 < D) → IntsAre arr2.toList (ns.take a.toNat) → Q (.ref D) { s with heap := h' })
    (hs : subscripted slice false (.ref l) (.ref s.heap.objs.size) = operate [.ref s.heap.objs.size, .ref l] (getItem (.ref l) (.ref s.heap.objs.size)) := by with_unfolding_all rfl) (ht : ∀ r, letTemporaryGo value (.ref l) r = pure () := by intro _; with_unfolding_all rfl) :
    wpAny (model prog w) A (subscriptTail value slice (.ref l) (.ref s.heap.objs.size)) Q E { s with heap := s.heap.push { cls := .type "slice", data := .fields #[.none, .int a u, .none] } } := by
  have hz2 : arr.toList.toArray.size ≤ sizeLine := by rw [sizeLine_eq, List.size_toArray, hi.length]; omega
  have hl2 : s.heap.IsList l arr.toList.toArray := by rw [Array.toArray_toList]; exact hl
  exact kmk_slice_ints (lo := none) (hi := some a) F N hl2 IsPart.none (IsPart.int _ _) hi (kmk_upto hi h0) rfl (fun D ws h' F' N' l1 hI _ _ => h D ws.toArray h' F' N' l1 hI) hs ht hz2
theorem newsNe {h₀ h : Heap} {L a c : Addr} {o oc : Obj} {news : List (Addr × Obj)} {v : Option Value} (N : News h₀ L h news) (h1 : (a, o) ∈ news) (h2 : (c, oc) ∈ news) (hc : oc.data = .cell v) (ho : ∀ v, o.data ≠ .cell v) : a ≠ c := fun e => by
  have e1 := (N _ h1).1
  have e2 := (N _ h2).1
  rw [e] at e1
  have e3 := Option.some.inj (e1.symm.trans e2)
  exact ho v ((congrArg Obj.data e3).trans hc)
theorem backD2 {h₀ : Heap} {L : Addr} {m : Str → Option Value} {s : Shared} {pre : List (Addr × Obj)} {ps ps' : Array Value} {h' : Heap} (F : Fr h₀ L s.heap m) (N : News h₀ L s.heap (pre ++ [(45, tabObj ps)])) (hc : ∀ p ∈ pre, ∀ qs, p.2 ≠ tabObj qs)
    (hk : ∀ b o, b ≠ 45 → s.heap.get? b = some o → h'.get? b = some o) (h46 : h'.get? 45 = some (tabObj ps')) :
    Fr h₀ L h' m ∧ News h₀ L h' (pre ++ [(45, tabObj ps')]) ∧ ∀ l o, (hideAll s.heap [45]).get? l = none → h'.get? l = some o → (∀ qs, o ≠ tabObj qs) → News h₀ L h' ((l, o) :: pre ++ [(45, tabObj ps')]) ∧ (∀ p ∈ pre, p.1 ≠ l) ∧ 45 ≠ l := by
  have hT := N (45, tabObj ps) (List.mem_append_right _ (.head _))
  have hne : ∀ b o, h₀.get? b = some o → b ≠ 45 := fun b o e q => by rw [q, hT.2.2] at e; cases e
  have hL : L ≠ 45 := hT.2.1.symm
  have F' : Fr h₀ L h' m := by
    refine ⟨?_, fun b o e => hk b o (hne b o e) (F.keep b o e), F.above⟩
    obtain ⟨oL, es, ep, q, r⟩ := F.ns
    exact ⟨oL, es, ep, hk _ _ hL q, r⟩
  have hp46 : ∀ p ∈ pre, p.1 ≠ 45 := fun p hp q => by
    have h1 := N p (List.mem_append_left _ hp)
    have h2 := h1.1
    rw [q, hT.1] at h2
    exact hc p hp _ (Option.some.inj h2).symm
  have N' : News h₀ L h' (pre ++ [(45, tabObj ps')]) := fun p hp => by
    rcases List.mem_append.mp hp with hp' | hp'
    · have h1 := N p (List.mem_append_left _ hp')
      exact ⟨hk _ _ (hp46 p hp') h1.1, h1.2⟩
    · rw [List.mem_singleton.mp hp']; exact ⟨h46, hT.2⟩
  refine ⟨F', N', fun l o hl ho hco => ?_⟩
  have l46 : 45 ≠ l := fun q => by
    rw [← q, h46] at ho
    exact hco _ (Option.some.inj ho).symm
  have lS : s.heap.get? l = none := by
    cases q : s.heap.get? l with
    | none => rfl
    | some o' =>
      rw [hideAll_get _ q (by simpa using Ne.symm l46)] at hl
      cases hl
  refine ⟨fun p hp => ?_, fun p hp q => ?_, l46⟩
  · rcases List.mem_cons.mp hp with rfl | hp
    · refine ⟨ho, fun q => ?_, ?_⟩
      · obtain ⟨oL, es, ep, q2, r⟩ := F.ns
        have q3 : l = L := q
        rw [q3, q2] at lS; cases lS
      · cases q : h₀.get? l with
        | none => rfl
        | some o' => rw [F.keep _ _ q] at lS; cases lS
    · exact N' p hp
  · have h1 := N p (List.mem_append_left _ hp)
    have h2 := h1.1
    rw [q, lS] at h2; cases h2
theorem notTab {o : Obj} {v : Option Value} (h : o.data = .cell v) : ∀ qs, o ≠ tabObj qs := fun qs e => by rw [e] at h; cases h
theorem listTab {arr : Array Value} {k : Nat} : ∀ qs, W.listOf arr k ≠ tabObj qs := fun qs e => by cases e
end Mine
end
section
open PySem PySem.W PySem.Calls PyProof.Rows
set_option maxRecDepth 100000
set_option linter.unusedVariables false
namespace Mine
open LCg



theorem join_chs (cs : List Nat) : Txt.join (PySem.Str.ofString "") (cs.map fun c => (⟨#[c]⟩ : Str)) = ⟨cs.toArray⟩ := by
  have e : PySem.Str.ofString "" = ⟨#[]⟩ := by decide +kernel
  unfold Txt.join
  rw [StrLaws.glued_eq_join, e]
  refine Str.ext' ?_
  rw [join_cps]
  simp only [List.flatMap_map]
  congr 1
  induction cs with
  | nil => rfl
  | cons n r ih => simp [List.flatMap_cons, ih]
theorem joinOk_chs {cs : List Nat} (h : cs.length ≤ 5000) : JoinOk (PySem.Str.ofString "") (cs.map fun c => (⟨#[c]⟩ : Str)) = true := by
  unfold JoinOk
  rw [Bool.not_eq_true']
  refine StrLaws.joinFits (B := 1) (fun y hy => ?_) ?_
  · obtain ⟨n, _, rfl⟩ := List.mem_map.mp hy
    exact Nat.le_refl _
  · have e : (PySem.Str.ofString "").length = 0 := by decide +kernel
    rw [e, List.length_map]; omega
def nameC (k : Int) : Nat := if k < 32 then (33 + k).toNat else (59 + k).toNat
theorem nameC_ok {k : Int} (h : 0 ≤ k ∧ k < 68) : 33 ≤ nameC k ∧ nameC k ≤ 126 ∧ ¬ (65 ≤ nameC k ∧ nameC k ≤ 90) := by
  unfold nameC; split <;> omega
def chS (c : Nat) : Str := ⟨#[c]⟩
end Mine
end
section
open PySem PySem.W PySem.Calls PyProof.Rows
set_option maxRecDepth 100000
set_option linter.unusedVariables false
namespace Mine
/-- tables as figures -/
def figN (t a : Nat) : Nat := (t >>> (5 * a)) % 32
def f29 : Nat := 490666822443433241968069428975687820984440016800
def f22 : Nat := 585616458388304494339072272070229963731668408000
def f20 : Nat := 1255730981427269304972362873906137542315259627136
def f21 : Nat := 207288332701245938678122513219360819104824626848
def f18 : Nat := 538368610772363848808735075454348178753328232000
def fLog : Nat := 931001199420549403946829020058309183778805187584
def fPow : Nat := 1324436154505198174422809361114512118005851547709725122957190730508510170910152696808035586113
theorem fig29 : ∀ a : Nat, a < 32 → tN 29 a = figN f29 a := by decide +kernel
theorem fig22 : ∀ a : Nat, a < 32 → tN 22 a = figN f22 a := by decide +kernel
theorem fig20 : ∀ a : Nat, a < 32 → tN 20 a = figN f20 a := by decide +kernel
theorem fig21 : ∀ a : Nat, a < 32 → tN 21 a = figN f21 a := by decide +kernel
theorem fig18 : ∀ a : Nat, a < 32 → tN 18 a = figN f18 a := by decide +kernel
def feedB (a : Nat) : N6 := (figN f29 a, figN f22 a, figN f20 a, figN f21 a, figN f29 a, figN f18 a)
theorem feed_B {a : Nat} (h : a < 32) : feed a = feedB a := by
  unfold feed feedB
  rw [fig29 a h, fig22 a h, fig20 a h, fig21 a h, fig18 a h]
def eqV (s t : N6) : Bool := s.1 == t.1 && (s.2.1 == t.2.1 && (s.2.2.1 == t.2.2.1 && (s.2.2.2.1 == t.2.2.2.1 && (s.2.2.2.2.1 == t.2.2.2.2.1 && s.2.2.2.2.2 == t.2.2.2.2.2))))
theorem eqV_iff {s t : N6} : eqV s t = true ↔ s = t := by
  obtain ⟨u, v, w, x, y, z⟩ := s
  obtain ⟨a, b, c, d, e, f⟩ := t
  simp only [eqV, Bool.and_eq_true, beq_iff_eq, Prod.mk.injEq]
theorem feedB_xor' : ∀ a : Nat, a < 32 → ∀ b : Nat, b < 32 → eqV (feedB (a ^^^ b)) (xorV (feedB a) (feedB b)) = true := by decide +kernel
theorem feedB_xor (a : Nat) (ha : a < 32) (b : Nat) (hb : b < 32) : feedB (a ^^^ b) = xorV (feedB a) (feedB b) := eqV_iff.mp (feedB_xor' a ha b hb)
def zeroB (s : N6) : N6 := xorV (s.2.1, s.2.2.1, s.2.2.2.1, s.2.2.2.2.1, s.2.2.2.2.2, 0) (feedB s.1)
def zerosB : Nat → N6 → N6
  | 0, s => s
  | k + 1, s => zeroB (zerosB k s)
theorem zero_B {s : N6} (h : okN s) : fwdN s 0 = zeroB s := by
  unfold fwdN zeroB
  rw [feed_B h.1]
theorem ok_zeros {s : N6} (h : okN s) : ∀ k, okN (zerosB k s)
  | 0 => h
  | k + 1 => by
    show okN (zeroB (zerosB k s))
    rw [← zero_B (ok_zeros h k)]
    exact ok_fwd (ok_zeros h k) (by decide)
theorem run_zeros {s : N6} (h : okN s) : ∀ k, runN s (List.replicate k 0) = zerosB k s
  | 0 => rfl
  | k + 1 => by
    rw [List.replicate_succ', run_app, run_zeros h k]
    show fwdN (zerosB k s) 0 = zeroB (zerosB k s)
    exact zero_B (ok_zeros h k)
def mulB (a b : Nat) : Nat := if a = 0 then 0 else if b = 0 then 0 else figN fPow (figN fLog a + figN fLog b)
theorem times_B : ∀ a : Nat, a < 32 → ∀ b : Nat, b < 32 → timesZ (a : Int) (b : Int) = ((mulB a b : Nat) : Int) := by decide +kernel
def mulV (c : Nat) (v : N6) : N6 := (mulB c v.1, mulB c v.2.1, mulB c v.2.2.1, mulB c v.2.2.2.1, mulB c v.2.2.2.2.1, mulB c v.2.2.2.2.2)
def invB (a : Nat) : Nat := figN fPow (31 - figN fLog a)
def headN (v : N6) : Nat := if v.1 ≠ 0 then v.1 else if v.2.1 ≠ 0 then v.2.1 else if v.2.2.1 ≠ 0 then v.2.2.1 else if v.2.2.2.1 ≠ 0 then v.2.2.2.1 else if v.2.2.2.2.1 ≠ 0 then v.2.2.2.2.1 else v.2.2.2.2.2
def nfN (v : N6) : N6 := mulV (invB (headN v)) v
/-- x to the m and the next power of x, taken together -/
def pairW (m : Nat) : N6 := zerosB m (0, 0, 0, 0, 1, 1)
def zeroV : N6 := (0, 0, 0, 0, 0, 0)
theorem pair_mul' : ∀ m : Nat, m < 13 → ∀ e : Nat, e < 32 → eqV (zerosB m (0, 0, 0, 0, e, e)) (mulV e (pairW m)) = true := by decide +kernel
theorem pair_mul (m : Nat) (hm : m < 13) (e : Nat) (he : e < 32) : zerosB m (0, 0, 0, 0, e, e) = mulV e (pairW m) := eqV_iff.mp (pair_mul' m hm e he)
theorem pair_is' : ∀ m : Nat, m < 13 → eqV (xorV (zerosB m (0, 0, 0, 0, 0, 1)) (zerosB (m + 1) (0, 0, 0, 0, 0, 1))) (pairW m) = true := by decide +kernel
theorem pair_is (m : Nat) (hm : m < 13) : xorV (zerosB m (0, 0, 0, 0, 0, 1)) (zerosB (m + 1) (0, 0, 0, 0, 0, 1)) = pairW m := eqV_iff.mp (pair_is' m hm)
theorem pair_nf' : ∀ m : Nat, m < 13 → ∀ e : Nat, e < 32 → e ≠ 0 → eqV (nfN (mulV e (pairW m))) (nfN (pairW m)) = true := by decide +kernel
theorem pair_nf (m : Nat) (hm : m < 13) (e : Nat) (he : e < 32) (h0 : e ≠ 0) : nfN (mulV e (pairW m)) = nfN (pairW m) := eqV_iff.mp (pair_nf' m hm e he h0)
theorem pair_one' : ∀ m : Nat, m < 13 → ∀ k : Nat, k < 13 → eqV (nfN (pairW m)) (nfN (pairW k)) = true → m = k := by decide +kernel
theorem pair_one (m : Nat) (hm : m < 13) (k : Nat) (hk : k < 13) (h : nfN (pairW m) = nfN (pairW k)) : m = k := pair_one' m hm k hk (eqV_iff.mpr h)
theorem pair_some' : ∀ m : Nat, m < 13 → ∀ e : Nat, e < 32 → e ≠ 0 → eqV (mulV e (pairW m)) zeroV = false := by decide +kernel
theorem pair_some (m : Nat) (hm : m < 13) (e : Nat) (he : e < 32) (h0 : e ≠ 0) : mulV e (pairW m) ≠ zeroV := fun h => by
  have := pair_some' m hm e he h0
  rw [eqV_iff.mpr h] at this; cases this
theorem mul_zero (v : N6) : mulV 0 v = zeroV := rfl
theorem pair_fits {m k t e : Nat} (hm : m < 13) (hk : k < 13) (ht : t < 32) (he : e < 32) (h0 : t ≠ 0) (h : mulV t (pairW k) = mulV e (pairW m)) : k = m ∧ e ≠ 0 := by
  have e0 : e ≠ 0 := by
    rintro rfl
    exact pair_some k hk t ht h0 h
  refine ⟨pair_one k hk m hm ?_, e0⟩
  rw [← pair_nf k hk t ht h0, h, pair_nf m hm e he e0]
theorem low_pair : ∀ m : Nat, m < 13 → okN (pairW m) := fun m hm => ok_zeros (by unfold okN; decide) m
theorem mulB_lt (a b : Nat) : mulB a b < 32 := by
  unfold mulB figN
  split
  · decide
  · split
    · decide
    · exact Nat.mod_lt _ (by decide)
theorem ok_mul (c : Nat) (v : N6) : okN (mulV c v) := ⟨mulB_lt _ _, mulB_lt _ _, mulB_lt _ _, mulB_lt _ _, mulB_lt _ _, mulB_lt _ _⟩
theorem fwd_xor {s t : N6} (hs : okN s) (ht : okN t) (n : Nat) : fwdN (xorV s t) n = xorV (fwdN s n) (fwdN t 0) := by
  have h1 := hs.1
  have h2 := ht.1
  have hf : feed (s.1 ^^^ t.1) = xorV (feed s.1) (feed t.1) := by rw [feed_B (x32 h1 h2), feed_B h1, feed_B h2, feedB_xor _ h1 _ h2]
  unfold fwdN
  show xorV _ (feed (s.1 ^^^ t.1)) = _
  rw [hf]
  unfold xorV
  dsimp only
  have h : ∀ a b c d : Nat, (a ^^^ b) ^^^ (c ^^^ d) = (a ^^^ c) ^^^ (b ^^^ d) := fun a b c d => by
    rw [Nat.xor_assoc, ← Nat.xor_assoc b c d, Nat.xor_comm b c, Nat.xor_assoc c b d, ← Nat.xor_assoc]
  simp only [h, Nat.xor_zero]
  congr 5
  rw [h, Nat.xor_zero]
theorem run_xor : ∀ {zs : List Nat} {s t : N6}, okN s → okN t → (∀ n ∈ zs, n < 32) → runN (xorV s t) zs = xorV (runN s zs) (zerosB zs.length t)
  | [], _, _, _, _, _ => rfl
  | n :: r, s, t, hs, ht, hz => by
    show runN (fwdN (xorV s t) n) r = xorV (runN (fwdN s n) r) _
    rw [fwd_xor hs ht, run_xor (ok_fwd hs (hz n (.head _))) (ok_fwd ht (by decide)) fun m hm => hz m (.tail _ hm)]
    congr 1
    rw [zero_B ht]
    have : ∀ k (t : N6), zerosB k (zeroB t) = zerosB (k + 1) t := by
      intro k
      induction k with
      | zero => intro t; rfl
      | succ k ih => intro t; show zeroB (zerosB k (zeroB t)) = _; rw [ih]; rfl
    exact this _ _
theorem fwd_at (s : N6) (n : Nat) : fwdN s n = xorV (fwdN s 0) (0, 0, 0, 0, 0, n) := by
  have h := fwd_add s 0 0 0 0 0 n
  rw [xorV_zero] at h
  exact h
theorem fwd_two (s : N6) (a b : Nat) : fwdN (fwdN s a) b = xorV (fwdN (fwdN s 0) 0) (0, 0, 0, 0, a, b) := by
  rw [fwd_at s a, fwd_add]
theorem xorV_assoc (s t u : N6) : xorV (xorV s t) u = xorV s (xorV t u) := by
  unfold xorV; simp only [Nat.xor_assoc]
theorem fwd_swap (s : N6) (a b : Nat) : fwdN (fwdN s b) a = xorV (fwdN (fwdN s a) b) (0, 0, 0, 0, a ^^^ b, a ^^^ b) := by
  rw [fwd_two s b a, fwd_two s a b, xorV_assoc]
  refine congrArg (xorV _) ?_
  show (0, 0, 0, 0, b, a) = (0 ^^^ 0, 0 ^^^ 0, 0 ^^^ 0, 0 ^^^ 0, a ^^^ (a ^^^ b), b ^^^ (a ^^^ b))
  have e1 : a ^^^ (a ^^^ b) = b := by rw [← Nat.xor_assoc, Nat.xor_self, Nat.zero_xor]
  have e2 : b ^^^ (a ^^^ b) = a := by rw [Nat.xor_comm a b, ← Nat.xor_assoc, Nat.xor_self, Nat.zero_xor]
  rw [e1, e2]; rfl
theorem run_swap {s : N6} {pre post : List Nat} {a b : Nat} (hs : okN s) (hp : ∀ n ∈ pre, n < 32) (hq : ∀ n ∈ post, n < 32) (ha : a < 32) (hb : b < 32) :
    runN s (pre ++ [b, a] ++ post) = xorV (runN s (pre ++ [a, b] ++ post)) (zerosB post.length (0, 0, 0, 0, a ^^^ b, a ^^^ b)) := by
  have h := ok_run hs hp
  rw [run_app, run_app, run_app, run_app]
  show runN (fwdN (fwdN _ b) a) post = xorV (runN (fwdN (fwdN _ a) b) post) _
  rw [fwd_swap]
  have hx := x32 ha hb
  exact run_xor (ok_fwd (ok_fwd h ha) hb) ⟨Nat.zero_lt_succ _, Nat.zero_lt_succ _, Nat.zero_lt_succ _, Nat.zero_lt_succ _, hx, hx⟩ hq
end Mine
end
section
open PySem PySem.W PySem.Calls PyProof.Rows
set_option maxRecDepth 100000
set_option linter.unusedVariables false
namespace Mine
def sixth (v : N6) : Nat := v.2.2.2.2.2
def kapL (m : Nat) : Nat := if m = 0 then 18 else if m = 1 then 6 else if m = 2 then 24 else 13
theorem kap_is : ∀ m : Nat, m < 4 → ∀ v : Nat, v < 32 → sixth (zerosB (m + 6) (0, 0, 0, 0, 0, v)) = mulB v (kapL m) := by decide +kernel
theorem kap_xor : ∀ m : Nat, m < 4 → ∀ a : Nat, a < 32 → ∀ b : Nat, b < 32 → mulB (a ^^^ b) (kapL m) = mulB a (kapL m) ^^^ mulB b (kapL m) := by decide +kernel
theorem kap_some : ∀ m : Nat, m < 4 → ∀ a : Nat, a < 32 → a ≠ 0 → mulB a (kapL m) ≠ 0 := by decide +kernel
/-- the loop's word: the last sign with some of the turns taken in -/
def lastK (m b v k : Nat) : Int := (List.range k).foldl (fun (a : Int) (j : Nat) => Builtin.bitXor a (if ((v : Int).fdiv (([1, 2, 4, 8, 16] : List Int).getD j 0)).fmod 2 = 1 then ((mulB (2 ^ j) (kapL m) : Nat) : Int) else 0)) (b : Int)
theorem lastK_succ (m b v k : Nat) : lastK m b v (k + 1) = Builtin.bitXor (lastK m b v k) (if ((v : Int).fdiv (([1, 2, 4, 8, 16] : List Int).getD k 0)).fmod 2 = 1 then ((mulB (2 ^ k) (kapL m) : Nat) : Int) else 0) := by
  unfold lastK
  rw [List.range_succ, List.foldl_append]; rfl
theorem lastK_cut (m v : Nat) : ∀ k : Nat, ∃ c : Nat, ∀ b : Nat, lastK m b v k = ((b ^^^ c : Nat) : Int)
  | 0 => ⟨0, fun b => by rw [Nat.xor_zero]; rfl⟩
  | k + 1 => by
    obtain ⟨c, hc⟩ := lastK_cut m v k
    by_cases h : ((v : Int).fdiv (([1, 2, 4, 8, 16] : List Int).getD k 0)).fmod 2 = 1
    · exact ⟨c ^^^ mulB (2 ^ k) (kapL m), fun b => by rw [lastK_succ, if_pos h, hc, bx, Nat.xor_assoc]⟩
    · exact ⟨c, fun b => by rw [lastK_succ, if_neg h, hc]; exact (bx (b ^^^ c) 0).trans (by rw [Nat.xor_zero])⟩
theorem lastK_nought : ∀ m : Nat, m < 4 → ∀ v : Nat, v < 32 → lastK m 0 v 5 = ((mulB v (kapL m) : Nat) : Int) := by decide +kernel
theorem lastK_five : ∀ m : Nat, m < 4 → ∀ b : Nat, b < 32 → ∀ v : Nat, v < 32 → lastK m b v 5 = ((b ^^^ mulB v (kapL m) : Nat) : Int) := by
  intro m hm b _ v hv
  obtain ⟨c, hc⟩ := lastK_cut m v 5
  have h0 := lastK_nought m hm v hv
  rw [hc 0, Nat.zero_xor] at h0
  rw [hc b, Int.ofNat.inj h0]
def fitN (m b i : Nat) : List Nat := (List.range i).filter fun v => b ^^^ mulB v (kapL m) == 1
def fitZ (m b i : Nat) : List Int := (fitN m b i).map fun n : Nat => (n : Int)
theorem fit_one' : ∀ m : Nat, m < 4 → ∀ b : Nat, b < 32 → (fitN m b 32).length = 1 := by decide +kernel
theorem fit_one {m b : Nat} (hm : m < 4) (hb : b < 32) : ∃ f : Nat, f < 32 ∧ b ^^^ mulB f (kapL m) = 1 ∧ fitZ m b 32 = [(f : Int)] := by
  have h := fit_one' m hm b hb
  match hf : fitN m b 32, h with
  | [f], _ =>
    have hmem : f ∈ fitN m b 32 := by rw [hf]; exact .head _
    unfold fitN at hmem
    rw [List.mem_filter] at hmem
    refine ⟨f, List.mem_range.mp hmem.1, by simpa using hmem.2, ?_⟩
    unfold fitZ; rw [hf]; rfl
theorem fit_yes {m b i : Nat} (h : b ^^^ mulB i (kapL m) = 1) : fitZ m b (i + 1) = fitZ m b i ++ [(i : Int)] := by
  unfold fitZ fitN
  rw [List.range_succ, List.filter_append, List.map_append]
  simp [h]
theorem fit_no {m b i : Nat} (h : b ^^^ mulB i (kapL m) ≠ 1) : fitZ m b (i + 1) = fitZ m b i := by
  unfold fitZ fitN
  rw [List.range_succ, List.filter_append, List.map_append]
  simp [h]
theorem fit_len {m b i : Nat} : (fitZ m b i).length ≤ i := by
  unfold fitZ fitN
  rw [List.length_map]
  exact Nat.le_trans (List.length_filter_le _ _) (by rw [List.length_range]; exact Nat.le_refl _)
end Mine
end
section
open PySem PySem.W PySem.Calls PyProof.Rows
set_option maxRecDepth 100000
set_option linter.unusedVariables false
namespace Mine
def stN (x : Str) (ns : List Int) : N6 := runN oneN (natsOf (expandZ x ++ ns))
theorem ok_st {x : Str} {ns : List Int} (hx : ∀ c ∈ x.cps.toList, c ≤ 126) (hn : ∀ n ∈ ns, 0 ≤ n ∧ n < 32) : okN (stN x ns) :=
  ok_run ok_one (natsOf_lt fun n h => (List.mem_append.mp h).elim (expand_low hx n) (hn n))
theorem poly_st {x : Str} {ns : List Int} (hx : ∀ c ∈ x.cps.toList, c ≤ 126) (hn : ∀ n ∈ ns, 0 ≤ n ∧ n < 32) : polyZ (expandZ x ++ ns) = (packN (stN x ns) : Int) := by
  have l : ∀ n ∈ expandZ x ++ ns, 0 ≤ n ∧ n < 32 := fun n h => (List.mem_append.mp h).elim (expand_low hx n) (hn n)
  unfold stN
  rw [← poly_N (natsOf_lt l), natsOf_cast l]
theorem st_app (x : Str) (a b : List Int) : stN x (a ++ b) = runN (stN x a) (natsOf b) := by
  unfold stN
  rw [← List.append_assoc, natsOf_app, run_app]
theorem poly_is_one {x : Str} {ns : List Int} (hx : ∀ c ∈ x.cps.toList, c ≤ 126) (hn : ∀ n ∈ ns, 0 ≤ n ∧ n < 32) : polyZ (expandZ x ++ ns) = 1 ↔ stN x ns = oneN := by
  rw [poly_st hx hn]
  constructor
  · intro h
    refine pack_inj (ok_st hx hn) ok_one ?_
    have : packN oneN = 1 := by decide
    omega
  · intro h; rw [h]; rfl
theorem poly_is_zero {x : Str} {ns : List Int} (hx : ∀ c ∈ x.cps.toList, c ≤ 126) (hn : ∀ n ∈ ns, 0 ≤ n ∧ n < 32) : polyZ (expandZ x ++ ns) = 0 ↔ stN x ns = zeroV := by
  rw [poly_st hx hn]
  constructor
  · intro h
    refine pack_inj (ok_st hx hn) (by unfold okN zeroV; decide) ?_
    have : packN zeroV = 0 := by decide
    omega
  · intro h; rw [h]; rfl
theorem feed18 : ∀ u : Nat, u < 32 → figN f18 u = 0 → u = 0 := by decide +kernel
theorem feed_zero : feedB 0 = zeroV := by decide +kernel
theorem zero_only {s : N6} (h : okN s) (e : zeroB s = zeroV) : s = zeroV := by
  obtain ⟨u, v, w, x, y, z⟩ := s
  have h1 : u < 32 := h.1
  have e6 : 0 ^^^ figN f18 u = 0 := congrArg sixth e
  rw [Nat.zero_xor] at e6
  obtain rfl := feed18 u h1 e6
  have e2 : xorV (v, w, x, y, z, 0) (feedB 0) = zeroV := e
  rw [feed_zero] at e2
  have e3 : xorV (v, w, x, y, z, 0) zeroV = (v, w, x, y, z, 0) := xorV_zero _
  rw [e3] at e2
  simp only [zeroV, Prod.mk.injEq] at e2
  obtain ⟨rfl, rfl, rfl, rfl, rfl, _⟩ := e2
  rfl
theorem zero_run (k : Nat) : zerosB k zeroV = zeroV := by
  induction k with
  | zero => rfl
  | succ k ih => show zeroB (zerosB k zeroV) = zeroV; rw [ih]; decide +kernel
theorem feed_turn : ∀ u : Nat, u < 32 → ((((figN f18 u ^^^ figN f29 u) ^^^ figN f21 u) ^^^ figN f20 u) ^^^ figN f22 u) ^^^ figN f29 u = u → u = 0 := by decide +kernel
theorem turn_only {s : N6} (h : okN s) (e : zeroB s = s) : s = zeroV := by
  obtain ⟨u, v, w, x, y, z⟩ := s
  have h1 : u < 32 := h.1
  have e' : ((v ^^^ figN f29 u, w ^^^ figN f22 u, x ^^^ figN f20 u, y ^^^ figN f21 u, z ^^^ figN f29 u, 0 ^^^ figN f18 u) : N6) = (u, v, w, x, y, z) := e
  simp only [Prod.mk.injEq, Nat.zero_xor] at e'
  obtain ⟨a1, a2, a3, a4, a5, a6⟩ := e'
  have hu : u = 0 := feed_turn u h1 (by rw [a6, a5, a4, a3, a2, a1])
  subst hu
  exact zero_only h (e.trans (by
    have g1 : figN f18 0 = 0 := by decide +kernel
    have g2 : figN f29 0 = 0 := by decide +kernel
    have g3 : figN f21 0 = 0 := by decide +kernel
    have g4 : figN f20 0 = 0 := by decide +kernel
    have g5 : figN f22 0 = 0 := by decide +kernel
    rw [g1] at a6; subst a6
    rw [g2] at a5; simp only [Nat.xor_zero] at a5; subst a5
    rw [g3] at a4; simp only [Nat.xor_zero] at a4; subst a4
    rw [g4] at a3; simp only [Nat.xor_zero] at a3; subst a3
    rw [g5] at a2; simp only [Nat.xor_zero] at a2; subst a2
    rfl))
theorem xorV_eq {s t : N6} (h : xorV s t = zeroV) : s = t := by
  have h2 : xorV s (xorV s t) = xorV s zeroV := by rw [h]
  rw [xorV_self] at h2
  rw [h2]; exact (xorV_zero s).symm
theorem xorV_nil (s : N6) : xorV s s = zeroV := by
  unfold xorV zeroV; simp only [Nat.xor_self]
theorem fwd_inj {s t : N6} (hs : okN s) (ht : okN t) {n : Nat} (h : fwdN s n = fwdN t n) : s = t := by
  have e : fwdN (xorV s t) 0 = zeroV := by
    rw [fwd_xor hs ht]
    have h1 := fwd_at s n
    have h2 := fwd_at t n
    rw [h1, h2] at h
    have h3 : fwdN s 0 = fwdN t 0 := by
      have := congrArg (fun v => xorV v (0, 0, 0, 0, 0, n)) h
      rw [xorV_assoc, xorV_assoc, xorV_nil] at this
      have z : ∀ v, xorV v zeroV = v := xorV_zero
      rw [z, z] at this
      exact this
    rw [h3, xorV_nil]
  rw [zero_B (ok_xor hs ht)] at e
  exact xorV_eq (zero_only (ok_xor hs ht) e)
theorem run_inj : ∀ {zs : List Nat} {s t : N6}, okN s → okN t → (∀ n ∈ zs, n < 32) → runN s zs = runN t zs → s = t
  | [], _, _, _, _, _, h => h
  | n :: r, s, t, hs, ht, hz, h => fwd_inj hs ht (run_inj (zs := r) (ok_fwd hs (hz n (.head _))) (ok_fwd ht (hz n (.head _))) (fun m hm => hz m (.tail _ hm)) h)
/-- a q put in ahead of what stands from k on -/
theorem put_q {x : Str} {a b : List Int} (hx : ∀ c ∈ x.cps.toList, c ≤ 126) (ha : ∀ n ∈ a, 0 ≤ n ∧ n < 32) (hb : ∀ n ∈ b, 0 ≤ n ∧ n < 32) (h1 : polyZ (expandZ x ++ (a ++ b)) = 1) :
    polyZ (expandZ x ++ (a ++ [0] ++ b)) = 1 ↔ polyZ (expandZ x ++ a) = 0 := by
  have hab : ∀ n ∈ a ++ b, 0 ≤ n ∧ n < 32 := fun n h => (List.mem_append.mp h).elim (ha n) (hb n)
  have hzb : ∀ n ∈ a ++ [0] ++ b, 0 ≤ n ∧ n < 32 := fun n h => (List.mem_append.mp h).elim (fun h => (List.mem_append.mp h).elim (ha n) (fun h => by rw [List.mem_singleton.mp h]; decide)) (hb n)
  rw [poly_is_one hx hzb, poly_is_zero hx ha]
  have h2 := (poly_is_one hx hab).mp h1
  rw [st_app] at h2
  rw [st_app, st_app]
  have hs := ok_st hx ha
  have e0 : runN (stN x a) (natsOf [0]) = zeroB (stN x a) := zero_B hs
  rw [e0]
  have hz : okN (zeroB (stN x a)) := by rw [← zero_B hs]; exact ok_fwd hs (by decide)
  constructor
  · intro h
    exact turn_only hs (run_inj hz hs (natsOf_lt hb) (h.trans h2.symm))
  · intro h
    have : zeroB (stN x a) = stN x a := by rw [h]; decide +kernel
    rw [this]; exact h2
theorem nats_zeros (k : Nat) : natsOf (List.replicate k 0) = List.replicate k 0 := by
  unfold natsOf; rw [List.map_replicate]; rfl
theorem low_zeros (k : Nat) : ∀ n ∈ List.replicate k (0 : Int), 0 ≤ n ∧ n < 32 := fun n h => by rw [List.eq_of_mem_replicate h]; decide
/-- what stands ahead of a last one leaves nought -/
theorem ahead_zero {x : Str} {a : List Int} (hx : ∀ c ∈ x.cps.toList, c ≤ 126) (ha : ∀ n ∈ a, 0 ≤ n ∧ n < 32) (h1 : polyZ (expandZ x ++ (a ++ [1])) = 1) : stN x a = zeroV := by
  have hab : ∀ n ∈ a ++ [1], 0 ≤ n ∧ n < 32 := fun n h => (List.mem_append.mp h).elim (ha n) (fun h => by rw [List.mem_singleton.mp h]; decide)
  have h2 := (poly_is_one hx hab).mp h1
  rw [st_app] at h2
  have hs := ok_st hx ha
  have h3 : fwdN (stN x a) 1 = oneN := h2
  rw [fwd_at, zero_B hs] at h3
  refine zero_only hs ?_
  have := congrArg (fun v => xorV v oneN) h3
  rw [show ((0, 0, 0, 0, 0, 1) : N6) = oneN from rfl, xorV_assoc, xorV_nil] at this
  exact (xorV_zero _).symm.trans this
theorem many_q {x : Str} {a : List Int} (hx : ∀ c ∈ x.cps.toList, c ≤ 126) (ha : ∀ n ∈ a, 0 ≤ n ∧ n < 32) (h1 : polyZ (expandZ x ++ (a ++ [1])) = 1) (k : Nat) : polyZ (expandZ x ++ (a ++ List.replicate k 0 ++ [1])) = 1 := by
  have hz := ahead_zero hx ha h1
  have hab : ∀ n ∈ a ++ List.replicate k 0 ++ [1], 0 ≤ n ∧ n < 32 := fun n h => (List.mem_append.mp h).elim (fun h => (List.mem_append.mp h).elim (ha n) (low_zeros k n)) (fun h => by rw [List.mem_singleton.mp h]; decide)
  rw [poly_is_one hx hab, st_app, st_app, hz, nats_zeros, run_zeros (by unfold okN zeroV; decide), zero_run]
  show fwdN zeroV 1 = oneN
  rw [fwd_at, zero_B (by unfold okN zeroV; decide)]
  decide +kernel
theorem shift_far : ∀ k : Nat, k < 4 → ∀ e : Nat, e < 32 → e ≠ 0 → eqV (zerosB (k + 1) (0, 0, 0, 0, 0, e)) (0, 0, 0, 0, 0, e) = false := by decide +kernel
theorem many_no {x : Str} {a : List Int} {q : Int} (hx : ∀ c ∈ x.cps.toList, c ≤ 126) (ha : ∀ n ∈ a, 0 ≤ n ∧ n < 32) (hq : 0 ≤ q ∧ q < 32) (q1 : q ≠ 1) (h1 : polyZ (expandZ x ++ (a ++ [q])) = 1) {k : Nat} (hk : 1 ≤ k) (hk4 : k ≤ 4) : polyZ (expandZ x ++ (a ++ List.replicate k 0 ++ [q])) ≠ 1 := by
  have hab : ∀ n ∈ a ++ List.replicate k 0 ++ [q], 0 ≤ n ∧ n < 32 := fun n h => (List.mem_append.mp h).elim (fun h => (List.mem_append.mp h).elim (ha n) (low_zeros k n)) (fun h => by rw [List.mem_singleton.mp h]; exact hq)
  have hab1 : ∀ n ∈ a ++ [q], 0 ≤ n ∧ n < 32 := fun n h => (List.mem_append.mp h).elim (ha n) (fun h => by rw [List.mem_singleton.mp h]; exact hq)
  have h2 := (poly_is_one hx hab1).mp h1
  rw [st_app] at h2
  have hs := ok_st hx ha
  have h3 : fwdN (stN x a) q.toNat = oneN := h2
  rw [fwd_at, zero_B hs] at h3
  have hz : zeroB (stN x a) = (0, 0, 0, 0, 0, 1 ^^^ q.toNat) := by
    have := congrArg (fun v => xorV v (0, 0, 0, 0, 0, q.toNat)) h3
    rw [xorV_assoc, xorV_nil] at this
    have z := xorV_zero (zeroB (stN x a))
    rw [show xorV (zeroB (stN x a)) zeroV = zeroB (stN x a) from z] at this
    rw [this]; unfold xorV oneN; simp only [Nat.xor_self]
  intro h
  rw [poly_is_one hx hab, st_app, st_app, nats_zeros, run_zeros hs] at h
  have h4 : fwdN (zerosB k (stN x a)) q.toNat = oneN := h
  have hk' := ok_zeros hs k
  have hsk : ∀ j (t : N6), zerosB j (zeroB t) = zerosB (j + 1) t := by
    intro j
    induction j with
    | zero => intro t; rfl
    | succ j ih => intro t; show zeroB (zerosB j (zeroB t)) = _; rw [ih]; rfl
  have e1 : zerosB k (zeroB (stN x a)) = zeroB (stN x a) := by
    rw [hsk]
    show zeroB (zerosB k (stN x a)) = _
    rw [fwd_at, zero_B hk'] at h4
    have := congrArg (fun v => xorV v (0, 0, 0, 0, 0, q.toNat)) (h4.trans h3.symm)
    rw [xorV_assoc, xorV_assoc, xorV_nil] at this
    have z : ∀ v, xorV v zeroV = v := xorV_zero
    rwa [z, z] at this
  rw [hz] at e1
  have he : (1 : Nat) ^^^ q.toNat ≠ 0 := by
    intro e
    have : (1 : Nat) ^^^ (1 ^^^ q.toNat) = 1 := by rw [e]; rfl
    rw [← Nat.xor_assoc, Nat.xor_self, Nat.zero_xor] at this
    omega
  have hf := shift_far (k - 1) (by omega) (1 ^^^ q.toNat) (x32 (by decide) (by omega)) he
  rw [show k - 1 + 1 = k by omega, e1, eqV_iff.mpr rfl] at hf
  cases hf
end Mine
end
section
open PySem PySem.W PySem.Calls PyProof.Rows
set_option maxRecDepth 100000
set_option linter.unusedVariables false
namespace Mine
def putZ (ns : List Int) (p : Nat) (v : Int) : List Int := ns.take p ++ [v] ++ ns.drop (p + 1)
theorem put_low {ns : List Int} {p : Nat} {v : Int} (hn : ∀ n ∈ ns, 0 ≤ n ∧ n < 32) (hv : 0 ≤ v ∧ v < 32) : ∀ n ∈ putZ ns p v, 0 ≤ n ∧ n < 32 := fun n h => by
  unfold putZ at h
  simp only [List.mem_append, List.mem_singleton] at h
  rcases h with (h | rfl) | h
  · exact hn n (List.mem_of_mem_take h)
  · exact hv
  · exact hn n (List.mem_of_mem_drop h)
theorem put_len {ns : List Int} {p : Nat} {v : Int} (hp : p < ns.length) : (putZ ns p v).length = ns.length := by
  unfold putZ
  simp only [List.length_append, List.length_take, List.length_drop, List.length_singleton]
  omega
theorem put_put {ns : List Int} {p : Nat} {v u : Int} (hp : p < ns.length) : putZ (putZ ns p v) p u = putZ ns p u := by
  have hl : (ns.take p).length = p := by rw [List.length_take]; omega
  unfold putZ
  have e1 : (ns.take p ++ [v] ++ ns.drop (p + 1)).take p = ns.take p := by
    rw [List.append_assoc, List.take_append_of_le_length (by omega), List.take_of_length_le (by omega)]
  have e2 : (ns.take p ++ [v] ++ ns.drop (p + 1)).drop (p + 1) = ns.drop (p + 1) := by
    rw [List.drop_append_of_le_length (by rw [List.length_append, hl]; exact Nat.le_refl _), List.drop_of_length_le (by rw [List.length_append, hl]; exact Nat.le_refl _), List.nil_append]
  rw [e1, e2]
theorem check_vec {x : Str} {ns : List Int} (hx : ∀ c ∈ x.cps.toList, c ≤ 126) (hn : ∀ n ∈ ns, 0 ≤ n ∧ n < 32) : (checkZ x ns).getD 5 0 = ((sixth (runN (stN x ns) [0, 0, 0, 0, 0, 0]) ^^^ 1 : Nat) : Int) := by
  have hER : ∀ n ∈ expandZ x ++ ns, 0 ≤ n ∧ n < 32 := fun n h => (List.mem_append.mp h).elim (expand_low hx n) (hn n)
  have h6 : ∀ n ∈ expandZ x ++ ns ++ [0, 0, 0, 0, 0, 0], 0 ≤ n ∧ n < 32 := fun n h => (List.mem_append.mp h).elim (hER n) (fun h => (show ∀ n ∈ ([0, 0, 0, 0, 0, 0] : List Int), 0 ≤ n ∧ n < 32 by decide) n h)
  have e1 : polyZ (expandZ x ++ ns ++ [0, 0, 0, 0, 0, 0]) = (packN (runN (stN x ns) [0, 0, 0, 0, 0, 0]) : Int) := by
    rw [← natsOf_cast h6, poly_N (natsOf_lt h6), natsOf_app, run_app]; rfl
  have hok : okN (runN (stN x ns) [0, 0, 0, 0, 0, 0]) := ok_run (ok_st hx hn) (by decide)
  unfold checkZ
  rw [e1]
  have e2 : Builtin.bitXor (packN (runN (stN x ns) [0, 0, 0, 0, 0, 0]) : Int) 1 = (packN (xorV (runN (stN x ns) [0, 0, 0, 0, 0, 0]) oneN) : Int) := by
    rw [← pack_xor hok ok_one, ← bx]; rfl
  rw [e2, dig_N (ok_xor hok ok_one)]
  rfl
theorem sixth_lt {s : N6} (h : okN s) : sixth s < 32 := h.2.2.2.2.2
theorem last_put {x : Str} {ns : List Int} {p : Nat} (hx : ∀ c ∈ x.cps.toList, c ≤ 126) (hn : ∀ n ∈ ns, 0 ≤ n ∧ n < 32) (hp : p < ns.length) (hl : ns.length ≤ 4) :
    ∃ b : Nat, b < 32 ∧ (checkZ x (putZ ns p 0)).getD 5 0 = (b : Int) ∧ ∀ v : Nat, v < 32 → (checkZ x (putZ ns p (v : Int))).getD 5 0 = ((b ^^^ mulB v (kapL (ns.length - 1 - p)) : Nat) : Int) := by
  have hz := put_low (p := p) (v := 0) hn (by decide)
  refine ⟨sixth (runN (stN x (putZ ns p ((0 : Nat) : Int))) [0, 0, 0, 0, 0, 0]) ^^^ 1, x32 (sixth_lt (ok_run (ok_st hx hz) (by decide))) (by decide), check_vec hx hz, fun v hv => ?_⟩
  have hw := put_low (p := p) (v := (v : Int)) hn ⟨by omega, by omega⟩
  have ht : ∀ n ∈ ns.take p, 0 ≤ n ∧ n < 32 := fun n h => hn n (List.mem_of_mem_take h)
  have hdr : ∀ n ∈ ns.drop (p + 1), 0 ≤ n ∧ n < 32 := fun n h => hn n (List.mem_of_mem_drop h)
  have hS := ok_st hx ht
  have e : ∀ u : Nat, u < 32 → runN (stN x (putZ ns p (u : Int))) [0, 0, 0, 0, 0, 0] = runN (fwdN (stN x (ns.take p)) u) (natsOf (ns.drop (p + 1)) ++ [0, 0, 0, 0, 0, 0]) := fun u hu => by
    unfold putZ
    rw [st_app, st_app, run_app]; rfl
  have hz6 : ∀ n ∈ natsOf (ns.drop (p + 1)) ++ [0, 0, 0, 0, 0, 0], n < 32 := fun n h => (List.mem_append.mp h).elim (natsOf_lt hdr n) (fun h => (show ∀ n ∈ ([0, 0, 0, 0, 0, 0] : List Nat), n < 32 by decide) n h)
  have hlen : (natsOf (ns.drop (p + 1)) ++ [0, 0, 0, 0, 0, 0]).length = (ns.length - 1 - p) + 6 := by
    rw [List.length_append]; unfold natsOf; rw [List.length_map, List.length_drop]; show _ + 6 = _; omega
  have h0 := e 0 (by decide)
  have h1 := e v hv
  have hokv : okN ((0, 0, 0, 0, 0, v) : N6) := ⟨Nat.zero_lt_succ _, Nat.zero_lt_succ _, Nat.zero_lt_succ _, Nat.zero_lt_succ _, Nat.zero_lt_succ _, hv⟩
  rw [fwd_at, run_xor (ok_fwd hS (by decide)) hokv hz6, hlen, ← h0] at h1
  rw [check_vec hx hw, h1]
  have e6 : sixth (xorV (runN (stN x (putZ ns p ((0 : Nat) : Int))) [0, 0, 0, 0, 0, 0]) (zerosB (ns.length - 1 - p + 6) (0, 0, 0, 0, 0, v))) = sixth (runN (stN x (putZ ns p ((0 : Nat) : Int))) [0, 0, 0, 0, 0, 0]) ^^^ mulB v (kapL (ns.length - 1 - p)) := by
    rw [← kap_is _ (by omega) v hv]; rfl
  rw [e6, Nat.xor_assoc, Nat.xor_comm (mulB _ _) 1, ← Nat.xor_assoc]
end Mine
end
section
open PySem PySem.W PySem.Calls PyProof.Rows
set_option maxRecDepth 100000
set_option linter.unusedVariables false
namespace Mine
theorem text_size (x : Str) (ns : List Int) : (textOf x ns).cps.size = x.cps.size + 1 + ns.length := text_len x ns
theorem text_last (x : Str) (w : List Int) (q : Int) : Txt.item (textOf x (w ++ [q])) (-1) = signS q := by
  unfold Txt.item
  have e : Txt.charAt (textOf x (w ++ [q])) (-1) = some (signN q) := by
    unfold Txt.charAt
    have hl : (textOf x (w ++ [q])).length = x.cps.size + 1 + (w.length + 1) := by rw [text_len, List.length_append]; rfl
    have e1 : PySem.seqIndex? (-1) (textOf x (w ++ [q])).length = some (x.cps.size + 1 + w.length) := by
      unfold PySem.seqIndex?
      rw [hl]
      simp
      omega
    rw [e1]
    show (textOf x (w ++ [q])).cps[_]? = _
    rw [← Array.getElem?_toList, text_cps, List.getElem?_append_right (by simp; omega)]
    have : x.cps.size + 1 + w.length - x.cps.toList.length = w.length + 1 := by simp; omega
    rw [this, List.getElem?_cons_succ, List.map_append, List.getElem?_append_right (by simp)]
    simp
  rw [e]; rfl
theorem slice_but (x : Str) (h : 1 ≤ x.cps.size) : Txt.slice x none (some (-1)) = Txt.slice x none (some ((x.cps.size - 1 : Nat) : Int)) := by
  unfold Txt.slice
  have : Builtin.Str.strSliceIndices none (some (-1)) 1 x.length = Builtin.Str.strSliceIndices none (some ((x.cps.size - 1 : Nat) : Int)) 1 x.length := by
    unfold Builtin.Str.strSliceIndices
    have hl : x.length = x.cps.size := rfl
    have e1 : max (0 : Int) (min (if (-1 : Int) < 0 then (-1 : Int) + ((x.length : Nat) : Int) else (-1 : Int)) ((x.length : Nat) : Int)) = ((x.cps.size - 1 : Nat) : Int) := by
      rw [if_pos (by decide)]; omega
    have e2 : max (0 : Int) (min (if ((x.cps.size - 1 : Nat) : Int) < 0 then ((x.cps.size - 1 : Nat) : Int) + ((x.length : Nat) : Int) else ((x.cps.size - 1 : Nat) : Int)) ((x.length : Nat) : Int)) = ((x.cps.size - 1 : Nat) : Int) := by
      rw [if_neg (by omega)]; omega
    simp only [show ((1 : Int) > 0) = True from by simp, if_true, e1, e2]
  rw [this]
theorem text_but (x : Str) (v : List Int) (q : Int) : Txt.slice (textOf x (v ++ [q])) none (some (-1)) = textOf x v := by
  have hs : (textOf x (v ++ [q])).cps.size = x.cps.size + 1 + (v.length + 1) := by rw [text_size, List.length_append]; rfl
  rw [slice_but _ (by omega), hs, show x.cps.size + 1 + (v.length + 1) - 1 = x.cps.size + 1 + v.length by omega]
  rw [slice_upto _ _ (by omega)]
  refine Str.ext' ?_
  rw [text_cps]
  show ((x.cps.toList ++ 49 :: (v ++ [q]).map signN).take (x.cps.size + 1 + v.length)).toArray = (x.cps.toList ++ 49 :: v.map signN).toArray
  congr 1
  rw [List.take_append, List.take_of_length_le (by simp; omega)]
  congr 1
  have : x.cps.size + 1 + v.length - x.cps.toList.length = v.length + 1 := by simp; omega
  rw [this, List.take_succ_cons, List.map_append, List.take_append_of_le_length (by simp), List.take_of_length_le (by simp)]
theorem text_upto (x : Str) (W : List Int) (k : Nat) (hk : k ≤ W.length) : Txt.slice (textOf x W) none (some ((x.cps.size : Int) + 1 + (k : Int))) = textOf x (W.take k) := by
  rw [show (x.cps.size : Int) + 1 + (k : Int) = ((x.cps.size + 1 + k : Nat) : Int) by omega, slice_upto _ _ (by rw [text_size]; omega)]
  refine Str.ext' ?_
  rw [text_cps]
  show (((x.cps.toList ++ 49 :: W.map signN).take (x.cps.size + 1 + k)).toArray) = ((x.cps.toList ++ 49 :: (W.take k).map signN).toArray)
  congr 1
  rw [List.take_append, List.take_of_length_le (by simp; omega)]
  congr 1
  have : x.cps.size + 1 + k - x.cps.toList.length = k + 1 := by simp; omega
  rw [this, List.take_succ_cons, List.map_take]
theorem text_from (x : Str) (W : List Int) (k : Nat) (hk : k ≤ W.length) : Txt.slice (textOf x W) (some ((x.cps.size : Int) + 1 + (k : Int))) none = ⟨((W.drop k).map signN).toArray⟩ := by
  rw [show (x.cps.size : Int) + 1 + (k : Int) = ((x.cps.size + 1 + k : Nat) : Int) by omega, slice_from _ _ (by rw [text_size]; omega)]
  refine Str.ext' ?_
  rw [text_cps]
  congr 1
  rw [List.drop_append, List.drop_of_length_le (by simp; omega)]
  have : x.cps.size + 1 + k - x.cps.toList.length = k + 1 := by simp; omega
  rw [this, List.drop_succ_cons, List.map_drop]; rfl
theorem text_join (x : Str) (a b : List Int) : textOf x a ++ ⟨(b.map signN).toArray⟩ = textOf x (a ++ b) := by
  refine Str.ext' ?_
  rw [Str.cps_append]
  simp only [← Array.toList_inj, Array.toList_append, text_cps]
  simp
theorem q_is : PySem.Str.ofString "q" = ⟨(([0] : List Int).map signN).toArray⟩ := by decide +kernel
theorem p_is : PySem.Str.ofString "p" = ⟨(([1] : List Int).map signN).toArray⟩ := by decide +kernel
theorem q_mul {m : Int} (h1 : 1 ≤ m) (h4 : m ≤ 4) : Txt.mul (PySem.Str.ofString "q") m = ⟨((List.replicate m.toNat (0 : Int)).map signN).toArray⟩ := by
  rcases (by omega : m = 1 ∨ m = 2 ∨ m = 3 ∨ m = 4) with rfl | rfl | rfl | rfl <;> decide +kernel
theorem sign_list (q : Int) : signS q = ⟨(([q] : List Int).map signN).toArray⟩ := rfl
theorem many_text {x : Str} {v : List Int} {q m : Int} (h1 : 1 ≤ m) (h4 : m ≤ 4) : Txt.slice (textOf x (v ++ [q])) none (some (-1)) ++ Txt.mul (PySem.Str.ofString "q") m ++ signS q = textOf x (v ++ List.replicate m.toNat 0 ++ [q]) := by
  rw [text_but, q_mul h1 h4, text_join, sign_list, text_join]
theorem p_sign : PySem.Str.ofString "p" = signS 1 := by decide +kernel
theorem sign_p : ∀ n : Nat, n < 32 → n ≠ 1 → signS (n : Int) ≠ PySem.Str.ofString "p" := by decide +kernel
end Mine
end
section
open PySem PySem.W PySem.Calls PyProof.Rows
set_option maxRecDepth 100000
set_option linter.unusedVariables false
namespace Mine
open LCg
/-- enter a def that changes one object of the caller's -/
theorem enterKO {prog : Program} {w : World} {A : Around} {E : Value → Shared → Prop} {s : Shared} {K : Frag} {p : Program} {loose : List Str} {mean : ExcName → Option Value} {mg mb : Str → Option Value} {Q : Value → Shared → Prop}
    {name : Str} {params : Arguments} {body : List Stmt} {scope : Scope} {dV kV doc pm cdv ct oc : Value} {an od : Option Addr} {osl : Array (Option Value)} {f P : Addr} {args : List Value} {binds : List (Str × Value)} {o : Obj}
    (X : K.In s.heap) (T : Top p loose mean mg mb s.heap) (hP : s.heap.get? P = some o) (hroom : A.depth < recursionLimit)
    (ho : K.lookup f = some ⟨oc, od, .func (fnOf name name params body scope dV kV doc pm an cdv ct), osl⟩) (hcd : codeIn K cdv name = true)
    (hbind : BindsTo s (fnOf name name params body scope dV kV doc pm an cdv ct) ⟨args, []⟩ binds) (hloc : ∀ y ∈ binds, scope.names.lookup y.1 = some .local)
    (h : ∀ h₁, Fr (hideAll s.heap [P]) s.heap.objs.size h₁ (fun x => binds.reverse.lookup x) → News (hideAll s.heap [P]) s.heap.objs.size h₁ [(P, o)] →
      wpAny (model prog w) (A.deeper (envOf name scope s.heap.objs.size f cdv)) (execs body (envOf name scope s.heap.objs.size f cdv))
        (fun fl s' => Q (match fl with | .ret v => v | _ => .none) s') (fun _ _ => False) { s with heap := h₁, toks := s.toks + binds.length })
    (hco : scope.isCoroutine = false := by rfl) (hgen : scope.isGenerator = false := by rfl) (hk : scope.kind = .function := by rfl)
    (hcell : ∀ x ∈ scope.names, x.2 ≠ .cell := by decide) :
    wpAny (model prog w) A (call (.ref f) args) Q E s := by
  refine enterK X T hroom ho hcd hbind hloc (fun h₁ F N => ?_) hco hgen hk hcell
  refine h h₁ ⟨F.ns, fun b o e => F.keep b o (of_hideAll _ e), Nat.le_trans (Nat.le_of_eq (hideAll_size _ _)) F.above⟩ fun q hq => ?_
  rw [List.mem_singleton.mp hq]
  exact ⟨F.keep _ _ hP, Nat.ne_of_lt (Heap.lt_size hP), hideAll_none _ (.head _)⟩
theorem hide_sub {h₀ h : Heap} {P : Addr} (hk : ∀ b o, h₀.get? b = some o → h.get? b = some o) (hn : h₀.get? P = none) : ∀ b o, h₀.get? b = some o → (hideAll h [P]).get? b = some o := fun b o e =>
  hideAll_get _ (hk b o e) fun q => by rw [List.mem_singleton.mp q, hn] at e; cases e
theorem newsNone {h₀ h : Heap} {L a : Addr} {o : Obj} {news : List (Addr × Obj)} (N : News h₀ L h news) (hm : (a, o) ∈ news) : h₀.get? a = none := (N _ hm).2.2
theorem newsDiff {h₀ h : Heap} {L a c : Addr} {o oc : Obj} {news : List (Addr × Obj)} (N : News h₀ L h news) (h1 : (a, o) ∈ news) (h2 : (c, oc) ∈ news) (ho : o ≠ oc) : a ≠ c := fun e => by
  have e1 := (N _ h1).1
  have e2 := (N _ h2).1
  rw [e] at e1
  exact ho (Option.some.inj (e1.symm.trans e2))
theorem strsSnoc {ys : List Value} {cs : List Nat} {c : Nat} {x : Str} {t : Tok} (h : StrsAre ys (cs.map chS)) (e : x = chS c) : StrsAre (ys ++ [.str x t]) ((cs ++ [c]).map chS) := by
  subst e
  rw [List.map_append]
  have H : ∀ {vs : List Value} {ss : List Str}, StrsAre vs ss → StrsAre (vs ++ [.str (chS c) t]) (ss ++ [chS c]) := by
    intro vs ss hv
    induction hv with
    | nil => exact .cons _ _ .nil
    | cons _ _ _ ih => exact .cons _ _ ih
  exact H h
/-- one object of the ledger changed by a call -/
theorem backS {h₀ : Heap} {L P : Addr} {m : Str → Option Value} {s : Shared} {news : List (Addr × Obj)} {g : Obj → List (Addr × Obj)} {o o' : Obj} {h' : Heap} (F : Fr h₀ L s.heap m) (N : News h₀ L s.heap news) (U : UpdF P o news g)
    (hk : ∀ b ob, b ≠ P → s.heap.get? b = some ob → h'.get? b = some ob) (ho : h'.get? P = some o') : Fr h₀ L h' m ∧ News h₀ L h' (g o') := by
  obtain ⟨pre, post, rfl, hg, h1, h2⟩ := U.split
  have hm := N (P, o) (List.mem_append_right _ (.head _))
  refine ⟨⟨?_, fun b ob e => hk b ob (fun q => by rw [q, hm.2.2] at e; cases e) (F.keep b ob e), F.above⟩, fun p hp => ?_⟩
  · obtain ⟨oL, es, ep, q, r⟩ := F.ns
    exact ⟨oL, es, ep, hk _ _ (Ne.symm hm.2.1) q, r⟩
  · rw [hg] at hp
    rcases List.mem_append.mp hp with hp | hp
    · have hN := N p (List.mem_append_left _ hp)
      exact ⟨hk _ _ (h1 p hp) hN.1, hN.2⟩
    · rcases List.mem_cons.mp hp with rfl | hp
      · exact ⟨ho, hm.2⟩
      · have hN := N p (List.mem_append_right _ (.tail _ hp))
        exact ⟨hk _ _ (h2 p hp) hN.1, hN.2⟩
theorem backD3 {h₀ : Heap} {L : Addr} {m : Str → Option Value} {s : Shared} {pre : List (Addr × Obj)} {ps ps' : Array Value} {h' : Heap} (F : Fr h₀ L s.heap m) (N : News h₀ L s.heap (pre ++ [(45, tabObj ps)])) (hc : ∀ p ∈ pre, p.1 ≠ (45 : Addr))
    (hk : ∀ b o, b ≠ 45 → s.heap.get? b = some o → h'.get? b = some o) (h46 : h'.get? 45 = some (tabObj ps')) :
    Fr h₀ L h' m ∧ News h₀ L h' (pre ++ [(45, tabObj ps')]) ∧ ∀ l o, (hideAll s.heap [45]).get? l = none → h'.get? l = some o → (∀ qs, o ≠ tabObj qs) → News h₀ L h' ((l, o) :: pre ++ [(45, tabObj ps')]) ∧ (∀ p ∈ pre, p.1 ≠ l) ∧ 45 ≠ l := by
  have hT := N (45, tabObj ps) (List.mem_append_right _ (.head _))
  have hne : ∀ b o, h₀.get? b = some o → b ≠ 45 := fun b o e q => by rw [q, hT.2.2] at e; cases e
  have hL : L ≠ 45 := hT.2.1.symm
  have F' : Fr h₀ L h' m := by
    refine ⟨?_, fun b o e => hk b o (hne b o e) (F.keep b o e), F.above⟩
    obtain ⟨oL, es, ep, q, r⟩ := F.ns
    exact ⟨oL, es, ep, hk _ _ hL q, r⟩
  have hp46 : ∀ p ∈ pre, p.1 ≠ 45 := hc
  have N' : News h₀ L h' (pre ++ [(45, tabObj ps')]) := fun p hp => by
    rcases List.mem_append.mp hp with hp' | hp'
    · have h1 := N p (List.mem_append_left _ hp')
      exact ⟨hk _ _ (hp46 p hp') h1.1, h1.2⟩
    · rw [List.mem_singleton.mp hp']; exact ⟨h46, hT.2⟩
  refine ⟨F', N', fun l o hl ho hco => ?_⟩
  have l46 : 45 ≠ l := fun q => by
    rw [← q, h46] at ho
    exact hco _ (Option.some.inj ho).symm
  have lS : s.heap.get? l = none := by
    cases q : s.heap.get? l with
    | none => rfl
    | some o' =>
      rw [hideAll_get _ q (by simpa using Ne.symm l46)] at hl
      cases hl
  refine ⟨fun p hp => ?_, fun p hp q => ?_, l46⟩
  · rcases List.mem_cons.mp hp with rfl | hp
    · refine ⟨ho, fun q => ?_, ?_⟩
      · obtain ⟨oL, es, ep, q2, r⟩ := F.ns
        have q3 : l = L := q
        rw [q3, q2] at lS; cases lS
      · cases q : h₀.get? l with
        | none => rfl
        | some o' => rw [F.keep _ _ q] at lS; cases lS
    · exact N' p hp
  · have h1 := N p (List.mem_append_left _ hp)
    have h2 := h1.1
    rw [q, lS] at h2; cases h2
end Mine
end
namespace Mine
theorem anew_L3a : True ∧ True := by
  w_top off
  walk1
  all_goals trivial
end Mine
section
open PySem PySem.W PySem.Calls PyProof.Rows
set_option maxRecDepth 100000
set_option linter.unusedVariables false
namespace Mine
open LCg
local macro_rules | `(tactic| walk_at "binaryOp LShift int int") => `(tactic| (refine lshift_int_small (by decide) (by decide) (bits_and25 _) ?_))
local macro_rules | `(tactic| walk_at "stop") => `(tactic| first
  | (with_reducible show wpAny _ _ (exec (Stmt.For _ _ _ _ _) _) _ _ _)
  | (with_reducible show wpAny _ _ (exec (Stmt.Assign _ (Expr.ListComp _ _ _ _) _) _) _ _ _)
  | (with_reducible show wpAny _ _ (exec (Stmt.While _ _ _ _) _) _ _ _)
  | (with_reducible show wpAny _ _ (eval (Expr.ListComp _ _ _ _) _) _ _ _)
  | (with_reducible show wpAny _ _ (eval (Expr.GeneratorExp _ _ _ _) _) _ _ _)
  | (with_reducible show wpAny _ _ (call (Value.builtin "any") _) _ _ _)
  | (with_reducible show wpAny _ _ (call (Value.builtin "all") _) _ _ _)
  | (with_reducible show wpAny _ _ (pyIter _) _ _ _))
local macro_rules | `(tactic| walk_at "S") => `(tactic| repeat' (first
  | (k_unfold; (try dsimp only))
  | ((with_reducible show Frag.In _ _ ∧ _); walk1)
  | (fail_if_success (k_end; skip)); (fail_if_success walk_at "stop"); first | (dsimp only; walk1) | walk1))
local macro_rules | `(tactic| walk_at "S2") => `(tactic| repeat' (first
  | (k_unfold; (try dsimp only))
  | ((with_reducible show Frag.In _ _ ∧ _); walk1)
  | (fail_if_success (k_end; skip)); (fail_if_success walk_at "stop"); (fail_if_success (with_reducible show wpAny _ _ (compareOp _ (Value.ref _) (Value.ref _)) _ _ _)); first | walk1 | (dsimp only; walk1)))
local macro_rules | `(tactic| walk_at "S4") => `(tactic| repeat' (first
  | (k_unfold; (try dsimp only))
  | ((with_reducible show Frag.In _ _ ∧ _); walk1)
  | (fail_if_success (k_end; skip)); (fail_if_success walk_at "stop"); (fail_if_success (with_reducible show wpAny _ _ (execs (Stmt.For _ _ _ _ _ :: _) _) _ _ _)); first | walk1 | (dsimp only; walk1)))
local macro_rules | `(tactic| walk_at "S6") => `(tactic| repeat' (first
  | (k_unfold; (try dsimp only))
  | ((with_reducible show Frag.In _ _ ∧ _); walk1)
  | (fail_if_success (k_end; skip)); (fail_if_success walk_at "stop"); (fail_if_success (with_reducible show wpAny _ _ (execs (Stmt.Assign [Expr.Tuple _ _ _] (Expr.ListComp _ _ _ _) _ :: _) _) _ _ _)); first | walk1 | (dsimp only; walk1)))
local macro_rules | `(tactic| walk_at "one") => `(tactic| exact List.forall_mem_cons.mpr ⟨rfl, List.forall_mem_nil _⟩)
local macro_rules | `(tactic| walk_at "others") => `(tactic| (intro z h1 h2 h3; have h4 := h2 _ (.head _); simp only [kstB, if_neg h1, if_neg h4, h3, Bool.false_eq_true, if_false]))
local macro_rules | `(tactic| walk_at "len") => `(tactic| ((try simp only [List.length_append, List.length_cons, List.length_nil, List.length_map, expandZ_len, checkZ_len, rangeKs_length] at *); omega))
local macro_rules | `(tactic| walk_at "binaryOp Add ref ref") => `(tactic| (k_here; k_dflt (refine' addInts ?F ?N ?l ?b ?i ?j ?z ?_; (case F => k_asm); (case N => k_asm); (case l => walk_at "alist"); (case b => walk_at "alist"); (case i => first | assumption | l_ints); (case j => first | assumption | l_ints); (case z => walk_at "len"); intro D' arr' k' h' F' N' hI' o1'; (try simp only [LCg.Off1, and_true] at o1'))))
local macro_rules | `(tactic| walk_at "room") => `(tactic| (dsimp only [AA]; omega))
local macro_rules | `(tactic| walk_at "top") => `(tactic| exact Top.keeps (by assumption) (Fr.keep (by k_asm)))
local macro_rules | `(tactic| walk_at "alist") => `(tactic| first | (with_reducible assumption) | exact isList_in (by k_asm) (by k_mem) | (refine Heap.IsList.at (h := _) (by assumption) (fun o e => Fr.keep (by k_asm) _ o e)))
local macro_rules | `(tactic| walk_at "call ref") => `(tactic| (k_here; k_dflt (refine' expand_spec ?X ?T ?d ?x ?_; (case X => k_in); (case T => walk_at "top"); (case d => walk_at "room"); (case x => first | assumption | omega); intro l' arr' k' h' tk' hg' hn' ho' hI'; have hb' := backL (by k_asm) (by k_asm) hg' hn' ho'; obtain ⟨F', N', o1'⟩ := hb'; (try simp only [LCg.Off1, and_true] at o1'))))
local macro_rules | `(tactic| walk_at "call ref") => `(tactic| (k_here; k_dflt (refine' poly_spec ?X ?T ?d ?l ?i ?_; (case X => k_in); (case T => walk_at "top"); (case d => walk_at "room"); (case l => walk_at "alist"); (case i => assumption); intro t' h' tk' hg'; have hb' := backI (by k_asm) (by k_asm) hg'; obtain ⟨F', N'⟩ := hb')))
local macro_rules | `(tactic| walk_at "call ref") => `(tactic| (k_here; k_dflt (refine' create_spec ?X ?T ?d ?x ?l ?i ?n ?_; (case X => k_in); (case T => walk_at "top"); (case d => walk_at "room"); (case x => first | assumption | omega); (case l => walk_at "alist"); (case i => assumption); (case n => walk_at "len"); intro l' arr' k' h' tk' hg' hn' ho' hI'; have hb' := backL (by k_asm) (by k_asm) hg' hn' ho'; obtain ⟨F', N', o1'⟩ := hb'; (try simp only [LCg.Off1, and_true] at o1'))))
local macro_rules | `(tactic| walk_at "call ref") => `(tactic| (k_here; k_dflt (refine' verify_spec ?X ?T ?d ?x ?l ?i ?n ?_; (case X => k_in); (case T => walk_at "top"); (case d => walk_at "room"); (case x => first | assumption | omega); (case l => walk_at "alist"); (case i => assumption); (case n => walk_at "len"); intro h' tk' hg'; have hb' := backI (by k_asm) (by k_asm) hg'; obtain ⟨F', N'⟩ := hb')))
local macro_rules | `(tactic| walk_at "slen") => `(tactic| ((try simp only [PySem.Str.length_append, Str.cps_append, len_one, len_one2, PySem.Str.length, Array.size_append, List.size_toArray, List.length_map, List.length_append, checkZ_len] at *); rw [sizeLine_eq]; omega))
local macro_rules | `(tactic| walk_at "binaryOp Add str str") => `(tactic| (k_dflt (refine' PyProof.Rows.add_str ?_ ?z; (case z => walk_at "slen"); intro t' tk')))
local macro_rules | `(tactic| walk_at "subscriptTail Name Name str int") => `(tactic| (k_dflt (refine item_str (x := CH) (fitsSsize_of (N := 9223372036854775808) (by omega) (by omega) (Int.le_refl _)) (by rw [ch_len]; omega) (by rw [ch_len]; omega) ?_; intro _)))
local macro_rules | `(tactic| walk_at "eval Name") => `(tactic| (k_here; (with_reducible show wpAny _ _ (eval (Expr.Name _ _) (genEnv _ _ _ _ _ _)) _ _ _); k_dflt (first
  | (refine nameG_L (by k_asm) (by assumption) ?_)
  | (refine nameG_K (by k_asm) (by k_asm) (by k_asm) (by rfl) (by k_is) ?_)
  | (refine nameG_B (by k_asm) (by k_asm) (by k_asm) (by rfl) (by k_is) (by boot_by_name) (by decide) ?_))))
local macro_rules | `(tactic| walk_at "call builtin:len") => `(tactic| (k_here; (with_reducible show wpAny _ _ (call (Value.builtin "len") [Value.ref _]) _ _ _); k_dflt (refine' PyProof.Rows.len_list ?l ?z ?_; (case l => walk_at "alist"); (case z => walk_at "len"))))


local macro_rules | `(tactic| walk_at "mems") => `(tactic| first | exact List.forall_mem_nil _ | exact List.forall_mem_cons.mpr ⟨by k_mem, by walk_at "mems"⟩)
local macro_rules | `(tactic| walk_at "told") => `(tactic| first | exact List.forall_mem_nil _ | exact List.forall_mem_cons.mpr ⟨rfl, by walk_at "told"⟩)
local macro_rules | `(tactic| walk_at "S3") => `(tactic| repeat' (first
  | (k_unfold; (try dsimp only))
  | ((with_reducible show Frag.In _ _ ∧ _); walk1)
  | (fail_if_success (k_end; skip)); (fail_if_success walk_at "stop"); (fail_if_success (with_reducible show wpAny _ _ (execs (Stmt.If _ _ _ _ :: _) _) _ _ _)); first | walk1 | (dsimp only; walk1)))
local macro_rules | `(tactic| walk_at "clss") => `(tactic| (repeat' (first | exact List.forall_mem_nil _ | refine List.forall_mem_cons.mpr ⟨by rintro ⟨⟩, ?_⟩)))
local macro_rules | `(tactic| walk_at "rds") => `(tactic| first | exact ReadsAll.nil | exact ReadsAll.cons (by walk_at "rd") (by walk_at "rds"))
local macro_rules | `(tactic| walk_at "rd") => `(tactic| first
  | exact Reads.none
  | exact Reads.str _ _
  | exact reads_list_at (News.get (by k_asm) (by k_mem)) rfl rfl (readsInts (by assumption))
  | exact reads_list_at (News.get (by k_asm) (by k_mem)) rfl rfl (by walk_at "rds")
  | exact reads_tuple_at (News.get (by k_asm) (by k_mem)) rfl rfl (by walk_at "rds"))
local macro_rules | `(tactic| walk_at "call ref") => `(tactic| (k_here; k_dflt (refine' encode_spec ?X ?T ?d ?x ?l ?i ?n ?b ?_; (case X => k_in); (case T => walk_at "top"); (case d => walk_at "room"); (case x => first | assumption | omega); (case l => walk_at "alist"); (case i => assumption); (case n => omega); (case b => assumption); intro t' h' tk' hg'; have hb' := backI (by k_asm) (by k_asm) hg'; obtain ⟨F', N'⟩ := hb')))
local macro_rules | `(tactic| walk_at "call builtin:len") => `(tactic| (k_here; (with_reducible show wpAny _ _ (call (Value.builtin "len") [Value.str _ _]) _ _ _); k_dflt (refine PySem.P.len_str (by ((try simp only [PySem.Str.length] at *); omega)) ?_)))
local macro_rules | `(tactic| walk_at "S7") => `(tactic| repeat' (first
  | (k_unfold; (try dsimp only))
  | ((with_reducible show Frag.In _ _ ∧ _); walk1)
  | (fail_if_success (k_end; skip)); (fail_if_success walk_at "stop"); (fail_if_success (with_reducible show wpAny _ _ (execs (Stmt.Assign _ (Expr.BinOp _ _ _ _) _ :: _) _) _ _ _)); first | walk1 | (dsimp only; walk1)))
local macro_rules | `(tactic| walk_at "S8") => `(tactic| repeat' (first
  | (k_unfold; (try dsimp only))
  | ((with_reducible show Frag.In _ _ ∧ _); walk1)
  | (fail_if_success (k_end; skip)); (fail_if_success walk_at "stop"); (fail_if_success (with_reducible show wpAny _ _ (execs (Stmt.Assign [Expr.Name "made" _] (Expr.BinOp _ _ _ _) _ :: _) _) _ _ _)); first | walk1 | (dsimp only; walk1)))
local macro_rules | `(tactic| walk_at "subscriptTail Name Name str int") => `(tactic| (k_dflt (refine item_str (x := signsT _) (fitsSsize_of (N := 9223372036854775808) (by omega) (by omega) (Int.le_refl _)) (by rw [signsT_len]; omega) (by rw [signsT_len]; omega) ?_; intro _)))
local macro_rules | `(tactic| walk_at "subscriptTail Name BinOp str int") => `(tactic| (k_dflt (refine item_str (x := signsT _) (fitsSsize_of (N := 9223372036854775808) (by omega) (by omega) (Int.le_refl _)) (by rw [signsT_len]; omega) (by rw [signsT_len]; omega) ?_; intro _)))
local macro_rules | `(tactic| walk_at "tabs") => `(tactic| (repeat' (first | exact List.forall_mem_nil _ | refine List.forall_mem_cons.mpr ⟨by first | exact listTab | exact notTab (by assumption) | exact (fun _ e => by cases e), ?_⟩)))
local macro_rules | `(tactic| walk_at "S9") => `(tactic| repeat' (first
  | (k_unfold; (try dsimp only))
  | ((with_reducible show Frag.In _ _ ∧ _); walk1)
  | (fail_if_success (k_end; skip)); (fail_if_success walk_at "stop"); (fail_if_success (with_reducible show wpAny _ _ (execs (Stmt.Assign [Expr.Name "told" _] (Expr.BinOp _ _ _ _) _ :: _) _) _ _ _)); first | walk1 | (dsimp only; walk1)))
local macro_rules | `(tactic| walk_at "subscriptTail Name Name ref int") => `(tactic| (k_dflt (refine' int_item ?l ?i ?z ?a ?b ?_; (case l => walk_at "alist"); (case i => with_reducible assumption); (case z => omega); (case a => omega); (case b => omega); intro _)))
local macro_rules | `(tactic| walk_at "subscriptTail Name BinOp ref int") => `(tactic| (k_dflt (refine' int_item ?l ?i ?z ?a ?b ?_; (case l => walk_at "alist"); (case i => with_reducible assumption); (case z => omega); (case a => omega); (case b => omega); intro _)))
local macro_rules | `(tactic| walk_at "subscriptTail Name Slice ref ref") => `(tactic| (k_here; k_dflt (refine' sliceFrom ?F ?N ?l ?i ?z ?a ?_; (case F => k_asm); (case N => k_asm); (case l => walk_at "alist"); (case i => with_reducible assumption); (case z => omega); (case a => omega)); intro D' arr2' h' F' N' l1 hI'))
local macro_rules | `(tactic| walk_at "subscriptTail Name Slice ref ref") => `(tactic| (k_here; k_dflt (refine' sliceTo ?F ?N ?l ?i ?z ?a ?_; (case F => k_asm); (case N => k_asm); (case l => walk_at "alist"); (case i => with_reducible assumption); (case z => omega); (case a => omega)); intro D' arr2' h' F' N' l1 hI'))
local macro_rules | `(tactic| walk_at "S10") => `(tactic| repeat' (first
  | (k_unfold; (try dsimp only))
  | ((with_reducible show Frag.In _ _ ∧ _); walk1)
  | (fail_if_success (k_end; skip)); (fail_if_success walk_at "stop"); (fail_if_success (with_reducible show wpAny _ _ (execs (Stmt.If _ _ _ _ :: _) _) _ _ _)); (fail_if_success (with_reducible show wpAny _ _ (call _ [Value.ref _]) _ _ _)); first | walk1 | (dsimp only; walk1)))
local macro_rules | `(tactic| k_ne) => `(tactic| exact newsNe (by k_asm) (by k_mem) (by k_mem) (by k_asm) (fun _ e => by cases e))
local macro_rules | `(tactic| walk_at "lits") => `(tactic| first | exact IntsAre.nil | (refine IntsAre.cons _ _ ?_; walk_at "lits"))
local macro_rules | `(tactic| k_ne) => `(tactic| (refine neN ?_; (try dsimp only); first | (with_reducible assumption) | exact off1_mem (by k_asm) (_, _) (by k_mem) | exact Ne.symm (off1_mem (by k_asm) (_, _) (by k_mem))))
local macro_rules | `(tactic| walk_at "storeName") => `(tactic| (k_here; (first | (with_reducible show wpAny _ _ (storeName _ (PySem.Str.ofString "upper") _) _ _ _) | (with_reducible show wpAny _ _ (storeName _ (PySem.Str.ofString "lower") _) _ _ _) | (with_reducible show wpAny _ _ (storeName _ (PySem.Str.ofString "turn") _) _ _ _) | (with_reducible show wpAny _ _ (storeName _ (PySem.Str.ofString "told") _) _ _ _)); k_dflt (refine' storeX_C ?F ?N ?c ?U ?d ?_ ?a ?b; (case a => rfl); (case b => rfl); (case F => k_asm); (case N => k_asm); (case c => rfl); (case U => k_updF); (case d => k_asm); k_whole; intro h' o' F' N' d'; (try dsimp only at N'); (try k_sweep))))
local macro_rules | `(tactic| walk_at "S5") => `(tactic| repeat' (first
  | (k_unfold; (try dsimp only))
  | ((with_reducible show Frag.In _ _ ∧ _); walk1)
  | (fail_if_success (k_end; skip)); (fail_if_success walk_at "stop"); (fail_if_success (with_reducible show wpAny _ _ (execs (Stmt.Assign _ (Expr.ListComp _ _ _ _) _ :: _) _) _ _ _)); first | walk1 | (dsimp only; walk1)))
set_option maxHeartbeats 40000000 in
theorem next_spec {w : World} {dp un : Nat} {fr : Option (List Env)} {gd : Option (List Code)} {E : Value → Shared → Prop} {s : Shared} {p : Program} {loose : List Str} {mean : ExcName → Option Value} {mg mb : Str → Option Value} {Q : Value → Shared → Prop}
    {h₀ : Heap} {S sl : Addr} {sarr : Array Value} {ns : List Int} {i r : Int} {t1 t2 tm : Tok} {k : Nat} {many : Int}
    (X : (Mine.hd.heap_39 w.params).In h₀) (T : Top p loose mean mg mb h₀) (hk₀ : ∀ b o, h₀.get? b = some o → s.heap.get? b = some o) (hS₀ : h₀.get? S = none) (hd : dp + 4 < recursionLimit)
    (hS : s.heap.get? S = some (W.listOf #[.ref sl, .int i t1, .int r t2] k)) (hsl : s.heap.IsList sl sarr) (hi : IntsAre sarr.toList ns) (hn : ns.length ≤ 1000) (hne : sl ≠ S) (hi0 : 0 ≤ i) (hr0 : 0 ≤ r) (hm0 : 1 ≤ many) (hm : many ≤ 100)
    (ret : ∀ v t i' r' t1' t2' k' h' tk', 0 ≤ v → v < many → 0 ≤ i' → 0 ≤ r' → (∀ b o, b ≠ S → s.heap.get? b = some o → h'.get? b = some o) → h'.get? S = some (W.listOf #[.ref sl, .int i' t1', .int r' t2'] k') → Q (.int v t) { s with heap := h', toks := tk' }) :
    wpAny (model PySem.Challenge.rw_oo0007_03.row.prog w) (AA dp un fr gd) (call (.ref 55) [.ref S, .int many tm]) Q E s := by
  revert X; k_fill; intro X
  have hsub := hide_sub hk₀ hS₀
  have Xs : Frag.In _ s.heap := fun a o e => hk₀ a o (X a o e)
  refine enterKO (binds := [("state", .ref S), ("many", .int many tm)]) Xs (T.keeps hk₀) hS (by show dp < _; omega) (by k_is) (by k_is) (BindsTo.of_eq rfl) (locs rfl) ?_
  intro h₁ F N
  have Xg : Frag.In _ (hideAll s.heap [S]) := fun a o e => hsub a o (X a o e)
  have Tg := T.keeps hsub
  have hlg : (hideAll s.heap [S]).IsList sl sarr := by
    obtain ⟨o, e, hc, r⟩ := hsl
    exact ⟨o, hideAll_get _ e (by simpa using hne), hc, r⟩
  have hlen := hi.length
  rw [Array.length_toList] at hlen
  clear X T Xs hk₀ hsl
  walk_at "S"
  all_goals (
    refine ret _ _ _ _ _ _ _ _ _ (Int.fmod_nonneg_of_pos _ (by omega)) (Int.fmod_lt_of_pos _ (by omega)) ?_ ?_ (fun b o hb e => Fr.keep (by k_asm) b o (hideAll_get _ e (by simpa using hb))) (News.get (by k_asm) (.head _))
    · first | omega | exact hi0
    · exact Int.fmod_nonneg_of_pos _ (by decide))
set_option maxHeartbeats 40000000 in
theorem put_spec {w : World} {dp un : Nat} {fr : Option (List Env)} {gd : Option (List Code)} {E : Value → Shared → Prop} {s : Shared} {p : Program} {loose : List Str} {mean : ExcName → Option Value} {mg mb : Str → Option Value} {Q : Value → Shared → Prop}
    {l : Addr} {arr : Array Value} {ns : List Int} {pl v : Int} {tp tv : Tok}
    (X : (Mine.hd.heap_39 w.params).In s.heap) (T : Top p loose mean mg mb s.heap) (hd : dp + 4 < recursionLimit)
    (hl : s.heap.IsList l arr) (hi : IntsAre arr.toList ns) (hn : ns.length ≤ 1000) (hp0 : 0 ≤ pl)
    (ret : ∀ l arr k h' tk', Grow s h' → s.heap.get? l = none → h'.get? l = some (W.listOf arr k) → IntsAre arr.toList (putZ ns pl.toNat v) → Q (.ref l) { s with heap := h', toks := tk' }) :
    wpAny (model PySem.Challenge.rw_oo0007_03.row.prog w) (AA dp un fr gd) (call (.ref 62) [.ref l, .int pl tp, .int v tv]) Q E s := by
  revert X; k_fill; intro X
  refine enterK (binds := [("numbers", .ref l), ("place", .int pl tp), ("value", .int v tv)]) X T (by show dp < _; omega) (by k_is) (by k_is) (BindsTo.of_eq rfl) (locs rfl) ?_
  intro h₁ F N
  walk_at "S"
  have e : (pl + 1).toNat = pl.toNat + 1 := by omega
  have hI := (by with_reducible assumption : IntsAre _ (List.take _ ns ++ [v] ++ List.drop _ ns))
  rw [e] at hI
  exact ret _ _ _ _ _ (Fr.keep (by k_asm)) (News.fresh (by k_asm) (.head _)) (News.get (by k_asm) (.head _)) hI
end Mine
end
namespace Mine
theorem anew_L3h : True ∧ True := by
  w_top off
  walk1
  all_goals trivial
end Mine
section
open PySem PySem.W PySem.Calls PyProof.Rows
set_option maxRecDepth 100000
set_option linter.unusedVariables false
namespace Mine
open LCg
local macro_rules | `(tactic| walk_at "binaryOp LShift int int") => `(tactic| (refine lshift_int_small (by decide) (by decide) (bits_and25 _) ?_))
local macro_rules | `(tactic| walk_at "stop") => `(tactic| first
  | (with_reducible show wpAny _ _ (exec (Stmt.For _ _ _ _ _) _) _ _ _)
  | (with_reducible show wpAny _ _ (exec (Stmt.Assign _ (Expr.ListComp _ _ _ _) _) _) _ _ _)
  | (with_reducible show wpAny _ _ (exec (Stmt.While _ _ _ _) _) _ _ _)
  | (with_reducible show wpAny _ _ (eval (Expr.ListComp _ _ _ _) _) _ _ _)
  | (with_reducible show wpAny _ _ (eval (Expr.GeneratorExp _ _ _ _) _) _ _ _)
  | (with_reducible show wpAny _ _ (call (Value.builtin "any") _) _ _ _)
  | (with_reducible show wpAny _ _ (call (Value.builtin "all") _) _ _ _)
  | (with_reducible show wpAny _ _ (pyIter _) _ _ _))
local macro_rules | `(tactic| walk_at "S") => `(tactic| repeat' (first
  | (k_unfold; (try dsimp only))
  | ((with_reducible show Frag.In _ _ ∧ _); walk1)
  | (fail_if_success (k_end; skip)); (fail_if_success walk_at "stop"); first | walk1 | (dsimp only; walk1)))
local macro_rules | `(tactic| walk_at "S2") => `(tactic| repeat' (first
  | (k_unfold; (try dsimp only))
  | ((with_reducible show Frag.In _ _ ∧ _); walk1)
  | (fail_if_success (k_end; skip)); (fail_if_success walk_at "stop"); (fail_if_success (with_reducible show wpAny _ _ (compareOp _ (Value.ref _) (Value.ref _)) _ _ _)); first | walk1 | (dsimp only; walk1)))
local macro_rules | `(tactic| walk_at "S4") => `(tactic| repeat' (first
  | (k_unfold; (try dsimp only))
  | ((with_reducible show Frag.In _ _ ∧ _); walk1)
  | (fail_if_success (k_end; skip)); (fail_if_success walk_at "stop"); (fail_if_success (with_reducible show wpAny _ _ (execs (Stmt.For _ _ _ _ _ :: _) _) _ _ _)); first | walk1 | (dsimp only; walk1)))
local macro_rules | `(tactic| walk_at "S6") => `(tactic| repeat' (first
  | (k_unfold; (try dsimp only))
  | ((with_reducible show Frag.In _ _ ∧ _); walk1)
  | (fail_if_success (k_end; skip)); (fail_if_success walk_at "stop"); (fail_if_success (with_reducible show wpAny _ _ (execs (Stmt.Assign [Expr.Tuple _ _ _] (Expr.ListComp _ _ _ _) _ :: _) _) _ _ _)); first | walk1 | (dsimp only; walk1)))
local macro_rules | `(tactic| walk_at "one") => `(tactic| exact List.forall_mem_cons.mpr ⟨rfl, List.forall_mem_nil _⟩)
local macro_rules | `(tactic| walk_at "others") => `(tactic| (intro z h1 h2 h3; have h4 := h2 _ (.head _); simp only [kstB, if_neg h1, if_neg h4, h3, Bool.false_eq_true, if_false]))
local macro_rules | `(tactic| walk_at "len") => `(tactic| ((try simp only [List.length_append, List.length_cons, List.length_nil, List.length_map, expandZ_len, checkZ_len, rangeKs_length] at *); omega))
local macro_rules | `(tactic| walk_at "binaryOp Add ref ref") => `(tactic| (k_here; k_dflt (refine' addInts ?F ?N ?l ?b ?i ?j ?z ?_; (case F => k_asm); (case N => k_asm); (case l => walk_at "alist"); (case b => walk_at "alist"); (case i => first | assumption | l_ints); (case j => first | assumption | l_ints); (case z => walk_at "len"); intro D' arr' k' h' F' N' hI' o1')))
local macro_rules | `(tactic| walk_at "room") => `(tactic| (dsimp only [AA]; omega))
local macro_rules | `(tactic| walk_at "top") => `(tactic| exact Top.keeps (by assumption) (Fr.keep (by k_asm)))
local macro_rules | `(tactic| walk_at "alist") => `(tactic| first | (with_reducible assumption) | exact isList_in (by k_asm) (by k_mem) | (refine Heap.IsList.at (h := _) (by assumption) (fun o e => Fr.keep (by k_asm) _ o e)))
local macro_rules | `(tactic| walk_at "call ref") => `(tactic| (k_here; k_dflt (refine' expand_spec ?X ?T ?d ?x ?_; (case X => k_in); (case T => walk_at "top"); (case d => walk_at "room"); (case x => first | assumption | omega); intro l' arr' k' h' tk' hg' hn' ho' hI'; have hb' := backL (by k_asm) (by k_asm) hg' hn' ho'; obtain ⟨F', N', o1'⟩ := hb')))
local macro_rules | `(tactic| walk_at "call ref") => `(tactic| (k_here; k_dflt (refine' poly_spec ?X ?T ?d ?l ?i ?_; (case X => k_in); (case T => walk_at "top"); (case d => walk_at "room"); (case l => walk_at "alist"); (case i => assumption); intro t' h' tk' hg'; have hb' := backI (by k_asm) (by k_asm) hg'; obtain ⟨F', N'⟩ := hb')))
local macro_rules | `(tactic| walk_at "call ref") => `(tactic| (k_here; k_dflt (refine' create_spec ?X ?T ?d ?x ?l ?i ?n ?_; (case X => k_in); (case T => walk_at "top"); (case d => walk_at "room"); (case x => first | assumption | omega); (case l => walk_at "alist"); (case i => assumption); (case n => walk_at "len"); intro l' arr' k' h' tk' hg' hn' ho' hI'; have hb' := backL (by k_asm) (by k_asm) hg' hn' ho'; obtain ⟨F', N', o1'⟩ := hb')))
local macro_rules | `(tactic| walk_at "call ref") => `(tactic| (k_here; k_dflt (refine' verify_spec ?X ?T ?d ?x ?l ?i ?n ?_; (case X => k_in); (case T => walk_at "top"); (case d => walk_at "room"); (case x => first | assumption | omega); (case l => walk_at "alist"); (case i => assumption); (case n => walk_at "len"); intro h' tk' hg'; have hb' := backI (by k_asm) (by k_asm) hg'; obtain ⟨F', N'⟩ := hb')))
local macro_rules | `(tactic| walk_at "slen") => `(tactic| ((try simp only [PySem.Str.length_append, Str.cps_append, len_one, len_one2, PySem.Str.length, Array.size_append, List.size_toArray, List.length_map, List.length_append, checkZ_len] at *); rw [sizeLine_eq]; omega))
local macro_rules | `(tactic| walk_at "binaryOp Add str str") => `(tactic| (k_dflt (refine' PyProof.Rows.add_str ?_ ?z; (case z => walk_at "slen"); intro t' tk')))
local macro_rules | `(tactic| walk_at "subscriptTail Name Name str int") => `(tactic| (k_dflt (refine item_str (x := CH) (fitsSsize_of (N := 9223372036854775808) (by omega) (by omega) (Int.le_refl _)) (by rw [ch_len]; omega) (by rw [ch_len]; omega) ?_; intro _)))
local macro_rules | `(tactic| walk_at "eval Name") => `(tactic| (k_here; (with_reducible show wpAny _ _ (eval (Expr.Name _ _) (genEnv _ _ _ _ _ _)) _ _ _); k_dflt (first
  | (refine nameG_L (by k_asm) (by assumption) ?_)
  | (refine nameG_K (by k_asm) (by k_asm) (by k_asm) (by rfl) (by k_is) ?_)
  | (refine nameG_B (by k_asm) (by k_asm) (by k_asm) (by rfl) (by k_is) (by boot_by_name) (by decide) ?_))))
local macro_rules | `(tactic| walk_at "call builtin:len") => `(tactic| (k_here; (with_reducible show wpAny _ _ (call (Value.builtin "len") [Value.ref _]) _ _ _); k_dflt (refine' PyProof.Rows.len_list ?l ?z ?_; (case l => walk_at "alist"); (case z => walk_at "len"))))


local macro_rules | `(tactic| walk_at "mems") => `(tactic| first | exact List.forall_mem_nil _ | exact List.forall_mem_cons.mpr ⟨by k_mem, by walk_at "mems"⟩)
local macro_rules | `(tactic| walk_at "told") => `(tactic| first | exact List.forall_mem_nil _ | exact List.forall_mem_cons.mpr ⟨rfl, by walk_at "told"⟩)
local macro_rules | `(tactic| walk_at "S3") => `(tactic| repeat' (first
  | (k_unfold; (try dsimp only))
  | ((with_reducible show Frag.In _ _ ∧ _); walk1)
  | (fail_if_success (k_end; skip)); (fail_if_success walk_at "stop"); (fail_if_success (with_reducible show wpAny _ _ (execs (Stmt.If _ _ _ _ :: _) _) _ _ _)); first | walk1 | (dsimp only; walk1)))
local macro_rules | `(tactic| walk_at "clss") => `(tactic| (repeat' (first | exact List.forall_mem_nil _ | refine List.forall_mem_cons.mpr ⟨by rintro ⟨⟩, ?_⟩)))
local macro_rules | `(tactic| walk_at "rds") => `(tactic| first | exact ReadsAll.nil | exact ReadsAll.cons (by walk_at "rd") (by walk_at "rds"))
local macro_rules | `(tactic| walk_at "rd") => `(tactic| first
  | exact Reads.none
  | exact Reads.str _ _
  | exact reads_list_at (News.get (by k_asm) (by k_mem)) rfl rfl (readsInts (by assumption))
  | exact reads_list_at (News.get (by k_asm) (by k_mem)) rfl rfl (by walk_at "rds")
  | exact reads_tuple_at (News.get (by k_asm) (by k_mem)) rfl rfl (by walk_at "rds"))
local macro_rules | `(tactic| walk_at "call ref") => `(tactic| (k_here; k_dflt (refine' encode_spec ?X ?T ?d ?x ?l ?i ?n ?b ?_; (case X => k_in); (case T => walk_at "top"); (case d => walk_at "room"); (case x => first | assumption | omega); (case l => walk_at "alist"); (case i => assumption); (case n => omega); (case b => assumption); intro t' h' tk' hg'; have hb' := backI (by k_asm) (by k_asm) hg'; obtain ⟨F', N'⟩ := hb')))
local macro_rules | `(tactic| walk_at "call builtin:len") => `(tactic| (k_here; (with_reducible show wpAny _ _ (call (Value.builtin "len") [Value.str _ _]) _ _ _); k_dflt (refine PySem.P.len_str (by ((try simp only [PySem.Str.length] at *); omega)) ?_)))
local macro_rules | `(tactic| walk_at "S7") => `(tactic| repeat' (first
  | (k_unfold; (try dsimp only))
  | ((with_reducible show Frag.In _ _ ∧ _); walk1)
  | (fail_if_success (k_end; skip)); (fail_if_success walk_at "stop"); (fail_if_success (with_reducible show wpAny _ _ (execs (Stmt.Assign _ (Expr.BinOp _ _ _ _) _ :: _) _) _ _ _)); first | walk1 | (dsimp only; walk1)))
local macro_rules | `(tactic| walk_at "S8") => `(tactic| repeat' (first
  | (k_unfold; (try dsimp only))
  | ((with_reducible show Frag.In _ _ ∧ _); walk1)
  | (fail_if_success (k_end; skip)); (fail_if_success walk_at "stop"); (fail_if_success (with_reducible show wpAny _ _ (execs (Stmt.Assign [Expr.Name "made" _] (Expr.BinOp _ _ _ _) _ :: _) _) _ _ _)); first | walk1 | (dsimp only; walk1)))
local macro_rules | `(tactic| walk_at "subscriptTail Name Name str int") => `(tactic| (k_dflt (refine item_str (x := signsT _) (fitsSsize_of (N := 9223372036854775808) (by omega) (by omega) (Int.le_refl _)) (by rw [signsT_len]; omega) (by rw [signsT_len]; omega) ?_; intro _)))
local macro_rules | `(tactic| walk_at "subscriptTail Name BinOp str int") => `(tactic| (k_dflt (refine item_str (x := signsT _) (fitsSsize_of (N := 9223372036854775808) (by omega) (by omega) (Int.le_refl _)) (by rw [signsT_len]; omega) (by rw [signsT_len]; omega) ?_; intro _)))
local macro_rules | `(tactic| walk_at "tabs") => `(tactic| (repeat' (first | exact List.forall_mem_nil _ | refine List.forall_mem_cons.mpr ⟨by first | exact listTab | exact notTab (by assumption) | exact (fun _ e => by cases e), ?_⟩)))
local macro_rules | `(tactic| walk_at "S9") => `(tactic| repeat' (first
  | (k_unfold; (try dsimp only))
  | ((with_reducible show Frag.In _ _ ∧ _); walk1)
  | (fail_if_success (k_end; skip)); (fail_if_success walk_at "stop"); (fail_if_success (with_reducible show wpAny _ _ (execs (Stmt.Assign [Expr.Name "told" _] (Expr.BinOp _ _ _ _) _ :: _) _) _ _ _)); first | walk1 | (dsimp only; walk1)))
local macro_rules | `(tactic| walk_at "subscriptTail Name Name ref int") => `(tactic| (k_dflt (refine' int_item ?l ?i ?z ?a ?b ?_; (case l => walk_at "alist"); (case i => with_reducible assumption); (case z => omega); (case a => omega); (case b => omega); intro _)))
local macro_rules | `(tactic| walk_at "subscriptTail Name BinOp ref int") => `(tactic| (k_dflt (refine' int_item ?l ?i ?z ?a ?b ?_; (case l => walk_at "alist"); (case i => with_reducible assumption); (case z => omega); (case a => omega); (case b => omega); intro _)))
local macro_rules | `(tactic| walk_at "subscriptTail Name Slice ref ref") => `(tactic| (k_here; k_dflt (refine' sliceFrom ?F ?N ?l ?i ?z ?a ?_; (case F => k_asm); (case N => k_asm); (case l => walk_at "alist"); (case i => with_reducible assumption); (case z => omega); (case a => omega)); intro D' arr2' h' F' N' l1 hI'))
local macro_rules | `(tactic| walk_at "subscriptTail Name Slice ref ref") => `(tactic| (k_here; k_dflt (refine' sliceTo ?F ?N ?l ?i ?z ?a ?_; (case F => k_asm); (case N => k_asm); (case l => walk_at "alist"); (case i => with_reducible assumption); (case z => omega); (case a => omega)); intro D' arr2' h' F' N' l1 hI'))
local macro_rules | `(tactic| walk_at "S10") => `(tactic| repeat' (first
  | (k_unfold; (try dsimp only))
  | ((with_reducible show Frag.In _ _ ∧ _); walk1)
  | (fail_if_success (k_end; skip)); (fail_if_success walk_at "stop"); (fail_if_success (with_reducible show wpAny _ _ (execs (Stmt.If _ _ _ _ :: _) _) _ _ _)); (fail_if_success (with_reducible show wpAny _ _ (call _ [Value.ref _]) _ _ _)); first | walk1 | (dsimp only; walk1)))
local macro_rules | `(tactic| k_ne) => `(tactic| exact newsNe (by k_asm) (by k_mem) (by k_mem) (by k_asm) (fun _ e => by cases e))
local macro_rules | `(tactic| walk_at "lits") => `(tactic| first | exact IntsAre.nil | (refine IntsAre.cons _ _ ?_; walk_at "lits"))
local macro_rules | `(tactic| k_ne) => `(tactic| (refine neN ?_; (try dsimp only); first | (with_reducible assumption) | exact Ne.symm (by with_reducible assumption) | exact off1_mem (by k_asm) (_, _) (by k_mem) | exact Ne.symm (off1_mem (by k_asm) (_, _) (by k_mem))))
local macro_rules | `(tactic| walk_at "storeName") => `(tactic| (k_here; (first | (with_reducible show wpAny _ _ (storeName _ (PySem.Str.ofString "upper") _) _ _ _) | (with_reducible show wpAny _ _ (storeName _ (PySem.Str.ofString "lower") _) _ _ _) | (with_reducible show wpAny _ _ (storeName _ (PySem.Str.ofString "turn") _) _ _ _) | (with_reducible show wpAny _ _ (storeName _ (PySem.Str.ofString "told") _) _ _ _)); k_dflt (refine' storeX_C ?F ?N ?c ?U ?d ?_ ?a ?b; (case a => rfl); (case b => rfl); (case F => k_asm); (case N => k_asm); (case c => rfl); (case U => k_updF); (case d => k_asm); k_whole; intro h' o' F' N' d'; (try dsimp only at N'); (try k_sweep))))
local macro_rules | `(tactic| walk_at "S5") => `(tactic| repeat' (first
  | (k_unfold; (try dsimp only))
  | ((with_reducible show Frag.In _ _ ∧ _); walk1)
  | (fail_if_success (k_end; skip)); (fail_if_success walk_at "stop"); (fail_if_success (with_reducible show wpAny _ _ (execs (Stmt.Assign _ (Expr.ListComp _ _ _ _) _ :: _) _) _ _ _)); first | walk1 | (dsimp only; walk1)))
local macro_rules | `(tactic| walk_at "storeName") => `(tactic| (k_here; (first | (with_reducible show wpAny _ _ (storeName _ (PySem.Str.ofString "state") _) _ _ _) | (with_reducible show wpAny _ _ (storeName _ (PySem.Str.ofString "name") _) _ _ _) | (with_reducible show wpAny _ _ (storeName _ (PySem.Str.ofString "numbers") _) _ _ _) | (with_reducible show wpAny _ _ (storeName _ (PySem.Str.ofString "place") _) _ _ _) | (with_reducible show wpAny _ _ (storeName _ (PySem.Str.ofString "bare") _) _ _ _)); k_dflt (refine' storeX_C ?F ?N ?c ?U ?d ?_ ?a ?b; (case a => rfl); (case b => rfl); (case F => k_asm); (case N => k_asm); (case c => rfl); (case U => k_updF); (case d => k_asm); k_whole; intro h' o' F' N' d'; (try dsimp only at N'); (try k_sweep))))
local macro_rules | `(tactic| walk_at "call ref") => `(tactic| (k_here; k_dflt (refine' next_spec ?k0 ?k1 ?k2 ?k3 ?k4 ?k5 ?k6 ?k7 ?k8 ?k9 ?kA ?kB ?kC ?kD ?_; (case k2 => exact Fr.keep (by k_asm)); (case k0 => with_reducible assumption); (case k1 => with_reducible assumption); (case k3 => exact newsNone (by k_asm) (by k_mem)); (case k4 => walk_at "room"); (case k5 => exact News.get (by k_asm) (by k_mem)); (case k6 => walk_at "alist"); (case k7 => with_reducible assumption); (case k8 => omega); (case k9 => with_reducible assumption); (case kA => with_reducible assumption); (case kB => with_reducible assumption); (case kC => omega); (case kD => omega); intro v' t' i' r' t1' t2' k' h' tk' hv0' hv1' hi0' hr0' hk' hS'; have hb' := backS (by k_asm) (by k_asm) (by k_updF) hk' hS'; obtain ⟨F', N'⟩ := hb'; clear hk' hS'; (try dsimp only at N'); (try k_sweep))))
local macro_rules | `(tactic| walk_at "call ref") => `(tactic| (k_here; k_dflt (refine' put_spec ?X ?T ?d ?l ?i ?n ?p ?_; (case X => k_in); (case T => walk_at "top"); (case d => walk_at "room"); (case l => walk_at "alist"); (case i => with_reducible assumption); (case n => omega); (case p => omega); intro l' arr' k' h' tk' hg' hn' ho' hI'; have hb' := backL (by k_asm) (by k_asm) hg' hn' ho'; obtain ⟨F', N', o1'⟩ := hb')))
local macro_rules | `(tactic| walk_at "subscriptTail Call Constant ref int") => `(tactic| (k_dflt (refine' int_item ?l ?i ?z ?a ?b ?_; (case l => walk_at "alist"); (case i => with_reducible assumption); (case z => walk_at "len"); (case a => omega); (case b => walk_at "len"); intro _)))
local macro_rules | `(tactic| walk_at "subscriptTail List Name ref int") => `(tactic| (k_dflt (refine' int_item ?l ?i ?z ?a ?b ?_; (case l => walk_at "alist"); (case i => walk_at "lits"); (case z => decide); (case a => omega); (case b => (simp only [List.length_cons, List.length_nil]; omega)); intro _)))
local macro_rules | `(tactic| walk_at "S12") => `(tactic| repeat' (first
  | (k_unfold; (try dsimp only))
  | ((with_reducible show Frag.In _ _ ∧ _); walk1)
  | (fail_if_success (k_end; skip)); (fail_if_success walk_at "stop"); (fail_if_success (with_reducible show wpAny _ _ (execs (Stmt.Assign [Expr.Name "bare" _] _ _ :: _) _) _ _ _)); first | walk1 | (dsimp only; walk1)))
local macro_rules | `(tactic| walk_at "S13") => `(tactic| repeat' (first
  | (k_unfold; (try dsimp only))
  | ((with_reducible show Frag.In _ _ ∧ _); walk1)
  | (fail_if_success (k_end; skip)); (fail_if_success walk_at "stop"); (fail_if_success (with_reducible show wpAny _ _ (execs (Stmt.Assign [Expr.Name "fits" _] _ _ :: _) _) _ _ _)); first | walk1 | (dsimp only; walk1)))
local macro_rules | `(tactic| walk_at "binaryOp FloorDiv int int") => `(tactic| (k_here; k_dflt (refine floordiv_int (by with_reducible assumption) ?_ (Or.inl (PyProof.noPylong_small (by with_reducible assumption))))))
local macro_rules | `(tactic| walk_at "adrs") => `(tactic| (repeat' (first | exact List.forall_mem_nil _ | refine List.forall_mem_cons.mpr ⟨by first | exact newsDiff (by k_asm) (by k_mem) (by k_mem) (listTab _) | exact newsDiff (by k_asm) (by k_mem) (by k_mem) (notTab (by k_asm) _) | exact Ne.symm (off1_mem (by k_asm) (_, _) (by k_mem)), ?_⟩)))
theorem neSame {prog : Program} {w : World} {A : Around} {E : Value → Shared → Prop} {s : Shared} {a b : Value} {as bs : List Addr} {d : PyData} {Q : Value → Shared → Prop} (ra : Reads s.heap a d as) (rb : Reads s.heap b d bs) (hs : SeqAt.shaped d = true) (he : PyData.eqv d d = true) (hu : A.units + 64 < cLine) (h : Q (.bool false) s) :
    wpAny (model prog w) A (compareOp .NotEq a b) Q E s := ne_dataH ra rb hs hs hu (by rw [he]; exact h)
theorem callArg {M : Model} {A : Around} {f : Addr} {a b : Str} {t : Tok} {Q E : Value → Shared → Prop} {s : Shared} (e : a = b) (h : wpAny M A (call (.ref f) [.str b t]) Q E s) : wpAny M A (call (.ref f) [.str a t]) Q E s := e ▸ h

theorem getLast_one {x : Str} {ms : List Int} (h : (checkZ x ms).getD 5 0 = q) : ∃ w, ms ++ checkZ x ms = w ++ [q] ∧ w = ms ++ (checkZ x ms).take 5 := by
  have hl := checkZ_len x ms
  generalize checkZ x ms = cz at *
  match cz, hl with
  | [a, b, c, d, e, f], _ =>
    obtain rfl : f = q := h
    exact ⟨ms ++ [a, b, c, d, e], by simp, rfl⟩

theorem eqSame {prog : Program} {w : World} {A : Around} {E : Value → Shared → Prop} {s : Shared} {a b : Value} {as bs : List Addr} {d : PyData} {Q : Value → Shared → Prop} (ra : Reads s.heap a d as) (rb : Reads s.heap b d bs) (hs : SeqAt.shaped d = true) (he : PyData.eqv d d = true) (hu : A.units + 64 < cLine) (h : Q (.bool true) s) :
    wpAny (model prog w) A (compareOp .Eq a b) Q E s := eq_dataH ra rb hs hs hu (by rw [he]; exact h)
/-- what the fits have shown -/
structure Fits (x : Str) (ns : List Int) (pl b f : Nat) : Prop where
  n0 : pl < ns.length
  n4 : ns.length ≤ 4
  nb : ∀ n ∈ ns, 0 ≤ n ∧ n < 32
  lf : f < 32
  bf : b ^^^ mulB f (kapL (ns.length - 1 - pl)) = 1
  lb : b < 32
  bv : ∀ v : Nat, v < 32 → (checkZ x (putZ ns pl (v : Int))).getD 5 0 = ((b ^^^ mulB v (kapL (ns.length - 1 - pl)) : Nat) : Int)
set_option maxHeartbeats 40000000 in
theorem partG {w : World} {dp un : Nat} {fr : Option (List Env)} {gd : Option (List Code)} {s : Shared} {p : Program} {loose : List Str} {mean : ExcName → Option Value} {mg mb : Str → Option Value} {Q : Value → Shared → Prop}
    {h₀ h : Heap} {L tk : Nat} {u : Str → Option Value} {name : Str} {body : List Stmt} {scope : Scope} {cdv : Value}
    (ho : FnAt (Mine.hd.heap_39 w.params) 67 name body scope cdv)
    (X : (Mine.hd.heap_39 w.params).In h₀) (T : Top p loose mean mg mb h₀) (C : CodeHd h₀ 47 45) (hG : AllBare s.gens) (hd : dp + 40 < recursionLimit) (hu : un + 1000 < cLine)
    {ML FL : Addr} {ma fa : Array Value} {mk fk pl f b : Nat} {x : Str} {tx tp tm tt : Tok} {ns : List Int} {many turn : Int} {o2 o3 o4 : Obj} {ps : Array Value}
    (hx : NameIs x x.length) (hx0 : 1 ≤ x.length) (hx2 : x.length ≤ 2) (hI : IntsAre ma.toList (putZ ns pl (f : Int))) (hfi : IntsAre fa.toList [(f : Int)]) (ht : TriplesOk ps.toList)
    (hF : Fits x ns pl b f)
    (hm1 : 1 ≤ many) (hm4 : many ≤ 4) (ht1 : 1 ≤ turn) (ht2 : turn < 32)
    (d2 : o2.data = .cell (some (.int (pl : Int) tp))) (d3 : o3.data = .cell (some (.ref ML))) (d4 : o4.data = .cell (some (.str x tx)))
    (F : Fr h₀ L h (kstB u [("many", .int many tm), ("turn", .int turn tt), ("fits", .ref FL)]))
    (N : News h₀ L h [(ML, PySem.W.listOf ma mk), (FL, PySem.W.listOf fa fk), (L + 1 + 1 + 1 + 1, o2), (L + 1 + 1 + 1, o3), (L + 1 + 1, o4), (45, tabObj ps)])
    (ret : ∀ s' ps, s'.os = s.os → AllBare s'.gens → (∀ b o, h₀.get? b = some o → s'.heap.get? b = some o) → s'.heap.get? 45 = some (tabObj ps) → Q (.bool true) s') :
    wpAny (model PySem.Challenge.rw_oo0007_03.row.prog w) ((AA dp un fr gd).deeper (envOfC name scope L 67 cdv)) (execs (body.drop 14) (envOfC name scope L 67 cdv))
        (fun fl s' => Q (match fl with | .ret v => v | _ => .none) s') (fun _ _ => False) { s with heap := h, toks := tk } := by
  revert ho X; k_fill; intro ho X
  obtain ⟨rfl, rfl, rfl, rfl⟩ := ho.inj (.mk (by k_is))
  clear ho
  simp only [List.drop]
  obtain ⟨hn0, hn4, hnb, hf, hbf, hb, hbv⟩ := hF
  have hxl : x.length = x.cps.size := rfl
  have hxb : ∀ c ∈ x.cps.toList, c ≤ 126 := fun c hc => (hx.signs c (by simpa using hc)).2.1
  obtain ⟨tn, rfl⟩ := Int.eq_ofNat_of_zero_le (show 0 ≤ turn by omega)
  have hft : Builtin.bitXor ([(f : Int)].getD (Int.toNat 0) 0) (tn : Int) = ((f ^^^ tn : Nat) : Int) := bx f tn
  have hg : f ^^^ tn < 32 := x32 hf (by omega)
  have hpl : (putZ ns pl (f : Int)).length = ns.length := put_len hn0
  have hfl1 : ([(f : Int)] : List Int).length = 1 := rfl
  have kI : IntsAre ma.toList (putZ ns pl (f : Int)) ∧ IntsAre fa.toList [(f : Int)] := ⟨hI, hfi⟩
  walk_at "S"
  rename IntsAre _ (putZ _ _ _) => hM
  have hput : putZ (putZ ns pl (f : Int)) ((pl : Int).toNat) (Builtin.bitXor ([(f : Int)].getD (Int.toNat 0) 0) (tn : Int)) = putZ ns pl ((f ^^^ tn : Nat) : Int) := by rw [hft]; exact put_put hn0
  rw [hput] at hM
  have hmb0 : ∀ n ∈ putZ ns pl ((f ^^^ tn : Nat) : Int), 0 ≤ n ∧ n < 32 := put_low hnb ⟨by omega, by omega⟩
  have hml0 : (putZ ns pl ((f ^^^ tn : Nat) : Int)).length = ns.length := put_len hn0
  have hq := hbv (f ^^^ tn) hg
  have hq1 : b ^^^ mulB (f ^^^ tn) (kapL (ns.length - 1 - pl)) ≠ 1 := fun e => by
    rw [kap_xor _ (by omega) f hf tn (by omega), ← Nat.xor_assoc, hbf] at e
    have e2 : mulB tn (kapL (ns.length - 1 - pl)) = 0 := by
      have := congrArg (fun z => 1 ^^^ z) e
      simp only [← Nat.xor_assoc, Nat.xor_self, Nat.zero_xor] at this
      exact this
    exact kap_some _ (by omega) tn (by omega) (by omega) e2
  have hq32 : b ^^^ mulB (f ^^^ tn) (kapL (ns.length - 1 - pl)) < 32 := x32 hb (mulB_lt _ _)
  generalize putZ ns pl ((f ^^^ tn : Nat) : Int) = m2 at *
  generalize b ^^^ mulB (f ^^^ tn) (kapL (ns.length - 1 - pl)) = q at *
  have hok := check_N hxb hmb0
  have hcz := checkZ_len x m2
  obtain ⟨w2, hw, _⟩ := getLast_one hq
  have hWb : ∀ n ∈ m2 ++ checkZ x m2, 0 ≤ n ∧ n < 32 := fun n hm => (List.mem_append.mp hm).elim (hmb0 n) (checkZ_bound x m2 n)
  have hWl : (m2 ++ checkZ x m2).length = m2.length + 6 := by rw [List.length_append, hcz]
  have hwl : w2.length + 1 = (m2 ++ checkZ x m2).length := by rw [hw, List.length_append]; rfl
  have hwb : ∀ n ∈ w2, 0 ≤ n ∧ n < 32 := fun n h => hWb n (by rw [hw]; exact List.mem_append_left _ h)
  have hitem : Txt.item (textOf x (m2 ++ checkZ x m2)) (-1) = signS (q : Int) := by rw [hw, text_last]
  have hmt : Txt.slice (textOf x (m2 ++ checkZ x m2)) none (some (-1)) ++ Txt.mul (PySem.Str.ofString "q") many ++ Txt.item (textOf x (m2 ++ checkZ x m2)) (-1) = textOf x (w2 ++ List.replicate many.toNat 0 ++ [(q : Int)]) := by rw [hitem, hw]; exact many_text hm1 hm4
  have hno := many_no hxb hwb (q := (q : Int)) ⟨by omega, by omega⟩ (by omega) (by rw [← hw]; exact hok) (k := many.toNat) (by omega) (by omega)
  have hZb : ∀ n ∈ w2 ++ List.replicate many.toNat 0 ++ [(q : Int)], 0 ≤ n ∧ n < 32 := fun n h => (List.mem_append.mp h).elim (fun h => (List.mem_append.mp h).elim (hwb n) (low_zeros _ n)) (fun h => by rw [List.mem_singleton.mp h]; exact ⟨by omega, by omega⟩)
  have hZl : (w2 ++ List.replicate many.toNat 0 ++ [(q : Int)]).length = w2.length + many.toNat + 1 := by rw [List.length_append, List.length_append, List.length_replicate]; rfl
  have htl := text_len x (m2 ++ checkZ x m2)
  rename Off1 _ _ => hoff
  have kM := And.intro hM trivial
  clear hput hft
  walk_at "S"
  rotate_left
  · exfalso
    rename (_ != _) = false => hx1
    rw [hitem] at hx1
    exact sign_p q hq32 hq1 (by simpa using hx1)
  refine callArg hmt ?_
  rename Fr _ _ _ _ => F5
  rename News _ _ _ _ => N5
  have N6 : News h₀ L _ [(ML, PySem.W.listOf ma mk), (45, tabObj ps)] := news_sub N5 (by walk_at "mems")
  clear N5
  refine decode_spec (ps := ps) (by k_in) (by walk_at "top") (CodeHd.keeps C (Fr.keep F5)) (News.get N6 (by k_mem)) ht hG (by walk_at "room") (by omega) (by omega) (fun c hc => hx.signs c (by simpa using hc)) (by omega) (by omega) hZb (fun e => absurd e hno) ?_
  intro _ m k5 s5 ps5 hos5 hG5 hk5 h465 ht5 hl5 ho5
  obtain ⟨F2, N2, B2⟩ := backD2 (pre := [(ML, PySem.W.listOf ma mk)]) F5 N6 (by walk_at "tabs") hk5 h465
  have N2 := (B2 m _ hl5 ho5 (fun _ e => by cases e)).1
  clear N6 F5 B2 hk5 h465
  simp only [List.cons_append, List.nil_append] at N2
  walk_at "S2"
  refine eqSame (d := noD) (by walk_at "rd") (by walk_at "rd") (shaped_one ⟨noD_lay.1, by decide⟩) eqv_no (by first | ke_room | (show un + _ < _; omega)) ?_
  walk_at "S"
  all_goals exact ret _ ps5 hos5 hG5 (Fr.keep (by k_asm)) (News.get (by k_asm) (by k_mem))
end Mine
end
namespace Mine
theorem anew_L3g : True ∧ True := by
  w_top off
  walk1
  all_goals trivial
end Mine
section
open PySem PySem.W PySem.Calls PyProof.Rows
set_option maxRecDepth 100000
set_option linter.unusedVariables false
namespace Mine
open LCg
local macro_rules | `(tactic| walk_at "binaryOp LShift int int") => `(tactic| (refine lshift_int_small (by decide) (by decide) (bits_and25 _) ?_))
local macro_rules | `(tactic| walk_at "stop") => `(tactic| first
  | (with_reducible show wpAny _ _ (exec (Stmt.For _ _ _ _ _) _) _ _ _)
  | (with_reducible show wpAny _ _ (exec (Stmt.Assign _ (Expr.ListComp _ _ _ _) _) _) _ _ _)
  | (with_reducible show wpAny _ _ (exec (Stmt.While _ _ _ _) _) _ _ _)
  | (with_reducible show wpAny _ _ (eval (Expr.ListComp _ _ _ _) _) _ _ _)
  | (with_reducible show wpAny _ _ (eval (Expr.GeneratorExp _ _ _ _) _) _ _ _)
  | (with_reducible show wpAny _ _ (call (Value.builtin "any") _) _ _ _)
  | (with_reducible show wpAny _ _ (call (Value.builtin "all") _) _ _ _)
  | (with_reducible show wpAny _ _ (pyIter _) _ _ _))
local macro_rules | `(tactic| walk_at "S") => `(tactic| repeat' (first
  | (k_unfold; (try dsimp only))
  | ((with_reducible show Frag.In _ _ ∧ _); walk1)
  | (fail_if_success (k_end; skip)); (fail_if_success walk_at "stop"); first | walk1 | (dsimp only; walk1)))
local macro_rules | `(tactic| walk_at "S2") => `(tactic| repeat' (first
  | (k_unfold; (try dsimp only))
  | ((with_reducible show Frag.In _ _ ∧ _); walk1)
  | (fail_if_success (k_end; skip)); (fail_if_success walk_at "stop"); (fail_if_success (with_reducible show wpAny _ _ (compareOp _ (Value.ref _) (Value.ref _)) _ _ _)); first | walk1 | (dsimp only; walk1)))
local macro_rules | `(tactic| walk_at "S4") => `(tactic| repeat' (first
  | (k_unfold; (try dsimp only))
  | ((with_reducible show Frag.In _ _ ∧ _); walk1)
  | (fail_if_success (k_end; skip)); (fail_if_success walk_at "stop"); (fail_if_success (with_reducible show wpAny _ _ (execs (Stmt.For _ _ _ _ _ :: _) _) _ _ _)); first | walk1 | (dsimp only; walk1)))
local macro_rules | `(tactic| walk_at "S6") => `(tactic| repeat' (first
  | (k_unfold; (try dsimp only))
  | ((with_reducible show Frag.In _ _ ∧ _); walk1)
  | (fail_if_success (k_end; skip)); (fail_if_success walk_at "stop"); (fail_if_success (with_reducible show wpAny _ _ (execs (Stmt.Assign [Expr.Tuple _ _ _] (Expr.ListComp _ _ _ _) _ :: _) _) _ _ _)); first | walk1 | (dsimp only; walk1)))
local macro_rules | `(tactic| walk_at "one") => `(tactic| exact List.forall_mem_cons.mpr ⟨rfl, List.forall_mem_nil _⟩)
local macro_rules | `(tactic| walk_at "others") => `(tactic| (intro z h1 h2 h3; have h4 := h2 _ (.head _); simp only [kstB, if_neg h1, if_neg h4, h3, Bool.false_eq_true, if_false]))
local macro_rules | `(tactic| walk_at "len") => `(tactic| ((try simp only [List.length_append, List.length_cons, List.length_nil, List.length_map, expandZ_len, checkZ_len, rangeKs_length] at *); omega))
local macro_rules | `(tactic| walk_at "binaryOp Add ref ref") => `(tactic| (k_here; k_dflt (refine' addInts ?F ?N ?l ?b ?i ?j ?z ?_; (case F => k_asm); (case N => k_asm); (case l => walk_at "alist"); (case b => walk_at "alist"); (case i => first | assumption | l_ints); (case j => first | assumption | l_ints); (case z => walk_at "len"); intro D' arr' k' h' F' N' hI' o1')))
local macro_rules | `(tactic| walk_at "room") => `(tactic| (dsimp only [AA]; omega))
local macro_rules | `(tactic| walk_at "top") => `(tactic| exact Top.keeps (by assumption) (Fr.keep (by k_asm)))
local macro_rules | `(tactic| walk_at "alist") => `(tactic| first | (with_reducible assumption) | exact isList_in (by k_asm) (by k_mem) | (refine Heap.IsList.at (h := _) (by assumption) (fun o e => Fr.keep (by k_asm) _ o e)))
local macro_rules | `(tactic| walk_at "call ref") => `(tactic| (k_here; k_dflt (refine' expand_spec ?X ?T ?d ?x ?_; (case X => k_in); (case T => walk_at "top"); (case d => walk_at "room"); (case x => first | assumption | omega); intro l' arr' k' h' tk' hg' hn' ho' hI'; have hb' := backL (by k_asm) (by k_asm) hg' hn' ho'; obtain ⟨F', N', o1'⟩ := hb')))
local macro_rules | `(tactic| walk_at "call ref") => `(tactic| (k_here; k_dflt (refine' poly_spec ?X ?T ?d ?l ?i ?_; (case X => k_in); (case T => walk_at "top"); (case d => walk_at "room"); (case l => walk_at "alist"); (case i => assumption); intro t' h' tk' hg'; have hb' := backI (by k_asm) (by k_asm) hg'; obtain ⟨F', N'⟩ := hb')))
local macro_rules | `(tactic| walk_at "call ref") => `(tactic| (k_here; k_dflt (refine' create_spec ?X ?T ?d ?x ?l ?i ?n ?_; (case X => k_in); (case T => walk_at "top"); (case d => walk_at "room"); (case x => first | assumption | omega); (case l => walk_at "alist"); (case i => assumption); (case n => walk_at "len"); intro l' arr' k' h' tk' hg' hn' ho' hI'; have hb' := backL (by k_asm) (by k_asm) hg' hn' ho'; obtain ⟨F', N', o1'⟩ := hb')))
local macro_rules | `(tactic| walk_at "call ref") => `(tactic| (k_here; k_dflt (refine' verify_spec ?X ?T ?d ?x ?l ?i ?n ?_; (case X => k_in); (case T => walk_at "top"); (case d => walk_at "room"); (case x => first | assumption | omega); (case l => walk_at "alist"); (case i => assumption); (case n => walk_at "len"); intro h' tk' hg'; have hb' := backI (by k_asm) (by k_asm) hg'; obtain ⟨F', N'⟩ := hb')))
local macro_rules | `(tactic| walk_at "slen") => `(tactic| ((try simp only [PySem.Str.length_append, Str.cps_append, len_one, len_one2, PySem.Str.length, Array.size_append, List.size_toArray, List.length_map, List.length_append, checkZ_len] at *); rw [sizeLine_eq]; omega))
local macro_rules | `(tactic| walk_at "binaryOp Add str str") => `(tactic| (k_dflt (refine' PyProof.Rows.add_str ?_ ?z; (case z => walk_at "slen"); intro t' tk')))
local macro_rules | `(tactic| walk_at "subscriptTail Name Name str int") => `(tactic| (k_dflt (refine item_str (x := CH) (fitsSsize_of (N := 9223372036854775808) (by omega) (by omega) (Int.le_refl _)) (by rw [ch_len]; omega) (by rw [ch_len]; omega) ?_; intro _)))
local macro_rules | `(tactic| walk_at "eval Name") => `(tactic| (k_here; (with_reducible show wpAny _ _ (eval (Expr.Name _ _) (genEnv _ _ _ _ _ _)) _ _ _); k_dflt (first
  | (refine nameG_L (by k_asm) (by assumption) ?_)
  | (refine nameG_K (by k_asm) (by k_asm) (by k_asm) (by rfl) (by k_is) ?_)
  | (refine nameG_B (by k_asm) (by k_asm) (by k_asm) (by rfl) (by k_is) (by boot_by_name) (by decide) ?_))))
local macro_rules | `(tactic| walk_at "call builtin:len") => `(tactic| (k_here; (with_reducible show wpAny _ _ (call (Value.builtin "len") [Value.ref _]) _ _ _); k_dflt (refine' PyProof.Rows.len_list ?l ?z ?_; (case l => walk_at "alist"); (case z => walk_at "len"))))


local macro_rules | `(tactic| walk_at "mems") => `(tactic| first | exact List.forall_mem_nil _ | exact List.forall_mem_cons.mpr ⟨by k_mem, by walk_at "mems"⟩)
local macro_rules | `(tactic| walk_at "told") => `(tactic| first | exact List.forall_mem_nil _ | exact List.forall_mem_cons.mpr ⟨rfl, by walk_at "told"⟩)
local macro_rules | `(tactic| walk_at "S3") => `(tactic| repeat' (first
  | (k_unfold; (try dsimp only))
  | ((with_reducible show Frag.In _ _ ∧ _); walk1)
  | (fail_if_success (k_end; skip)); (fail_if_success walk_at "stop"); (fail_if_success (with_reducible show wpAny _ _ (execs (Stmt.If _ _ _ _ :: _) _) _ _ _)); first | walk1 | (dsimp only; walk1)))
local macro_rules | `(tactic| walk_at "clss") => `(tactic| (repeat' (first | exact List.forall_mem_nil _ | refine List.forall_mem_cons.mpr ⟨by rintro ⟨⟩, ?_⟩)))
local macro_rules | `(tactic| walk_at "rds") => `(tactic| first | exact ReadsAll.nil | exact ReadsAll.cons (by walk_at "rd") (by walk_at "rds"))
local macro_rules | `(tactic| walk_at "rd") => `(tactic| first
  | exact Reads.none
  | exact Reads.str _ _
  | exact reads_list_at (News.get (by k_asm) (by k_mem)) rfl rfl (readsInts (by assumption))
  | exact reads_list_at (News.get (by k_asm) (by k_mem)) rfl rfl (by walk_at "rds")
  | exact reads_tuple_at (News.get (by k_asm) (by k_mem)) rfl rfl (by walk_at "rds"))
local macro_rules | `(tactic| walk_at "call ref") => `(tactic| (k_here; k_dflt (refine' encode_spec ?X ?T ?d ?x ?l ?i ?n ?b ?_; (case X => k_in); (case T => walk_at "top"); (case d => walk_at "room"); (case x => first | assumption | omega); (case l => walk_at "alist"); (case i => assumption); (case n => omega); (case b => assumption); intro t' h' tk' hg'; have hb' := backI (by k_asm) (by k_asm) hg'; obtain ⟨F', N'⟩ := hb')))
local macro_rules | `(tactic| walk_at "call builtin:len") => `(tactic| (k_here; (with_reducible show wpAny _ _ (call (Value.builtin "len") [Value.str _ _]) _ _ _); k_dflt (refine PySem.P.len_str (by ((try simp only [PySem.Str.length] at *); omega)) ?_)))
local macro_rules | `(tactic| walk_at "S7") => `(tactic| repeat' (first
  | (k_unfold; (try dsimp only))
  | ((with_reducible show Frag.In _ _ ∧ _); walk1)
  | (fail_if_success (k_end; skip)); (fail_if_success walk_at "stop"); (fail_if_success (with_reducible show wpAny _ _ (execs (Stmt.Assign _ (Expr.BinOp _ _ _ _) _ :: _) _) _ _ _)); first | walk1 | (dsimp only; walk1)))
local macro_rules | `(tactic| walk_at "S8") => `(tactic| repeat' (first
  | (k_unfold; (try dsimp only))
  | ((with_reducible show Frag.In _ _ ∧ _); walk1)
  | (fail_if_success (k_end; skip)); (fail_if_success walk_at "stop"); (fail_if_success (with_reducible show wpAny _ _ (execs (Stmt.Assign [Expr.Name "made" _] (Expr.BinOp _ _ _ _) _ :: _) _) _ _ _)); first | walk1 | (dsimp only; walk1)))
local macro_rules | `(tactic| walk_at "subscriptTail Name Name str int") => `(tactic| (k_dflt (refine item_str (x := signsT _) (fitsSsize_of (N := 9223372036854775808) (by omega) (by omega) (Int.le_refl _)) (by rw [signsT_len]; omega) (by rw [signsT_len]; omega) ?_; intro _)))
local macro_rules | `(tactic| walk_at "subscriptTail Name BinOp str int") => `(tactic| (k_dflt (refine item_str (x := signsT _) (fitsSsize_of (N := 9223372036854775808) (by omega) (by omega) (Int.le_refl _)) (by rw [signsT_len]; omega) (by rw [signsT_len]; omega) ?_; intro _)))
local macro_rules | `(tactic| walk_at "tabs") => `(tactic| (repeat' (first | exact List.forall_mem_nil _ | refine List.forall_mem_cons.mpr ⟨by first | exact listTab | exact notTab (by assumption) | exact (fun _ e => by cases e), ?_⟩)))
local macro_rules | `(tactic| walk_at "S9") => `(tactic| repeat' (first
  | (k_unfold; (try dsimp only))
  | ((with_reducible show Frag.In _ _ ∧ _); walk1)
  | (fail_if_success (k_end; skip)); (fail_if_success walk_at "stop"); (fail_if_success (with_reducible show wpAny _ _ (execs (Stmt.Assign [Expr.Name "told" _] (Expr.BinOp _ _ _ _) _ :: _) _) _ _ _)); first | walk1 | (dsimp only; walk1)))
local macro_rules | `(tactic| walk_at "subscriptTail Name Name ref int") => `(tactic| (k_dflt (refine' int_item ?l ?i ?z ?a ?b ?_; (case l => walk_at "alist"); (case i => with_reducible assumption); (case z => omega); (case a => omega); (case b => omega); intro _)))
local macro_rules | `(tactic| walk_at "subscriptTail Name BinOp ref int") => `(tactic| (k_dflt (refine' int_item ?l ?i ?z ?a ?b ?_; (case l => walk_at "alist"); (case i => with_reducible assumption); (case z => omega); (case a => omega); (case b => omega); intro _)))
local macro_rules | `(tactic| walk_at "subscriptTail Name Slice ref ref") => `(tactic| (k_here; k_dflt (refine' sliceFrom ?F ?N ?l ?i ?z ?a ?_; (case F => k_asm); (case N => k_asm); (case l => walk_at "alist"); (case i => with_reducible assumption); (case z => omega); (case a => omega)); intro D' arr2' h' F' N' l1 hI'))
local macro_rules | `(tactic| walk_at "subscriptTail Name Slice ref ref") => `(tactic| (k_here; k_dflt (refine' sliceTo ?F ?N ?l ?i ?z ?a ?_; (case F => k_asm); (case N => k_asm); (case l => walk_at "alist"); (case i => with_reducible assumption); (case z => omega); (case a => omega)); intro D' arr2' h' F' N' l1 hI'))
local macro_rules | `(tactic| walk_at "S10") => `(tactic| repeat' (first
  | (k_unfold; (try dsimp only))
  | ((with_reducible show Frag.In _ _ ∧ _); walk1)
  | (fail_if_success (k_end; skip)); (fail_if_success walk_at "stop"); (fail_if_success (with_reducible show wpAny _ _ (execs (Stmt.If _ _ _ _ :: _) _) _ _ _)); (fail_if_success (with_reducible show wpAny _ _ (call _ [Value.ref _]) _ _ _)); first | walk1 | (dsimp only; walk1)))
local macro_rules | `(tactic| k_ne) => `(tactic| exact newsNe (by k_asm) (by k_mem) (by k_mem) (by k_asm) (fun _ e => by cases e))
local macro_rules | `(tactic| walk_at "lits") => `(tactic| first | exact IntsAre.nil | (refine IntsAre.cons _ _ ?_; walk_at "lits"))
local macro_rules | `(tactic| k_ne) => `(tactic| (refine neN ?_; (try dsimp only); first | (with_reducible assumption) | exact Ne.symm (by with_reducible assumption) | exact off1_mem (by k_asm) (_, _) (by k_mem) | exact Ne.symm (off1_mem (by k_asm) (_, _) (by k_mem))))
local macro_rules | `(tactic| walk_at "storeName") => `(tactic| (k_here; (first | (with_reducible show wpAny _ _ (storeName _ (PySem.Str.ofString "upper") _) _ _ _) | (with_reducible show wpAny _ _ (storeName _ (PySem.Str.ofString "lower") _) _ _ _) | (with_reducible show wpAny _ _ (storeName _ (PySem.Str.ofString "turn") _) _ _ _) | (with_reducible show wpAny _ _ (storeName _ (PySem.Str.ofString "told") _) _ _ _)); k_dflt (refine' storeX_C ?F ?N ?c ?U ?d ?_ ?a ?b; (case a => rfl); (case b => rfl); (case F => k_asm); (case N => k_asm); (case c => rfl); (case U => k_updF); (case d => k_asm); k_whole; intro h' o' F' N' d'; (try dsimp only at N'); (try k_sweep))))
local macro_rules | `(tactic| walk_at "S5") => `(tactic| repeat' (first
  | (k_unfold; (try dsimp only))
  | ((with_reducible show Frag.In _ _ ∧ _); walk1)
  | (fail_if_success (k_end; skip)); (fail_if_success walk_at "stop"); (fail_if_success (with_reducible show wpAny _ _ (execs (Stmt.Assign _ (Expr.ListComp _ _ _ _) _ :: _) _) _ _ _)); first | walk1 | (dsimp only; walk1)))
local macro_rules | `(tactic| walk_at "storeName") => `(tactic| (k_here; (first | (with_reducible show wpAny _ _ (storeName _ (PySem.Str.ofString "state") _) _ _ _) | (with_reducible show wpAny _ _ (storeName _ (PySem.Str.ofString "name") _) _ _ _) | (with_reducible show wpAny _ _ (storeName _ (PySem.Str.ofString "numbers") _) _ _ _) | (with_reducible show wpAny _ _ (storeName _ (PySem.Str.ofString "place") _) _ _ _) | (with_reducible show wpAny _ _ (storeName _ (PySem.Str.ofString "bare") _) _ _ _)); k_dflt (refine' storeX_C ?F ?N ?c ?U ?d ?_ ?a ?b; (case a => rfl); (case b => rfl); (case F => k_asm); (case N => k_asm); (case c => rfl); (case U => k_updF); (case d => k_asm); k_whole; intro h' o' F' N' d'; (try dsimp only at N'); (try k_sweep))))
local macro_rules | `(tactic| walk_at "call ref") => `(tactic| (k_here; k_dflt (refine' next_spec ?k0 ?k1 ?k2 ?k3 ?k4 ?k5 ?k6 ?k7 ?k8 ?k9 ?kA ?kB ?kC ?kD ?_; (case k2 => exact Fr.keep (by k_asm)); (case k0 => with_reducible assumption); (case k1 => with_reducible assumption); (case k3 => exact newsNone (by k_asm) (by k_mem)); (case k4 => walk_at "room"); (case k5 => exact News.get (by k_asm) (by k_mem)); (case k6 => walk_at "alist"); (case k7 => with_reducible assumption); (case k8 => omega); (case k9 => with_reducible assumption); (case kA => with_reducible assumption); (case kB => with_reducible assumption); (case kC => omega); (case kD => omega); intro v' t' i' r' t1' t2' k' h' tk' hv0' hv1' hi0' hr0' hk' hS'; have hb' := backS (by k_asm) (by k_asm) (by k_updF) hk' hS'; obtain ⟨F', N'⟩ := hb'; clear hk' hS'; (try dsimp only at N'); (try k_sweep))))
local macro_rules | `(tactic| walk_at "call ref") => `(tactic| (k_here; k_dflt (refine' put_spec ?X ?T ?d ?l ?i ?n ?p ?_; (case X => k_in); (case T => walk_at "top"); (case d => walk_at "room"); (case l => walk_at "alist"); (case i => with_reducible assumption); (case n => omega); (case p => omega); intro l' arr' k' h' tk' hg' hn' ho' hI'; have hb' := backL (by k_asm) (by k_asm) hg' hn' ho'; obtain ⟨F', N', o1'⟩ := hb')))
local macro_rules | `(tactic| walk_at "subscriptTail Call Constant ref int") => `(tactic| (k_dflt (refine' int_item ?l ?i ?z ?a ?b ?_; (case l => walk_at "alist"); (case i => with_reducible assumption); (case z => walk_at "len"); (case a => omega); (case b => walk_at "len"); intro _)))
local macro_rules | `(tactic| walk_at "subscriptTail List Name ref int") => `(tactic| (k_dflt (refine' int_item ?l ?i ?z ?a ?b ?_; (case l => walk_at "alist"); (case i => walk_at "lits"); (case z => decide); (case a => omega); (case b => (simp only [List.length_cons, List.length_nil]; omega)); intro _)))
local macro_rules | `(tactic| walk_at "S12") => `(tactic| repeat' (first
  | (k_unfold; (try dsimp only))
  | ((with_reducible show Frag.In _ _ ∧ _); walk1)
  | (fail_if_success (k_end; skip)); (fail_if_success walk_at "stop"); (fail_if_success (with_reducible show wpAny _ _ (execs (Stmt.Assign [Expr.Name "bare" _] _ _ :: _) _) _ _ _)); first | walk1 | (dsimp only; walk1)))
local macro_rules | `(tactic| walk_at "S13") => `(tactic| repeat' (first
  | (k_unfold; (try dsimp only))
  | ((with_reducible show Frag.In _ _ ∧ _); walk1)
  | (fail_if_success (k_end; skip)); (fail_if_success walk_at "stop"); (fail_if_success (with_reducible show wpAny _ _ (execs (Stmt.Assign [Expr.Name "fits" _] _ _ :: _) _) _ _ _)); first | walk1 | (dsimp only; walk1)))
local macro_rules | `(tactic| walk_at "binaryOp FloorDiv int int") => `(tactic| (k_here; k_dflt (refine floordiv_int (by with_reducible assumption) ?_ (Or.inl (PyProof.noPylong_small (by with_reducible assumption))))))
local macro_rules | `(tactic| walk_at "adrs") => `(tactic| (repeat' (first | exact List.forall_mem_nil _ | refine List.forall_mem_cons.mpr ⟨by first | exact newsDiff (by k_asm) (by k_mem) (by k_mem) (listTab _) | exact newsDiff (by k_asm) (by k_mem) (by k_mem) (notTab (by k_asm) _) | exact Ne.symm (off1_mem (by k_asm) (_, _) (by k_mem)), ?_⟩)))
set_option maxHeartbeats 40000000 in
theorem partF {w : World} {dp un : Nat} {fr : Option (List Env)} {gd : Option (List Code)} {s : Shared} {p : Program} {loose : List Str} {mean : ExcName → Option Value} {mg mb : Str → Option Value} {Q : Value → Shared → Prop}
    {h₀ h : Heap} {L tk : Nat} {u : Str → Option Value} {name : Str} {body : List Stmt} {scope : Scope} {cdv : Value}
    (ho : FnAt (Mine.hd.heap_39 w.params) 67 name body scope cdv)
    (X : (Mine.hd.heap_39 w.params).In h₀) (T : Top p loose mean mg mb h₀) (C : CodeHd h₀ 47 45) (hG : AllBare s.gens) (hd : dp + 40 < recursionLimit) (hu : un + 1000 < cLine)
    {WL ML FL : Addr} {wa ma fa : Array Value} {wk mk fk pl f b : Nat} {x : Str} {tx tp tm tt tT : Tok} {W v ns : List Int} {many turn : Int} {o2 o3 o4 : Obj} {ps : Array Value}
    (hx : NameIs x x.length) (hx0 : 1 ≤ x.length) (hx2 : x.length ≤ 2) (hW : IntsAre wa.toList W) (hWv : W = v ++ [1]) (hWl : 7 ≤ W.length) (hW10 : W.length ≤ 10) (hWb : ∀ n ∈ W, 0 ≤ n ∧ n < 32) (hok : polyZ (expandZ x ++ W) = 1)
    (hF : Fits x ns pl b f) (ht1 : 1 ≤ turn) (ht2 : turn < 32) (hI : IntsAre ma.toList (putZ ns pl (f : Int))) (hfi : IntsAre fa.toList [(f : Int)]) (ht : TriplesOk ps.toList)
    (hm1 : 1 ≤ many) (hm4 : many ≤ 4)
    (d2 : o2.data = .cell (some (.int (pl : Int) tp))) (d3 : o3.data = .cell (some (.ref ML))) (d4 : o4.data = .cell (some (.str x tx)))
    (F : Fr h₀ L h (kstB u [("many", .int many tm), ("turn", .int turn tt), ("fits", .ref FL), ("whole", .ref WL), ("text", .str (textOf x W) tT)]))
    (N : News h₀ L h [(WL, PySem.W.listOf wa wk), (ML, PySem.W.listOf ma mk), (FL, PySem.W.listOf fa fk), (L + 1 + 1 + 1 + 1, o2), (L + 1 + 1 + 1, o3), (L + 1 + 1, o4), (45, tabObj ps)])
    (ret : ∀ s' ps, s'.os = s.os → AllBare s'.gens → (∀ b o, h₀.get? b = some o → s'.heap.get? b = some o) → s'.heap.get? 45 = some (tabObj ps) → Q (.bool true) s') :
    wpAny (model PySem.Challenge.rw_oo0007_03.row.prog w) ((AA dp un fr gd).deeper (envOfC name scope L 67 cdv)) (execs (body.drop 13) (envOfC name scope L 67 cdv))
        (fun fl s' => Q (match fl with | .ret v => v | _ => .none) s') (fun _ _ => False) { s with heap := h, toks := tk } := by
  revert ho X; k_fill; intro ho X
  obtain ⟨rfl, rfl, rfl, rfl⟩ := ho.inj (.mk (by k_is))
  clear ho
  simp only [List.drop]
  have hxl : x.length = x.cps.size := rfl
  have hxb : ∀ c ∈ x.cps.toList, c ≤ 126 := fun c hc => (hx.signs c (by simpa using hc)).2.1
  have htl := text_len x W
  have hWz := hW.length
  rw [Array.length_toList] at hWz
  have kI : IntsAre wa.toList W ∧ IntsAre ma.toList (putZ ns pl (f : Int)) ∧ IntsAre fa.toList [(f : Int)] := ⟨hW, hI, hfi⟩
  have hvb : ∀ n ∈ v, 0 ≤ n ∧ n < 32 := fun n h => hWb n (by rw [hWv]; exact List.mem_append_left _ h)
  walk_at "S"
  refine For_range (h₀ := h₀) (by rfl) (by rfl) ?_
  walk_at "S"
  refine stRange (n := W.length) (σ := Array Value) (fun s' => AllBare s'.gens ∧ s'.os = s.os) (fun c => [(WL, PySem.W.listOf wa wk), (ML, PySem.W.listOf ma mk), (FL, PySem.W.listOf fa fk), (L + 1 + 1 + 1 + 1, o2), (L + 1 + 1 + 1, o3), (L + 1 + 1, o4), (45, tabObj c)]) (fun _ => []) ["cut", "told", "let"] (fun _ c => TriplesOk c.toList) ps
    (by rfl) (by k_asm) (by k_asm) (by assumption) ?_ ?_ ⟨hG, rfl⟩ (fun _ _ _ h => h) (fun _ h => nomatch h) ht ?_ ?_
  · rw [hWz]; exact (small_nat (by omega)).1
  · rw [hWz]; exact (small_nat (by omega)).2
  · rintro k t c u' s₂ I oI hk hP ⟨hGg, hGo⟩ F N off
    have ecut : (x.length : Int) + 1 + (0 + (k : Int)) = (x.cps.size : Int) + 1 + (k : Int) := by rw [Int.zero_add]; rfl
    have hmt : Txt.slice (textOf x W) none (some ((x.length : Int) + 1 + (0 + (k : Int)))) ++ PySem.Str.ofString "q" ++ Txt.slice (textOf x W) (some ((x.length : Int) + 1 + (0 + (k : Int)))) none = textOf x (W.take k ++ [0] ++ W.drop k) := by
      rw [ecut, text_upto x W k (by omega), text_from x W k (by omega), q_is, text_join, text_join]
    have htb : ∀ n ∈ W.take k, 0 ≤ n ∧ n < 32 := fun n h => hWb n (List.mem_of_mem_take h)
    have hdb : ∀ n ∈ W.drop k, 0 ≤ n ∧ n < 32 := fun n h => hWb n (List.mem_of_mem_drop h)
    have hZb : ∀ n ∈ W.take k ++ [0] ++ W.drop k, 0 ≤ n ∧ n < 32 := fun n h => (List.mem_append.mp h).elim (fun h => (List.mem_append.mp h).elim (htb n) (fun h => by rw [List.mem_singleton.mp h]; decide)) (hdb n)
    have hput := put_q hxb htb hdb (by rw [List.take_append_drop]; exact hok)
    have hZl : (W.take k ++ [0] ++ W.drop k).length = W.length + 1 := by
      rw [List.length_append, List.length_append, List.length_take, List.length_drop]; show _ + 1 + _ = _; omega
    have htkl : (List.take (0 + (k : Int)).toNat W).length ≤ 10 := by rw [List.length_take]; omega
    have hdkl : (List.drop (0 + (k : Int)).toNat W).length ≤ 10 := by rw [List.length_drop]; omega
    have hexl := expandZ_len x
    have ek : (0 + (k : Int)).toNat = k := by omega
    walk_at "S"
    refine callArg hmt ?_
    rename Fr _ _ _ _ => F5
    rename News _ _ _ _ => N5
    have hadr : ∀ p ∈ [(I, oI), (WL, PySem.W.listOf wa wk), (ML, PySem.W.listOf ma mk), (FL, PySem.W.listOf fa fk), (L + 1 + 1 + 1 + 1, o2), (L + 1 + 1 + 1, o3), (L + 1 + 1, o4)], p.1 ≠ (45 : Addr) := by walk_at "adrs"
    refine decode_spec (ps := c) (by k_in) (by walk_at "top") (CodeHd.keeps C (Fr.keep F5)) (News.get N5 (by k_mem)) hP hGg (by walk_at "room") (by omega) (by omega) (fun c hc => hx.signs c (by simpa using hc)) (by omega) (by omega) hZb ?_ ?_
    · intro hpy l dl t2 arr2 k3 k4 s2 ps2 hos2 hG2 hk2 h462 ht2 hl2 hdl2 hne2 ho2 hdo2 hI2'
      obtain ⟨F2, N2, B2⟩ := backD3 (pre := [(I, oI), (WL, PySem.W.listOf wa wk), (ML, PySem.W.listOf ma mk), (FL, PySem.W.listOf fa fk), (L + 1 + 1 + 1 + 1, o2), (L + 1 + 1 + 1, o3), (L + 1 + 1, o4)]) F5 N5 hadr hk2 h462
      have N2 := news_two (B2 l _ hl2 ho2 (fun _ e => by cases e)).1 (B2 dl _ hdl2 hdo2 (fun _ e => by cases e)).1
      clear N5 F5 B2 hk2 h462
      replace N2 : News h₀ L s2.heap ((l, _) :: (dl, _) :: ([(I, oI), (WL, PySem.W.listOf wa wk), (ML, PySem.W.listOf ma mk), (FL, PySem.W.listOf fa fk), (L + 1 + 1 + 1 + 1, o2), (L + 1 + 1 + 1, o3), (L + 1 + 1, o4)] ++ [(45, tabObj ps2)])) := N2
      simp only [List.cons_append, List.nil_append] at N2
      have h0 := hput.mp hpy
      have k2 : IntsAre arr2.toList ((W.take k ++ [0] ++ W.drop k).take ((W.take k ++ [0] ++ W.drop k).length - 6)) ∧ True := ⟨hI2', trivial⟩
      walk_at "S2"
      · rename IntsAre _ (List.take (List.length _ - 6) _) => hR
        rw [ek] at hR
        have layX := okD_lay (rs := (W.take k ++ [0] ++ W.drop k).take ((W.take k ++ [0] ++ W.drop k).length - 6)) (fun c hc => (hx.signs c hc).2.1)
        refine neSame (d := okD x ((W.take k ++ [0] ++ W.drop k).take ((W.take k ++ [0] ++ W.drop k).length - 6))) (by walk_at "rd") (by walk_at "rd") (shaped_one ⟨layX.1, by omega⟩) (eqv_ok _ _) (by first | ke_room | (show un + _ < _; omega)) ?_
        walk_at "S"
        all_goals (try (exfalso; rename _ ≠ (0 : Int) => hx1; rw [ek] at hx1; exact hx1 h0))
        all_goals (
            refine stEnd ps2 (by k_asm) (by k_asm) (by walk_at "mems") off trivial ⟨hG2, hos2.trans hGo⟩ (fun _ h => nomatch h) ?_ ht2
            intro z h1 h2 h3
            have g1 : z ≠ "cut" := by rintro rfl; cases h3
            have g2 : z ≠ "told" := by rintro rfl; cases h3
            have g3 : z ≠ "let" := by rintro rfl; cases h3
            simp only [kstB, if_neg h1, if_neg g1, if_neg g2, if_neg g3, h3, Bool.false_eq_true, if_false])
      · exfalso
        rename _ ≠ (0 : Int) => hx1
        rw [ek] at hx1
        exact hx1 h0
    · intro hpy m k5 s5 ps5 hos5 hG5 hk5 h465 ht5 hl5 ho5
      obtain ⟨F2, N2, B2⟩ := backD3 (pre := [(I, oI), (WL, PySem.W.listOf wa wk), (ML, PySem.W.listOf ma mk), (FL, PySem.W.listOf fa fk), (L + 1 + 1 + 1 + 1, o2), (L + 1 + 1 + 1, o3), (L + 1 + 1, o4)]) F5 N5 hadr hk5 h465
      have N2 := (B2 m _ hl5 ho5 (fun _ e => by cases e)).1
      clear N5 F5 B2 hk5 h465
      simp only [List.cons_append, List.nil_append] at N2
      have h0 : polyZ (expandZ x ++ W.take k) ≠ 0 := fun e => hpy (hput.mpr e)
      have hkl : k + 1 ≠ W.length := fun e => h0 (by
        have : W.take k = v := by rw [hWv, List.length_append] at e; rw [hWv]; rw [show k = v.length by simpa using e]; simp
        rw [this, poly_is_zero hxb hvb]
        exact ahead_zero hxb hvb (by rw [← hWv]; exact hok))
      walk_at "S2"
      · exfalso
        rename _ = (0 : Int) => hx1
        rw [ek] at hx1
        exact h0 hx1
      · refine neSame (d := noD) (by walk_at "rd") (by walk_at "rd") (shaped_one ⟨noD_lay.1, by decide⟩) eqv_no (by first | ke_room | (show un + _ < _; omega)) ?_
        walk_at "S"
        all_goals (try (exfalso; omega))
        all_goals (
            refine stEnd ps5 (by k_asm) (by k_asm) (by walk_at "mems") off trivial ⟨hG5, hos5.trans hGo⟩ (fun _ h => nomatch h) ?_ ht5
            intro z h1 h2 h3
            have g1 : z ≠ "cut" := by rintro rfl; cases h3
            have g2 : z ≠ "told" := by rintro rfl; cases h3
            have g3 : z ≠ "let" := by rintro rfl; cases h3
            simp only [kstB, if_neg h1, if_neg g1, if_neg g2, if_neg g3, h3, Bool.false_eq_true, if_false])
  · rintro c u' s' ⟨hGg, hGo⟩ hP F N
    have hoE : FnAt (Mine.hd.heap_39 w.params) 67 _ _ _ _ := .mk (by k_is)
    exact partG (s := s') hoE X T C hGg hd hu hx hx0 hx2 kI.2.1 kI.2.2 hP hF hm1 hm4 ht1 ht2 d2 d3 d4 (frTold _ F (by walk_at "told")) (news_sub N (by walk_at "mems")) (fun s9 p9 h1 h2 h3 h4 => ret s9 p9 (h1.trans hGo) h2 h3 h4)
end Mine
end
namespace Mine
theorem anew_L3f : True ∧ True := by
  w_top off
  walk1
  all_goals trivial
end Mine
section
open PySem PySem.W PySem.Calls PyProof.Rows
set_option maxRecDepth 100000
set_option linter.unusedVariables false
namespace Mine
open LCg
local macro_rules | `(tactic| walk_at "binaryOp LShift int int") => `(tactic| (refine lshift_int_small (by decide) (by decide) (bits_and25 _) ?_))
local macro_rules | `(tactic| walk_at "stop") => `(tactic| first
  | (with_reducible show wpAny _ _ (exec (Stmt.For _ _ _ _ _) _) _ _ _)
  | (with_reducible show wpAny _ _ (exec (Stmt.Assign _ (Expr.ListComp _ _ _ _) _) _) _ _ _)
  | (with_reducible show wpAny _ _ (exec (Stmt.While _ _ _ _) _) _ _ _)
  | (with_reducible show wpAny _ _ (eval (Expr.ListComp _ _ _ _) _) _ _ _)
  | (with_reducible show wpAny _ _ (eval (Expr.GeneratorExp _ _ _ _) _) _ _ _)
  | (with_reducible show wpAny _ _ (call (Value.builtin "any") _) _ _ _)
  | (with_reducible show wpAny _ _ (call (Value.builtin "all") _) _ _ _)
  | (with_reducible show wpAny _ _ (pyIter _) _ _ _))
local macro_rules | `(tactic| walk_at "S") => `(tactic| repeat' (first
  | (k_unfold; (try dsimp only))
  | ((with_reducible show Frag.In _ _ ∧ _); walk1)
  | (fail_if_success (k_end; skip)); (fail_if_success walk_at "stop"); first | walk1 | (dsimp only; walk1)))
local macro_rules | `(tactic| walk_at "S2") => `(tactic| repeat' (first
  | (k_unfold; (try dsimp only))
  | ((with_reducible show Frag.In _ _ ∧ _); walk1)
  | (fail_if_success (k_end; skip)); (fail_if_success walk_at "stop"); (fail_if_success (with_reducible show wpAny _ _ (compareOp _ (Value.ref _) (Value.ref _)) _ _ _)); first | walk1 | (dsimp only; walk1)))
local macro_rules | `(tactic| walk_at "S4") => `(tactic| repeat' (first
  | (k_unfold; (try dsimp only))
  | ((with_reducible show Frag.In _ _ ∧ _); walk1)
  | (fail_if_success (k_end; skip)); (fail_if_success walk_at "stop"); (fail_if_success (with_reducible show wpAny _ _ (execs (Stmt.For _ _ _ _ _ :: _) _) _ _ _)); first | walk1 | (dsimp only; walk1)))
local macro_rules | `(tactic| walk_at "S6") => `(tactic| repeat' (first
  | (k_unfold; (try dsimp only))
  | ((with_reducible show Frag.In _ _ ∧ _); walk1)
  | (fail_if_success (k_end; skip)); (fail_if_success walk_at "stop"); (fail_if_success (with_reducible show wpAny _ _ (execs (Stmt.Assign [Expr.Tuple _ _ _] (Expr.ListComp _ _ _ _) _ :: _) _) _ _ _)); first | walk1 | (dsimp only; walk1)))
local macro_rules | `(tactic| walk_at "one") => `(tactic| exact List.forall_mem_cons.mpr ⟨rfl, List.forall_mem_nil _⟩)
local macro_rules | `(tactic| walk_at "others") => `(tactic| (intro z h1 h2 h3; have h4 := h2 _ (.head _); simp only [kstB, if_neg h1, if_neg h4, h3, Bool.false_eq_true, if_false]))
local macro_rules | `(tactic| walk_at "len") => `(tactic| ((try simp only [List.length_append, List.length_cons, List.length_nil, List.length_map, expandZ_len, checkZ_len, rangeKs_length] at *); omega))
local macro_rules | `(tactic| walk_at "binaryOp Add ref ref") => `(tactic| (k_here; k_dflt (refine' addInts ?F ?N ?l ?b ?i ?j ?z ?_; (case F => k_asm); (case N => k_asm); (case l => walk_at "alist"); (case b => walk_at "alist"); (case i => first | assumption | l_ints); (case j => first | assumption | l_ints); (case z => walk_at "len"); intro D' arr' k' h' F' N' hI' o1')))
local macro_rules | `(tactic| walk_at "room") => `(tactic| (dsimp only [AA]; omega))
local macro_rules | `(tactic| walk_at "top") => `(tactic| exact Top.keeps (by assumption) (Fr.keep (by k_asm)))
local macro_rules | `(tactic| walk_at "alist") => `(tactic| first | (with_reducible assumption) | exact isList_in (by k_asm) (by k_mem) | (refine Heap.IsList.at (h := _) (by assumption) (fun o e => Fr.keep (by k_asm) _ o e)))
local macro_rules | `(tactic| walk_at "call ref") => `(tactic| (k_here; k_dflt (refine' expand_spec ?X ?T ?d ?x ?_; (case X => k_in); (case T => walk_at "top"); (case d => walk_at "room"); (case x => first | assumption | omega); intro l' arr' k' h' tk' hg' hn' ho' hI'; have hb' := backL (by k_asm) (by k_asm) hg' hn' ho'; obtain ⟨F', N', o1'⟩ := hb')))
local macro_rules | `(tactic| walk_at "call ref") => `(tactic| (k_here; k_dflt (refine' poly_spec ?X ?T ?d ?l ?i ?_; (case X => k_in); (case T => walk_at "top"); (case d => walk_at "room"); (case l => walk_at "alist"); (case i => assumption); intro t' h' tk' hg'; have hb' := backI (by k_asm) (by k_asm) hg'; obtain ⟨F', N'⟩ := hb')))
local macro_rules | `(tactic| walk_at "call ref") => `(tactic| (k_here; k_dflt (refine' create_spec ?X ?T ?d ?x ?l ?i ?n ?_; (case X => k_in); (case T => walk_at "top"); (case d => walk_at "room"); (case x => first | assumption | omega); (case l => walk_at "alist"); (case i => assumption); (case n => walk_at "len"); intro l' arr' k' h' tk' hg' hn' ho' hI'; have hb' := backL (by k_asm) (by k_asm) hg' hn' ho'; obtain ⟨F', N', o1'⟩ := hb')))
local macro_rules | `(tactic| walk_at "call ref") => `(tactic| (k_here; k_dflt (refine' verify_spec ?X ?T ?d ?x ?l ?i ?n ?_; (case X => k_in); (case T => walk_at "top"); (case d => walk_at "room"); (case x => first | assumption | omega); (case l => walk_at "alist"); (case i => assumption); (case n => walk_at "len"); intro h' tk' hg'; have hb' := backI (by k_asm) (by k_asm) hg'; obtain ⟨F', N'⟩ := hb')))
local macro_rules | `(tactic| walk_at "slen") => `(tactic| ((try simp only [PySem.Str.length_append, Str.cps_append, len_one, len_one2, PySem.Str.length, Array.size_append, List.size_toArray, List.length_map, List.length_append, checkZ_len] at *); rw [sizeLine_eq]; omega))
local macro_rules | `(tactic| walk_at "binaryOp Add str str") => `(tactic| (k_dflt (refine' PyProof.Rows.add_str ?_ ?z; (case z => walk_at "slen"); intro t' tk')))
local macro_rules | `(tactic| walk_at "subscriptTail Name Name str int") => `(tactic| (k_dflt (refine item_str (x := CH) (fitsSsize_of (N := 9223372036854775808) (by omega) (by omega) (Int.le_refl _)) (by rw [ch_len]; omega) (by rw [ch_len]; omega) ?_; intro _)))
local macro_rules | `(tactic| walk_at "eval Name") => `(tactic| (k_here; (with_reducible show wpAny _ _ (eval (Expr.Name _ _) (genEnv _ _ _ _ _ _)) _ _ _); k_dflt (first
  | (refine nameG_L (by k_asm) (by assumption) ?_)
  | (refine nameG_K (by k_asm) (by k_asm) (by k_asm) (by rfl) (by k_is) ?_)
  | (refine nameG_B (by k_asm) (by k_asm) (by k_asm) (by rfl) (by k_is) (by boot_by_name) (by decide) ?_))))
local macro_rules | `(tactic| walk_at "call builtin:len") => `(tactic| (k_here; (with_reducible show wpAny _ _ (call (Value.builtin "len") [Value.ref _]) _ _ _); k_dflt (refine' PyProof.Rows.len_list ?l ?z ?_; (case l => walk_at "alist"); (case z => walk_at "len"))))


local macro_rules | `(tactic| walk_at "mems") => `(tactic| first | exact List.forall_mem_nil _ | exact List.forall_mem_cons.mpr ⟨by k_mem, by walk_at "mems"⟩)
local macro_rules | `(tactic| walk_at "told") => `(tactic| first | exact List.forall_mem_nil _ | exact List.forall_mem_cons.mpr ⟨rfl, by walk_at "told"⟩)
local macro_rules | `(tactic| walk_at "S3") => `(tactic| repeat' (first
  | (k_unfold; (try dsimp only))
  | ((with_reducible show Frag.In _ _ ∧ _); walk1)
  | (fail_if_success (k_end; skip)); (fail_if_success walk_at "stop"); (fail_if_success (with_reducible show wpAny _ _ (execs (Stmt.If _ _ _ _ :: _) _) _ _ _)); first | walk1 | (dsimp only; walk1)))
local macro_rules | `(tactic| walk_at "clss") => `(tactic| (repeat' (first | exact List.forall_mem_nil _ | refine List.forall_mem_cons.mpr ⟨by rintro ⟨⟩, ?_⟩)))
local macro_rules | `(tactic| walk_at "rds") => `(tactic| first | exact ReadsAll.nil | exact ReadsAll.cons (by walk_at "rd") (by walk_at "rds"))
local macro_rules | `(tactic| walk_at "rd") => `(tactic| first
  | exact Reads.none
  | exact Reads.str _ _
  | exact reads_list_at (News.get (by k_asm) (by k_mem)) rfl rfl (readsInts (by assumption))
  | exact reads_list_at (News.get (by k_asm) (by k_mem)) rfl rfl (by walk_at "rds")
  | exact reads_tuple_at (News.get (by k_asm) (by k_mem)) rfl rfl (by walk_at "rds"))
local macro_rules | `(tactic| walk_at "call ref") => `(tactic| (k_here; k_dflt (refine' encode_spec ?X ?T ?d ?x ?l ?i ?n ?b ?_; (case X => k_in); (case T => walk_at "top"); (case d => walk_at "room"); (case x => first | assumption | omega); (case l => walk_at "alist"); (case i => assumption); (case n => omega); (case b => assumption); intro t' h' tk' hg'; have hb' := backI (by k_asm) (by k_asm) hg'; obtain ⟨F', N'⟩ := hb')))
local macro_rules | `(tactic| walk_at "call builtin:len") => `(tactic| (k_here; (with_reducible show wpAny _ _ (call (Value.builtin "len") [Value.str _ _]) _ _ _); k_dflt (refine PySem.P.len_str (by ((try simp only [PySem.Str.length] at *); omega)) ?_)))
local macro_rules | `(tactic| walk_at "S7") => `(tactic| repeat' (first
  | (k_unfold; (try dsimp only))
  | ((with_reducible show Frag.In _ _ ∧ _); walk1)
  | (fail_if_success (k_end; skip)); (fail_if_success walk_at "stop"); (fail_if_success (with_reducible show wpAny _ _ (execs (Stmt.Assign _ (Expr.BinOp _ _ _ _) _ :: _) _) _ _ _)); first | walk1 | (dsimp only; walk1)))
local macro_rules | `(tactic| walk_at "S8") => `(tactic| repeat' (first
  | (k_unfold; (try dsimp only))
  | ((with_reducible show Frag.In _ _ ∧ _); walk1)
  | (fail_if_success (k_end; skip)); (fail_if_success walk_at "stop"); (fail_if_success (with_reducible show wpAny _ _ (execs (Stmt.Assign [Expr.Name "made" _] (Expr.BinOp _ _ _ _) _ :: _) _) _ _ _)); first | walk1 | (dsimp only; walk1)))
local macro_rules | `(tactic| walk_at "subscriptTail Name Name str int") => `(tactic| (k_dflt (refine item_str (x := signsT _) (fitsSsize_of (N := 9223372036854775808) (by omega) (by omega) (Int.le_refl _)) (by rw [signsT_len]; omega) (by rw [signsT_len]; omega) ?_; intro _)))
local macro_rules | `(tactic| walk_at "subscriptTail Name BinOp str int") => `(tactic| (k_dflt (refine item_str (x := signsT _) (fitsSsize_of (N := 9223372036854775808) (by omega) (by omega) (Int.le_refl _)) (by rw [signsT_len]; omega) (by rw [signsT_len]; omega) ?_; intro _)))
local macro_rules | `(tactic| walk_at "tabs") => `(tactic| (repeat' (first | exact List.forall_mem_nil _ | refine List.forall_mem_cons.mpr ⟨by first | exact listTab | exact notTab (by assumption) | exact (fun _ e => by cases e), ?_⟩)))
local macro_rules | `(tactic| walk_at "S9") => `(tactic| repeat' (first
  | (k_unfold; (try dsimp only))
  | ((with_reducible show Frag.In _ _ ∧ _); walk1)
  | (fail_if_success (k_end; skip)); (fail_if_success walk_at "stop"); (fail_if_success (with_reducible show wpAny _ _ (execs (Stmt.Assign [Expr.Name "told" _] (Expr.BinOp _ _ _ _) _ :: _) _) _ _ _)); first | walk1 | (dsimp only; walk1)))
local macro_rules | `(tactic| walk_at "subscriptTail Name Name ref int") => `(tactic| (k_dflt (refine' int_item ?l ?i ?z ?a ?b ?_; (case l => walk_at "alist"); (case i => with_reducible assumption); (case z => omega); (case a => omega); (case b => omega); intro _)))
local macro_rules | `(tactic| walk_at "subscriptTail Name BinOp ref int") => `(tactic| (k_dflt (refine' int_item ?l ?i ?z ?a ?b ?_; (case l => walk_at "alist"); (case i => with_reducible assumption); (case z => omega); (case a => omega); (case b => omega); intro _)))
local macro_rules | `(tactic| walk_at "subscriptTail Name Slice ref ref") => `(tactic| (k_here; k_dflt (refine' sliceFrom ?F ?N ?l ?i ?z ?a ?_; (case F => k_asm); (case N => k_asm); (case l => walk_at "alist"); (case i => with_reducible assumption); (case z => omega); (case a => omega)); intro D' arr2' h' F' N' l1 hI'))
local macro_rules | `(tactic| walk_at "subscriptTail Name Slice ref ref") => `(tactic| (k_here; k_dflt (refine' sliceTo ?F ?N ?l ?i ?z ?a ?_; (case F => k_asm); (case N => k_asm); (case l => walk_at "alist"); (case i => with_reducible assumption); (case z => omega); (case a => omega)); intro D' arr2' h' F' N' l1 hI'))
local macro_rules | `(tactic| walk_at "S10") => `(tactic| repeat' (first
  | (k_unfold; (try dsimp only))
  | ((with_reducible show Frag.In _ _ ∧ _); walk1)
  | (fail_if_success (k_end; skip)); (fail_if_success walk_at "stop"); (fail_if_success (with_reducible show wpAny _ _ (execs (Stmt.If _ _ _ _ :: _) _) _ _ _)); (fail_if_success (with_reducible show wpAny _ _ (call _ [Value.ref _]) _ _ _)); first | walk1 | (dsimp only; walk1)))
local macro_rules | `(tactic| k_ne) => `(tactic| exact newsNe (by k_asm) (by k_mem) (by k_mem) (by k_asm) (fun _ e => by cases e))
local macro_rules | `(tactic| walk_at "lits") => `(tactic| first | exact IntsAre.nil | (refine IntsAre.cons _ _ ?_; walk_at "lits"))
local macro_rules | `(tactic| k_ne) => `(tactic| (refine neN ?_; (try dsimp only); first | (with_reducible assumption) | exact Ne.symm (by with_reducible assumption) | exact off1_mem (by k_asm) (_, _) (by k_mem) | exact Ne.symm (off1_mem (by k_asm) (_, _) (by k_mem))))
local macro_rules | `(tactic| walk_at "storeName") => `(tactic| (k_here; (first | (with_reducible show wpAny _ _ (storeName _ (PySem.Str.ofString "upper") _) _ _ _) | (with_reducible show wpAny _ _ (storeName _ (PySem.Str.ofString "lower") _) _ _ _) | (with_reducible show wpAny _ _ (storeName _ (PySem.Str.ofString "turn") _) _ _ _) | (with_reducible show wpAny _ _ (storeName _ (PySem.Str.ofString "told") _) _ _ _)); k_dflt (refine' storeX_C ?F ?N ?c ?U ?d ?_ ?a ?b; (case a => rfl); (case b => rfl); (case F => k_asm); (case N => k_asm); (case c => rfl); (case U => k_updF); (case d => k_asm); k_whole; intro h' o' F' N' d'; (try dsimp only at N'); (try k_sweep))))
local macro_rules | `(tactic| walk_at "S5") => `(tactic| repeat' (first
  | (k_unfold; (try dsimp only))
  | ((with_reducible show Frag.In _ _ ∧ _); walk1)
  | (fail_if_success (k_end; skip)); (fail_if_success walk_at "stop"); (fail_if_success (with_reducible show wpAny _ _ (execs (Stmt.Assign _ (Expr.ListComp _ _ _ _) _ :: _) _) _ _ _)); first | walk1 | (dsimp only; walk1)))
local macro_rules | `(tactic| walk_at "storeName") => `(tactic| (k_here; (first | (with_reducible show wpAny _ _ (storeName _ (PySem.Str.ofString "state") _) _ _ _) | (with_reducible show wpAny _ _ (storeName _ (PySem.Str.ofString "name") _) _ _ _) | (with_reducible show wpAny _ _ (storeName _ (PySem.Str.ofString "numbers") _) _ _ _) | (with_reducible show wpAny _ _ (storeName _ (PySem.Str.ofString "place") _) _ _ _) | (with_reducible show wpAny _ _ (storeName _ (PySem.Str.ofString "bare") _) _ _ _)); k_dflt (refine' storeX_C ?F ?N ?c ?U ?d ?_ ?a ?b; (case a => rfl); (case b => rfl); (case F => k_asm); (case N => k_asm); (case c => rfl); (case U => k_updF); (case d => k_asm); k_whole; intro h' o' F' N' d'; (try dsimp only at N'); (try k_sweep))))
local macro_rules | `(tactic| walk_at "call ref") => `(tactic| (k_here; k_dflt (refine' next_spec ?k0 ?k1 ?k2 ?k3 ?k4 ?k5 ?k6 ?k7 ?k8 ?k9 ?kA ?kB ?kC ?kD ?_; (case k2 => exact Fr.keep (by k_asm)); (case k0 => with_reducible assumption); (case k1 => with_reducible assumption); (case k3 => exact newsNone (by k_asm) (by k_mem)); (case k4 => walk_at "room"); (case k5 => exact News.get (by k_asm) (by k_mem)); (case k6 => walk_at "alist"); (case k7 => with_reducible assumption); (case k8 => omega); (case k9 => with_reducible assumption); (case kA => with_reducible assumption); (case kB => with_reducible assumption); (case kC => omega); (case kD => omega); intro v' t' i' r' t1' t2' k' h' tk' hv0' hv1' hi0' hr0' hk' hS'; have hb' := backS (by k_asm) (by k_asm) (by k_updF) hk' hS'; obtain ⟨F', N'⟩ := hb'; clear hk' hS'; (try dsimp only at N'); (try k_sweep))))
local macro_rules | `(tactic| walk_at "call ref") => `(tactic| (k_here; k_dflt (refine' put_spec ?X ?T ?d ?l ?i ?n ?p ?_; (case X => k_in); (case T => walk_at "top"); (case d => walk_at "room"); (case l => walk_at "alist"); (case i => with_reducible assumption); (case n => omega); (case p => omega); intro l' arr' k' h' tk' hg' hn' ho' hI'; have hb' := backL (by k_asm) (by k_asm) hg' hn' ho'; obtain ⟨F', N', o1'⟩ := hb')))
local macro_rules | `(tactic| walk_at "subscriptTail Call Constant ref int") => `(tactic| (k_dflt (refine' int_item ?l ?i ?z ?a ?b ?_; (case l => walk_at "alist"); (case i => with_reducible assumption); (case z => walk_at "len"); (case a => omega); (case b => walk_at "len"); intro _)))
local macro_rules | `(tactic| walk_at "subscriptTail List Name ref int") => `(tactic| (k_dflt (refine' int_item ?l ?i ?z ?a ?b ?_; (case l => walk_at "alist"); (case i => walk_at "lits"); (case z => decide); (case a => omega); (case b => (simp only [List.length_cons, List.length_nil]; omega)); intro _)))
local macro_rules | `(tactic| walk_at "S12") => `(tactic| repeat' (first
  | (k_unfold; (try dsimp only))
  | ((with_reducible show Frag.In _ _ ∧ _); walk1)
  | (fail_if_success (k_end; skip)); (fail_if_success walk_at "stop"); (fail_if_success (with_reducible show wpAny _ _ (execs (Stmt.Assign [Expr.Name "bare" _] _ _ :: _) _) _ _ _)); first | walk1 | (dsimp only; walk1)))
local macro_rules | `(tactic| walk_at "S13") => `(tactic| repeat' (first
  | (k_unfold; (try dsimp only))
  | ((with_reducible show Frag.In _ _ ∧ _); walk1)
  | (fail_if_success (k_end; skip)); (fail_if_success walk_at "stop"); (fail_if_success (with_reducible show wpAny _ _ (execs (Stmt.Assign [Expr.Name "fits" _] _ _ :: _) _) _ _ _)); first | walk1 | (dsimp only; walk1)))
local macro_rules | `(tactic| walk_at "binaryOp FloorDiv int int") => `(tactic| (k_here; k_dflt (refine floordiv_int (by with_reducible assumption) ?_ (Or.inl (PyProof.noPylong_small (by with_reducible assumption))))))
local macro_rules | `(tactic| walk_at "adrs") => `(tactic| (repeat' (first | exact List.forall_mem_nil _ | refine List.forall_mem_cons.mpr ⟨by first | exact newsDiff (by k_asm) (by k_mem) (by k_mem) (listTab _) | exact newsDiff (by k_asm) (by k_mem) (by k_mem) (notTab (by k_asm) _) | exact Ne.symm (off1_mem (by k_asm) (_, _) (by k_mem)), ?_⟩)))
set_option maxHeartbeats 40000000 in
theorem partE {w : World} {dp un : Nat} {fr : Option (List Env)} {gd : Option (List Code)} {s : Shared} {p : Program} {loose : List Str} {mean : ExcName → Option Value} {mg mb : Str → Option Value} {Q : Value → Shared → Prop}
    {h₀ h : Heap} {L tk : Nat} {u : Str → Option Value} {name : Str} {body : List Stmt} {scope : Scope} {cdv : Value}
    (ho : FnAt (Mine.hd.heap_39 w.params) 67 name body scope cdv)
    (X : (Mine.hd.heap_39 w.params).In h₀) (T : Top p loose mean mg mb h₀) (C : CodeHd h₀ 47 45) (hG : AllBare s.gens) (hd : dp + 40 < recursionLimit) (hu : un + 1000 < cLine)
    {WL ML FL : Addr} {wa ma fa : Array Value} {wk mk fk pl f b : Nat} {x : Str} {tx tp tm tt tT : Tok} {W v ns : List Int} {many turn : Int} {o2 o3 o4 : Obj} {ps : Array Value}
    (hx : NameIs x x.length) (hx0 : 1 ≤ x.length) (hx2 : x.length ≤ 2) (hW : IntsAre wa.toList W) (hWv : W = v ++ [1]) (hWl : 7 ≤ W.length) (hW10 : W.length ≤ 10) (hWb : ∀ n ∈ W, 0 ≤ n ∧ n < 32) (hok : polyZ (expandZ x ++ W) = 1)
    (hF : Fits x ns pl b f) (ht1 : 1 ≤ turn) (ht2 : turn < 32) (hI : IntsAre ma.toList (putZ ns pl (f : Int))) (hfi : IntsAre fa.toList [(f : Int)]) (ht : TriplesOk ps.toList)
    (hm1 : 1 ≤ many) (hm4 : many ≤ 4)
    (d2 : o2.data = .cell (some (.int (pl : Int) tp))) (d3 : o3.data = .cell (some (.ref ML))) (d4 : o4.data = .cell (some (.str x tx)))
    (F : Fr h₀ L h (kstB u [("many", .int many tm), ("turn", .int turn tt), ("fits", .ref FL), ("whole", .ref WL), ("text", .str (textOf x W) tT)]))
    (N : News h₀ L h [(WL, PySem.W.listOf wa wk), (ML, PySem.W.listOf ma mk), (FL, PySem.W.listOf fa fk), (L + 1 + 1 + 1 + 1, o2), (L + 1 + 1 + 1, o3), (L + 1 + 1, o4), (45, tabObj ps)])
    (ret : ∀ s' ps, s'.os = s.os → AllBare s'.gens → (∀ b o, h₀.get? b = some o → s'.heap.get? b = some o) → s'.heap.get? 45 = some (tabObj ps) → Q (.bool true) s') :
    wpAny (model PySem.Challenge.rw_oo0007_03.row.prog w) ((AA dp un fr gd).deeper (envOfC name scope L 67 cdv)) (execs (body.drop 12) (envOfC name scope L 67 cdv))
        (fun fl s' => Q (match fl with | .ret v => v | _ => .none) s') (fun _ _ => False) { s with heap := h, toks := tk } := by
  revert ho X; k_fill; intro ho X
  obtain ⟨rfl, rfl, rfl, rfl⟩ := ho.inj (.mk (by k_is))
  clear ho
  simp only [List.drop]
  have hxl : x.length = x.cps.size := rfl
  have hxb : ∀ c ∈ x.cps.toList, c ≤ 126 := fun c hc => (hx.signs c (by simpa using hc)).2.1
  have htl := text_len x W
  have hmt : Txt.slice (textOf x W) none (some (-1)) ++ Txt.mul (PySem.Str.ofString "q") many ++ PySem.Str.ofString "p" = textOf x (v ++ List.replicate many.toNat 0 ++ [1]) := by rw [hWv, p_sign]; exact many_text hm1 hm4
  have hvb : ∀ n ∈ v, 0 ≤ n ∧ n < 32 := fun n h => hWb n (by rw [hWv]; exact List.mem_append_left _ h)
  have hZb : ∀ n ∈ v ++ List.replicate many.toNat 0 ++ [1], 0 ≤ n ∧ n < 32 := fun n h => (List.mem_append.mp h).elim (fun h => (List.mem_append.mp h).elim (hvb n) (low_zeros _ n)) (fun h => by rw [List.mem_singleton.mp h]; decide)
  have hZk := many_q hxb hvb (by rw [← hWv]; exact hok) many.toNat
  have hvl : v.length + 1 = W.length := by rw [hWv, List.length_append]; rfl
  have hZl : (v ++ List.replicate many.toNat 0 ++ [1]).length = v.length + many.toNat + 1 := by rw [List.length_append, List.length_append, List.length_replicate]; rfl
  walk_at "S"
  generalize hZ : v ++ List.replicate many.toNat 0 ++ [1] = Z at *
  refine callArg hmt ?_
  rename Fr _ _ _ _ => F5
  rename News _ _ _ _ => N5
  refine decode_spec (ps := ps) (by k_in) (by walk_at "top") (CodeHd.keeps C (Fr.keep F5)) (News.get N5 (by k_mem)) ht hG (by walk_at "room") (by omega) (by omega) (fun c hc => hx.signs c (by simpa using hc)) (by omega) (by omega) hZb ?_ (fun e => absurd hZk e)
  intro _ l dl t2 arr2 k3 k4 s2 ps2 hos2 hG2 hk2 h462 ht2' hl2 hdl2 hne2 ho2 hdo2 hI2'
  obtain ⟨F2, N2, B2⟩ := backD2 (pre := [(WL, PySem.W.listOf wa wk), (ML, PySem.W.listOf ma mk), (FL, PySem.W.listOf fa fk), (L + 1 + 1 + 1 + 1, o2), (L + 1 + 1 + 1, o3), (L + 1 + 1, o4)]) F5 N5 (by walk_at "tabs") hk2 h462
  have N2 := news_two (B2 l _ hl2 ho2 (fun _ e => by cases e)).1 (B2 dl _ hdl2 hdo2 (fun _ e => by cases e)).1
  clear N5 F5 B2 hk2 h462
  replace N2 : News h₀ L s2.heap [(l, _), (dl, _), (WL, PySem.W.listOf wa wk), (ML, PySem.W.listOf ma mk), (FL, PySem.W.listOf fa fk), (L + 1 + 1 + 1 + 1, o2), (L + 1 + 1 + 1, o3), (L + 1 + 1, o4), (45, tabObj ps2)] := N2
  have kI : IntsAre wa.toList W ∧ IntsAre ma.toList (putZ ns pl (f : Int)) ∧ IntsAre fa.toList [(f : Int)] := ⟨hW, hI, hfi⟩
  have k2 : IntsAre arr2.toList (Z.take (Z.length - 6)) ∧ True := ⟨hI2', trivial⟩
  walk_at "S2"
  rename IntsAre _ (List.take _ _) => hR
  have eA : List.take (W.length - 1) W ++ (List.replicate many.toNat [(0 : Int)]).flatten ++ [1] = Z := by
    have h1 : List.take (W.length - 1) W = v := by rw [hWv, List.length_append]; simp
    have h2 : (List.replicate many.toNat [(0 : Int)]).flatten = List.replicate many.toNat 0 := by simp
    rw [h1, h2]; exact hZ
  rw [eA] at hR
  have layX := okD_lay (rs := Z.take (Z.length - 6)) (fun c hc => (hx.signs c hc).2.1)
  refine neSame (d := okD x (Z.take (Z.length - 6))) (by walk_at "rd") (by walk_at "rd") (shaped_one ⟨layX.1, by omega⟩) (eqv_ok _ _) (by first | ke_room | (show un + _ < _; omega)) ?_
  walk_at "S4"
  rename News _ _ _ _ => N7
  rename Fr _ _ _ _ => F7
  have hoE : FnAt (Mine.hd.heap_39 w.params) 67 _ _ _ _ := .mk (by k_is)
  exact partF (s := s2) hoE X T C hG2 hd hu hx hx0 hx2 kI.1 hWv hWl hW10 hWb hok hF ht1 ht2 kI.2.1 kI.2.2 ht2' hm1 hm4 d2 d3 d4 (frTold _ F7 (by walk_at "told")) (news_sub N7 (by walk_at "mems")) (fun s9 p9 h1 h2 h3 h4 => ret s9 p9 (h1.trans hos2) h2 h3 h4)
end Mine
end
namespace Mine
theorem anew_L3e : True ∧ True := by
  w_top off
  walk1
  all_goals trivial
end Mine
section
open PySem PySem.W PySem.Calls PyProof.Rows
set_option maxRecDepth 100000
set_option linter.unusedVariables false
namespace Mine
open LCg
local macro_rules | `(tactic| walk_at "binaryOp LShift int int") => `(tactic| (refine lshift_int_small (by decide) (by decide) (bits_and25 _) ?_))
local macro_rules | `(tactic| walk_at "stop") => `(tactic| first
  | (with_reducible show wpAny _ _ (exec (Stmt.For _ _ _ _ _) _) _ _ _)
  | (with_reducible show wpAny _ _ (exec (Stmt.Assign _ (Expr.ListComp _ _ _ _) _) _) _ _ _)
  | (with_reducible show wpAny _ _ (exec (Stmt.While _ _ _ _) _) _ _ _)
  | (with_reducible show wpAny _ _ (eval (Expr.ListComp _ _ _ _) _) _ _ _)
  | (with_reducible show wpAny _ _ (eval (Expr.GeneratorExp _ _ _ _) _) _ _ _)
  | (with_reducible show wpAny _ _ (call (Value.builtin "any") _) _ _ _)
  | (with_reducible show wpAny _ _ (call (Value.builtin "all") _) _ _ _)
  | (with_reducible show wpAny _ _ (pyIter _) _ _ _))
local macro_rules | `(tactic| walk_at "S") => `(tactic| repeat' (first
  | (k_unfold; (try dsimp only))
  | ((with_reducible show Frag.In _ _ ∧ _); walk1)
  | (fail_if_success (k_end; skip)); (fail_if_success walk_at "stop"); first | walk1 | (dsimp only; walk1)))
local macro_rules | `(tactic| walk_at "S2") => `(tactic| repeat' (first
  | (k_unfold; (try dsimp only))
  | ((with_reducible show Frag.In _ _ ∧ _); walk1)
  | (fail_if_success (k_end; skip)); (fail_if_success walk_at "stop"); (fail_if_success (with_reducible show wpAny _ _ (compareOp _ (Value.ref _) (Value.ref _)) _ _ _)); first | walk1 | (dsimp only; walk1)))
local macro_rules | `(tactic| walk_at "S4") => `(tactic| repeat' (first
  | (k_unfold; (try dsimp only))
  | ((with_reducible show Frag.In _ _ ∧ _); walk1)
  | (fail_if_success (k_end; skip)); (fail_if_success walk_at "stop"); (fail_if_success (with_reducible show wpAny _ _ (execs (Stmt.For _ _ _ _ _ :: _) _) _ _ _)); first | walk1 | (dsimp only; walk1)))
local macro_rules | `(tactic| walk_at "S6") => `(tactic| repeat' (first
  | (k_unfold; (try dsimp only))
  | ((with_reducible show Frag.In _ _ ∧ _); walk1)
  | (fail_if_success (k_end; skip)); (fail_if_success walk_at "stop"); (fail_if_success (with_reducible show wpAny _ _ (execs (Stmt.Assign [Expr.Tuple _ _ _] (Expr.ListComp _ _ _ _) _ :: _) _) _ _ _)); first | walk1 | (dsimp only; walk1)))
local macro_rules | `(tactic| walk_at "one") => `(tactic| exact List.forall_mem_cons.mpr ⟨rfl, List.forall_mem_nil _⟩)
local macro_rules | `(tactic| walk_at "others") => `(tactic| (intro z h1 h2 h3; have h4 := h2 _ (.head _); simp only [kstB, if_neg h1, if_neg h4, h3, Bool.false_eq_true, if_false]))
local macro_rules | `(tactic| walk_at "len") => `(tactic| ((try simp only [List.length_append, List.length_cons, List.length_nil, List.length_map, expandZ_len, checkZ_len, rangeKs_length] at *); omega))
local macro_rules | `(tactic| walk_at "binaryOp Add ref ref") => `(tactic| (k_here; k_dflt (refine' addInts ?F ?N ?l ?b ?i ?j ?z ?_; (case F => k_asm); (case N => k_asm); (case l => walk_at "alist"); (case b => walk_at "alist"); (case i => first | assumption | l_ints); (case j => first | assumption | l_ints); (case z => walk_at "len"); intro D' arr' k' h' F' N' hI' o1')))
local macro_rules | `(tactic| walk_at "room") => `(tactic| (dsimp only [AA]; omega))
local macro_rules | `(tactic| walk_at "top") => `(tactic| exact Top.keeps (by assumption) (Fr.keep (by k_asm)))
local macro_rules | `(tactic| walk_at "alist") => `(tactic| first | (with_reducible assumption) | exact isList_in (by k_asm) (by k_mem) | (refine Heap.IsList.at (h := _) (by assumption) (fun o e => Fr.keep (by k_asm) _ o e)))
local macro_rules | `(tactic| walk_at "call ref") => `(tactic| (k_here; k_dflt (refine' expand_spec ?X ?T ?d ?x ?_; (case X => k_in); (case T => walk_at "top"); (case d => walk_at "room"); (case x => first | assumption | omega); intro l' arr' k' h' tk' hg' hn' ho' hI'; have hb' := backL (by k_asm) (by k_asm) hg' hn' ho'; obtain ⟨F', N', o1'⟩ := hb')))
local macro_rules | `(tactic| walk_at "call ref") => `(tactic| (k_here; k_dflt (refine' poly_spec ?X ?T ?d ?l ?i ?_; (case X => k_in); (case T => walk_at "top"); (case d => walk_at "room"); (case l => walk_at "alist"); (case i => assumption); intro t' h' tk' hg'; have hb' := backI (by k_asm) (by k_asm) hg'; obtain ⟨F', N'⟩ := hb')))
local macro_rules | `(tactic| walk_at "call ref") => `(tactic| (k_here; k_dflt (refine' create_spec ?X ?T ?d ?x ?l ?i ?n ?_; (case X => k_in); (case T => walk_at "top"); (case d => walk_at "room"); (case x => first | assumption | omega); (case l => walk_at "alist"); (case i => assumption); (case n => walk_at "len"); intro l' arr' k' h' tk' hg' hn' ho' hI'; have hb' := backL (by k_asm) (by k_asm) hg' hn' ho'; obtain ⟨F', N', o1'⟩ := hb')))
local macro_rules | `(tactic| walk_at "call ref") => `(tactic| (k_here; k_dflt (refine' verify_spec ?X ?T ?d ?x ?l ?i ?n ?_; (case X => k_in); (case T => walk_at "top"); (case d => walk_at "room"); (case x => first | assumption | omega); (case l => walk_at "alist"); (case i => assumption); (case n => walk_at "len"); intro h' tk' hg'; have hb' := backI (by k_asm) (by k_asm) hg'; obtain ⟨F', N'⟩ := hb')))
local macro_rules | `(tactic| walk_at "slen") => `(tactic| ((try simp only [PySem.Str.length_append, Str.cps_append, len_one, len_one2, PySem.Str.length, Array.size_append, List.size_toArray, List.length_map, List.length_append, checkZ_len] at *); rw [sizeLine_eq]; omega))
local macro_rules | `(tactic| walk_at "binaryOp Add str str") => `(tactic| (k_dflt (refine' PyProof.Rows.add_str ?_ ?z; (case z => walk_at "slen"); intro t' tk')))
local macro_rules | `(tactic| walk_at "subscriptTail Name Name str int") => `(tactic| (k_dflt (refine item_str (x := CH) (fitsSsize_of (N := 9223372036854775808) (by omega) (by omega) (Int.le_refl _)) (by rw [ch_len]; omega) (by rw [ch_len]; omega) ?_; intro _)))
local macro_rules | `(tactic| walk_at "eval Name") => `(tactic| (k_here; (with_reducible show wpAny _ _ (eval (Expr.Name _ _) (genEnv _ _ _ _ _ _)) _ _ _); k_dflt (first
  | (refine nameG_L (by k_asm) (by assumption) ?_)
  | (refine nameG_K (by k_asm) (by k_asm) (by k_asm) (by rfl) (by k_is) ?_)
  | (refine nameG_B (by k_asm) (by k_asm) (by k_asm) (by rfl) (by k_is) (by boot_by_name) (by decide) ?_))))
local macro_rules | `(tactic| walk_at "call builtin:len") => `(tactic| (k_here; (with_reducible show wpAny _ _ (call (Value.builtin "len") [Value.ref _]) _ _ _); k_dflt (refine' PyProof.Rows.len_list ?l ?z ?_; (case l => walk_at "alist"); (case z => walk_at "len"))))


local macro_rules | `(tactic| walk_at "mems") => `(tactic| first | exact List.forall_mem_nil _ | exact List.forall_mem_cons.mpr ⟨by k_mem, by walk_at "mems"⟩)
local macro_rules | `(tactic| walk_at "told") => `(tactic| first | exact List.forall_mem_nil _ | exact List.forall_mem_cons.mpr ⟨rfl, by walk_at "told"⟩)
local macro_rules | `(tactic| walk_at "S3") => `(tactic| repeat' (first
  | (k_unfold; (try dsimp only))
  | ((with_reducible show Frag.In _ _ ∧ _); walk1)
  | (fail_if_success (k_end; skip)); (fail_if_success walk_at "stop"); (fail_if_success (with_reducible show wpAny _ _ (execs (Stmt.If _ _ _ _ :: _) _) _ _ _)); first | walk1 | (dsimp only; walk1)))
local macro_rules | `(tactic| walk_at "clss") => `(tactic| (repeat' (first | exact List.forall_mem_nil _ | refine List.forall_mem_cons.mpr ⟨by rintro ⟨⟩, ?_⟩)))
local macro_rules | `(tactic| walk_at "rds") => `(tactic| first | exact ReadsAll.nil | exact ReadsAll.cons (by walk_at "rd") (by walk_at "rds"))
local macro_rules | `(tactic| walk_at "rd") => `(tactic| first
  | exact Reads.none
  | exact Reads.str _ _
  | exact reads_list_at (News.get (by k_asm) (by k_mem)) rfl rfl (readsInts (by assumption))
  | exact reads_list_at (News.get (by k_asm) (by k_mem)) rfl rfl (by walk_at "rds")
  | exact reads_tuple_at (News.get (by k_asm) (by k_mem)) rfl rfl (by walk_at "rds"))
local macro_rules | `(tactic| walk_at "call ref") => `(tactic| (k_here; k_dflt (refine' encode_spec ?X ?T ?d ?x ?l ?i ?n ?b ?_; (case X => k_in); (case T => walk_at "top"); (case d => walk_at "room"); (case x => first | assumption | omega); (case l => walk_at "alist"); (case i => assumption); (case n => omega); (case b => assumption); intro t' h' tk' hg'; have hb' := backI (by k_asm) (by k_asm) hg'; obtain ⟨F', N'⟩ := hb')))
local macro_rules | `(tactic| walk_at "call builtin:len") => `(tactic| (k_here; (with_reducible show wpAny _ _ (call (Value.builtin "len") [Value.str _ _]) _ _ _); k_dflt (refine PySem.P.len_str (by ((try simp only [PySem.Str.length] at *); omega)) ?_)))
local macro_rules | `(tactic| walk_at "S7") => `(tactic| repeat' (first
  | (k_unfold; (try dsimp only))
  | ((with_reducible show Frag.In _ _ ∧ _); walk1)
  | (fail_if_success (k_end; skip)); (fail_if_success walk_at "stop"); (fail_if_success (with_reducible show wpAny _ _ (execs (Stmt.Assign _ (Expr.BinOp _ _ _ _) _ :: _) _) _ _ _)); first | walk1 | (dsimp only; walk1)))
local macro_rules | `(tactic| walk_at "S8") => `(tactic| repeat' (first
  | (k_unfold; (try dsimp only))
  | ((with_reducible show Frag.In _ _ ∧ _); walk1)
  | (fail_if_success (k_end; skip)); (fail_if_success walk_at "stop"); (fail_if_success (with_reducible show wpAny _ _ (execs (Stmt.Assign [Expr.Name "made" _] (Expr.BinOp _ _ _ _) _ :: _) _) _ _ _)); first | walk1 | (dsimp only; walk1)))
local macro_rules | `(tactic| walk_at "subscriptTail Name Name str int") => `(tactic| (k_dflt (refine item_str (x := signsT _) (fitsSsize_of (N := 9223372036854775808) (by omega) (by omega) (Int.le_refl _)) (by rw [signsT_len]; omega) (by rw [signsT_len]; omega) ?_; intro _)))
local macro_rules | `(tactic| walk_at "subscriptTail Name BinOp str int") => `(tactic| (k_dflt (refine item_str (x := signsT _) (fitsSsize_of (N := 9223372036854775808) (by omega) (by omega) (Int.le_refl _)) (by rw [signsT_len]; omega) (by rw [signsT_len]; omega) ?_; intro _)))
local macro_rules | `(tactic| walk_at "tabs") => `(tactic| (repeat' (first | exact List.forall_mem_nil _ | refine List.forall_mem_cons.mpr ⟨by first | exact listTab | exact notTab (by assumption) | exact (fun _ e => by cases e), ?_⟩)))
local macro_rules | `(tactic| walk_at "S9") => `(tactic| repeat' (first
  | (k_unfold; (try dsimp only))
  | ((with_reducible show Frag.In _ _ ∧ _); walk1)
  | (fail_if_success (k_end; skip)); (fail_if_success walk_at "stop"); (fail_if_success (with_reducible show wpAny _ _ (execs (Stmt.Assign [Expr.Name "told" _] (Expr.BinOp _ _ _ _) _ :: _) _) _ _ _)); first | walk1 | (dsimp only; walk1)))
local macro_rules | `(tactic| walk_at "subscriptTail Name Name ref int") => `(tactic| (k_dflt (refine' int_item ?l ?i ?z ?a ?b ?_; (case l => walk_at "alist"); (case i => with_reducible assumption); (case z => omega); (case a => omega); (case b => omega); intro _)))
local macro_rules | `(tactic| walk_at "subscriptTail Name BinOp ref int") => `(tactic| (k_dflt (refine' int_item ?l ?i ?z ?a ?b ?_; (case l => walk_at "alist"); (case i => with_reducible assumption); (case z => omega); (case a => omega); (case b => omega); intro _)))
local macro_rules | `(tactic| walk_at "subscriptTail Name Slice ref ref") => `(tactic| (k_here; k_dflt (refine' sliceFrom ?F ?N ?l ?i ?z ?a ?_; (case F => k_asm); (case N => k_asm); (case l => walk_at "alist"); (case i => with_reducible assumption); (case z => omega); (case a => omega)); intro D' arr2' h' F' N' l1 hI'))
local macro_rules | `(tactic| walk_at "subscriptTail Name Slice ref ref") => `(tactic| (k_here; k_dflt (refine' sliceTo ?F ?N ?l ?i ?z ?a ?_; (case F => k_asm); (case N => k_asm); (case l => walk_at "alist"); (case i => with_reducible assumption); (case z => omega); (case a => omega)); intro D' arr2' h' F' N' l1 hI'))
local macro_rules | `(tactic| walk_at "S10") => `(tactic| repeat' (first
  | (k_unfold; (try dsimp only))
  | ((with_reducible show Frag.In _ _ ∧ _); walk1)
  | (fail_if_success (k_end; skip)); (fail_if_success walk_at "stop"); (fail_if_success (with_reducible show wpAny _ _ (execs (Stmt.If _ _ _ _ :: _) _) _ _ _)); (fail_if_success (with_reducible show wpAny _ _ (call _ [Value.ref _]) _ _ _)); first | walk1 | (dsimp only; walk1)))
local macro_rules | `(tactic| k_ne) => `(tactic| exact newsNe (by k_asm) (by k_mem) (by k_mem) (by k_asm) (fun _ e => by cases e))
local macro_rules | `(tactic| walk_at "lits") => `(tactic| first | exact IntsAre.nil | (refine IntsAre.cons _ _ ?_; walk_at "lits"))
local macro_rules | `(tactic| k_ne) => `(tactic| (refine neN ?_; (try dsimp only); first | (with_reducible assumption) | exact Ne.symm (by with_reducible assumption) | exact off1_mem (by k_asm) (_, _) (by k_mem) | exact Ne.symm (off1_mem (by k_asm) (_, _) (by k_mem))))
local macro_rules | `(tactic| walk_at "storeName") => `(tactic| (k_here; (first | (with_reducible show wpAny _ _ (storeName _ (PySem.Str.ofString "upper") _) _ _ _) | (with_reducible show wpAny _ _ (storeName _ (PySem.Str.ofString "lower") _) _ _ _) | (with_reducible show wpAny _ _ (storeName _ (PySem.Str.ofString "turn") _) _ _ _) | (with_reducible show wpAny _ _ (storeName _ (PySem.Str.ofString "told") _) _ _ _)); k_dflt (refine' storeX_C ?F ?N ?c ?U ?d ?_ ?a ?b; (case a => rfl); (case b => rfl); (case F => k_asm); (case N => k_asm); (case c => rfl); (case U => k_updF); (case d => k_asm); k_whole; intro h' o' F' N' d'; (try dsimp only at N'); (try k_sweep))))
local macro_rules | `(tactic| walk_at "S5") => `(tactic| repeat' (first
  | (k_unfold; (try dsimp only))
  | ((with_reducible show Frag.In _ _ ∧ _); walk1)
  | (fail_if_success (k_end; skip)); (fail_if_success walk_at "stop"); (fail_if_success (with_reducible show wpAny _ _ (execs (Stmt.Assign _ (Expr.ListComp _ _ _ _) _ :: _) _) _ _ _)); first | walk1 | (dsimp only; walk1)))
local macro_rules | `(tactic| walk_at "storeName") => `(tactic| (k_here; (first | (with_reducible show wpAny _ _ (storeName _ (PySem.Str.ofString "state") _) _ _ _) | (with_reducible show wpAny _ _ (storeName _ (PySem.Str.ofString "name") _) _ _ _) | (with_reducible show wpAny _ _ (storeName _ (PySem.Str.ofString "numbers") _) _ _ _) | (with_reducible show wpAny _ _ (storeName _ (PySem.Str.ofString "place") _) _ _ _) | (with_reducible show wpAny _ _ (storeName _ (PySem.Str.ofString "bare") _) _ _ _)); k_dflt (refine' storeX_C ?F ?N ?c ?U ?d ?_ ?a ?b; (case a => rfl); (case b => rfl); (case F => k_asm); (case N => k_asm); (case c => rfl); (case U => k_updF); (case d => k_asm); k_whole; intro h' o' F' N' d'; (try dsimp only at N'); (try k_sweep))))
local macro_rules | `(tactic| walk_at "call ref") => `(tactic| (k_here; k_dflt (refine' next_spec ?k0 ?k1 ?k2 ?k3 ?k4 ?k5 ?k6 ?k7 ?k8 ?k9 ?kA ?kB ?kC ?kD ?_; (case k2 => exact Fr.keep (by k_asm)); (case k0 => with_reducible assumption); (case k1 => with_reducible assumption); (case k3 => exact newsNone (by k_asm) (by k_mem)); (case k4 => walk_at "room"); (case k5 => exact News.get (by k_asm) (by k_mem)); (case k6 => walk_at "alist"); (case k7 => with_reducible assumption); (case k8 => omega); (case k9 => with_reducible assumption); (case kA => with_reducible assumption); (case kB => with_reducible assumption); (case kC => omega); (case kD => omega); intro v' t' i' r' t1' t2' k' h' tk' hv0' hv1' hi0' hr0' hk' hS'; have hb' := backS (by k_asm) (by k_asm) (by k_updF) hk' hS'; obtain ⟨F', N'⟩ := hb'; clear hk' hS'; (try dsimp only at N'); (try k_sweep))))
local macro_rules | `(tactic| walk_at "call ref") => `(tactic| (k_here; k_dflt (refine' put_spec ?X ?T ?d ?l ?i ?n ?p ?_; (case X => k_in); (case T => walk_at "top"); (case d => walk_at "room"); (case l => walk_at "alist"); (case i => with_reducible assumption); (case n => omega); (case p => omega); intro l' arr' k' h' tk' hg' hn' ho' hI'; have hb' := backL (by k_asm) (by k_asm) hg' hn' ho'; obtain ⟨F', N', o1'⟩ := hb')))
local macro_rules | `(tactic| walk_at "subscriptTail Call Constant ref int") => `(tactic| (k_dflt (refine' int_item ?l ?i ?z ?a ?b ?_; (case l => walk_at "alist"); (case i => with_reducible assumption); (case z => walk_at "len"); (case a => omega); (case b => walk_at "len"); intro _)))
local macro_rules | `(tactic| walk_at "subscriptTail List Name ref int") => `(tactic| (k_dflt (refine' int_item ?l ?i ?z ?a ?b ?_; (case l => walk_at "alist"); (case i => walk_at "lits"); (case z => decide); (case a => omega); (case b => (simp only [List.length_cons, List.length_nil]; omega)); intro _)))
local macro_rules | `(tactic| walk_at "S12") => `(tactic| repeat' (first
  | (k_unfold; (try dsimp only))
  | ((with_reducible show Frag.In _ _ ∧ _); walk1)
  | (fail_if_success (k_end; skip)); (fail_if_success walk_at "stop"); (fail_if_success (with_reducible show wpAny _ _ (execs (Stmt.Assign [Expr.Name "bare" _] _ _ :: _) _) _ _ _)); first | walk1 | (dsimp only; walk1)))
local macro_rules | `(tactic| walk_at "S13") => `(tactic| repeat' (first
  | (k_unfold; (try dsimp only))
  | ((with_reducible show Frag.In _ _ ∧ _); walk1)
  | (fail_if_success (k_end; skip)); (fail_if_success walk_at "stop"); (fail_if_success (with_reducible show wpAny _ _ (execs (Stmt.Assign [Expr.Name "fits" _] _ _ :: _) _) _ _ _)); first | walk1 | (dsimp only; walk1)))
local macro_rules | `(tactic| walk_at "binaryOp FloorDiv int int") => `(tactic| (k_here; k_dflt (refine floordiv_int (by with_reducible assumption) ?_ (Or.inl (PyProof.noPylong_small (by with_reducible assumption))))))
local macro_rules | `(tactic| walk_at "adrs") => `(tactic| (repeat' (first | exact List.forall_mem_nil _ | refine List.forall_mem_cons.mpr ⟨by first | exact newsDiff (by k_asm) (by k_mem) (by k_mem) (listTab _) | exact newsDiff (by k_asm) (by k_mem) (by k_mem) (notTab (by k_asm) _) | exact Ne.symm (off1_mem (by k_asm) (_, _) (by k_mem)), ?_⟩)))
theorem boolTrue {Q : Value → Shared → Prop} {s : Shared} {a b : Bool} (e : a = b) (h : Q (.bool b) s) : Q (.bool a) s := by rw [e]; exact h
theorem itemIs {prog : Program} {w : World} {A : Around} {E : Value → Shared → Prop} {s : Shared} {value slice : PySem.Expr} {x y : Str} {i : Int} {u t : Tok} {Q : Value → Shared → Prop} (e : Txt.item x i = y) (hr : fitsSsize i = true) (h1 : -(x.length : Int) ≤ i) (h2 : i < x.length)
    (h : Q (.str y s.toks) { s with toks := s.toks + 1 })
    (hs : subscripted slice false (.str x t) (.int i u) = operate [.str x t, .int i u] (getItem (.str x t) (.int i u)) := by with_unfolding_all rfl)
    (ht : ∀ r, letTemporaryGo value (.str x t) r = pure () := by intro _; with_unfolding_all rfl) :
    wpAny (model prog w) A (subscriptTail value slice (.str x t) (.int i u)) Q E s :=
  item_str hr h1 h2 (fun _ => by rw [e]; exact h) hs ht
set_option maxHeartbeats 40000000 in
theorem partD {w : World} {dp un : Nat} {fr : Option (List Env)} {gd : Option (List Code)} {s : Shared} {p : Program} {loose : List Str} {mean : ExcName → Option Value} {mg mb : Str → Option Value} {Q : Value → Shared → Prop}
    {h₀ h : Heap} {L tk : Nat} {u : Str → Option Value} {name : Str} {body : List Stmt} {scope : Scope} {cdv : Value}
    (ho : FnAt (Mine.hd.heap_39 w.params) 67 name body scope cdv)
    (X : (Mine.hd.heap_39 w.params).In h₀) (T : Top p loose mean mg mb h₀) (C : CodeHd h₀ 47 45) (hG : AllBare s.gens) (hd : dp + 40 < recursionLimit) (hu : un + 1000 < cLine)
    {NL FL : Addr} {na fa : Array Value} {nk fk pl b f : Nat} {x : Str} {tx tp tm tt tb : Tok} {ns : List Int} {many turn : Int} {o1 o2 o3 o4 : Obj}
    (hx : NameIs x x.length) (hx0 : 1 ≤ x.length) (hx2 : x.length ≤ 2) (hI : IntsAre na.toList ns) (hn0 : pl < ns.length) (hn4 : ns.length ≤ 4) (hnb : ∀ n ∈ ns, 0 ≤ n ∧ n < 32)
    (hm1 : 1 ≤ many) (hm4 : many ≤ 4) (ht1 : 1 ≤ turn) (ht2 : turn < 32) (hfi : IntsAre fa.toList [(f : Int)]) (hf : f < 32) (hbf : b ^^^ mulB f (kapL (ns.length - 1 - pl)) = 1)
    (hb : b < 32) (hbv : ∀ v : Nat, v < 32 → (checkZ x (putZ ns pl (v : Int))).getD 5 0 = ((b ^^^ mulB v (kapL (ns.length - 1 - pl)) : Nat) : Int))
    (d1 : o1.data = .cell (some (.int (b : Int) tb))) (d2 : o2.data = .cell (some (.int (pl : Int) tp))) (d3 : o3.data = .cell (some (.ref NL))) (d4 : o4.data = .cell (some (.str x tx)))
    (F : Fr h₀ L h (kstB u [("many", .int many tm), ("turn", .int turn tt), ("fits", .ref FL)]))
    (N : News h₀ L h [(FL, W.listOf fa fk), (NL, W.listOf na nk), (L + 1 + 1 + 1 + 1 + 1, o1), (L + 1 + 1 + 1 + 1, o2), (L + 1 + 1 + 1, o3), (L + 1 + 1, o4), (45, tabObj #[])])
    (ret : ∀ s' ps, s'.os = s.os → AllBare s'.gens → (∀ b o, h₀.get? b = some o → s'.heap.get? b = some o) → s'.heap.get? 45 = some (tabObj ps) → Q (.bool true) s') :
    wpAny (model PySem.Challenge.rw_oo0007_03.row.prog w) ((AA dp un fr gd).deeper (envOfC name scope L 67 cdv)) (execs (body.drop 8) (envOfC name scope L 67 cdv))
        (fun fl s' => Q (match fl with | .ret v => v | _ => .none) s') (fun _ _ => False) { s with heap := h, toks := tk } := by
  revert ho X; k_fill; intro ho X
  obtain ⟨rfl, rfl, rfl, rfl⟩ := ho.inj (.mk (by k_is))
  clear ho
  simp only [List.drop]
  have hF : Fits x ns pl b f := ⟨hn0, hn4, hnb, hf, hbf, hb, hbv⟩
  have hxl : x.length = x.cps.size := rfl
  have hxb : ∀ c ∈ x.cps.toList, c ≤ 126 := fun c hc => (hx.signs c (by simpa using hc)).2.1
  have hpz : (putZ ns ((pl : Int).toNat) (f : Int)).length = ns.length := put_len hn0
  have hpb : ∀ n ∈ putZ ns ((pl : Int).toNat) (f : Int), 0 ≤ n ∧ n < 32 := put_low hnb ⟨by omega, by omega⟩
  have hcz := checkZ_len x (putZ ns ((pl : Int).toNat) (f : Int))
  have hq : (checkZ x (putZ ns ((pl : Int).toNat) (f : Int))).getD 5 0 = 1 := by
    have h1 := hbv f hf
    rw [hbf] at h1
    exact h1
  have hok := check_N hxb hpb
  generalize hms : putZ ns ((pl : Int).toNat) (f : Int) = ms at *
  have hfl1 : ([(f : Int)] : List Int).length = 1 := rfl
  have hfa : fa.size = 1 := by have := hfi.length; rw [Array.length_toList] at this; exact this
  walk_at "S"
  · exfalso
    rename _ ≠ (1 : Int) => hx1
    omega
  rename IntsAre _ (putZ _ _ _) => hM
  replace hM : IntsAre _ (putZ ns (pl : Int).toNat (f : Int)) := hM
  have kF : IntsAre _ (putZ ns pl (f : Int)) ∧ IntsAre fa.toList [(f : Int)] := ⟨hM, hfi⟩
  rw [hms] at hM
  rename Off1 _ _ => hoff
  rename_i ML ma mk _ _ _ _ _ _ oN _ _ dN
  clear hfi hI
  obtain ⟨w9, hw, hw2⟩ := getLast_one hq
  have hitem : Txt.item (textOf x (ms ++ checkZ x ms)) (-1) = PySem.Str.ofString "p" := by rw [hw, text_last, p_sign]
  have htl := text_len x (ms ++ checkZ x ms)
  have hml : (ms ++ checkZ x ms).length = ms.length + 6 := by rw [List.length_append, hcz]
  have hmb : ∀ n ∈ ms ++ checkZ x ms, 0 ≤ n ∧ n < 32 := fun n hm => (List.mem_append.mp hm).elim (hpb n) (checkZ_bound x ms n)
  have htk : (ms ++ checkZ x ms).take ((ms ++ checkZ x ms).length - 6) = ms := by rw [hml, Nat.add_sub_cancel]; exact List.take_left
  have layX := okD_lay (rs := ms) (fun c hc => (hx.signs c hc).2.1)
  walk_at "S3"
  rename_i WL wa wk _ hW _ tT _ _ _ _ _ _ _ _ _ F5 N5
  have kW : IntsAre wa.toList (ms ++ checkZ x ms) ∧ IntsAre ma.toList ms := ⟨hW, hM⟩
  have N6 : News h₀ L _ [(WL, W.listOf wa wk), (ML, W.listOf ma mk), (FL, W.listOf fa fk), (L + 1 + 1 + 1 + 1 + 1, o1), (L + 1 + 1 + 1 + 1, o2), (L + 1 + 1 + 1, oN), (L + 1 + 1, o4), (45, tabObj #[])] := news_sub N5 (by walk_at "mems")
  clear N5
  walk_at "S"
  · exfalso
    rename (_ != _) = true => hx1
    rw [hitem] at hx1
    simp at hx1
  refine decode_spec (ps := #[]) (by k_in) (by walk_at "top") (CodeHd.keeps C (Fr.keep F5)) (News.get N6 (by k_mem)) (by trivial) hG (by walk_at "room") (by omega) (by omega) (fun c hc => hx.signs c (by simpa using hc)) (by omega) (by omega) hmb ?_ (fun e => absurd hok e)
  intro _ l dl t2 arr2 k3 k4 s2 ps2 hos2 hG2 hk2 h462 ht2' hl2 hdl2 hne2 ho2 hdo2 hI2'
  obtain ⟨F2, N2, B2⟩ := backD2 (pre := [(WL, W.listOf wa wk), (ML, W.listOf ma mk), (FL, W.listOf fa fk), (L + 1 + 1 + 1 + 1 + 1, o1), (L + 1 + 1 + 1 + 1, o2), (L + 1 + 1 + 1, oN), (L + 1 + 1, o4)]) F5 N6 (by walk_at "tabs") hk2 h462
  have N2 := news_two (B2 l _ hl2 ho2 (fun _ e => by cases e)).1 (B2 dl _ hdl2 hdo2 (fun _ e => by cases e)).1
  rw [htk] at hI2'
  clear N6 F5 B2 hk2 h462
  replace N2 : News h₀ L s2.heap [(l, _), (dl, _), (WL, W.listOf wa wk), (ML, W.listOf ma mk), (FL, W.listOf fa fk), (L + 1 + 1 + 1 + 1 + 1, o1), (L + 1 + 1 + 1 + 1, o2), (L + 1 + 1 + 1, oN), (L + 1 + 1, o4), (45, tabObj ps2)] := N2
  walk_at "S2"
  refine ne_dataH (da := okD x ms) (db := okD x ms) (by walk_at "rd") (by walk_at "rd") (shaped_one ⟨layX.1, by omega⟩) (shaped_one ⟨layX.1, by omega⟩) (by first | ke_room | (show un + _ < _; omega)) ?_
  rw [eqv_ok]
  walk_at "S3"
  rename News _ _ _ _ => N7
  rename Fr _ _ _ _ => F7
  have hoE : FnAt (Mine.hd.heap_39 w.params) 67 _ _ _ _ := .mk (by k_is)
  exact partE (s := s2) hoE X T C hG2 hd hu hx hx0 hx2 kW.1 hw (by omega) (by omega) hmb hok hF ht1 ht2 kF.1 kF.2 ht2' hm1 hm4 d2 dN d4 (frTold _ F7 (by walk_at "told")) (news_sub N7 (by walk_at "mems")) (fun s9 p9 h1 h2 h3 h4 => ret s9 p9 (h1.trans hos2) h2 h3 h4)
end Mine
end
namespace Mine
theorem anew_L3d : True ∧ True := by
  w_top off
  walk1
  all_goals trivial
end Mine
section
open PySem PySem.W PySem.Calls PyProof.Rows
set_option maxRecDepth 100000
set_option linter.unusedVariables false
namespace Mine
open LCg
local macro_rules | `(tactic| walk_at "binaryOp LShift int int") => `(tactic| (refine lshift_int_small (by decide) (by decide) (bits_and25 _) ?_))
local macro_rules | `(tactic| walk_at "stop") => `(tactic| first
  | (with_reducible show wpAny _ _ (exec (Stmt.For _ _ _ _ _) _) _ _ _)
  | (with_reducible show wpAny _ _ (exec (Stmt.Assign _ (Expr.ListComp _ _ _ _) _) _) _ _ _)
  | (with_reducible show wpAny _ _ (exec (Stmt.While _ _ _ _) _) _ _ _)
  | (with_reducible show wpAny _ _ (eval (Expr.ListComp _ _ _ _) _) _ _ _)
  | (with_reducible show wpAny _ _ (eval (Expr.GeneratorExp _ _ _ _) _) _ _ _)
  | (with_reducible show wpAny _ _ (call (Value.builtin "any") _) _ _ _)
  | (with_reducible show wpAny _ _ (call (Value.builtin "all") _) _ _ _)
  | (with_reducible show wpAny _ _ (pyIter _) _ _ _))
local macro_rules | `(tactic| walk_at "S") => `(tactic| repeat' (first
  | (k_unfold; (try dsimp only))
  | ((with_reducible show Frag.In _ _ ∧ _); walk1)
  | (fail_if_success (k_end; skip)); (fail_if_success walk_at "stop"); first | walk1 | (dsimp only; walk1)))
local macro_rules | `(tactic| walk_at "S2") => `(tactic| repeat' (first
  | (k_unfold; (try dsimp only))
  | ((with_reducible show Frag.In _ _ ∧ _); walk1)
  | (fail_if_success (k_end; skip)); (fail_if_success walk_at "stop"); (fail_if_success (with_reducible show wpAny _ _ (compareOp _ (Value.ref _) (Value.ref _)) _ _ _)); first | walk1 | (dsimp only; walk1)))
local macro_rules | `(tactic| walk_at "S4") => `(tactic| repeat' (first
  | (k_unfold; (try dsimp only))
  | ((with_reducible show Frag.In _ _ ∧ _); walk1)
  | (fail_if_success (k_end; skip)); (fail_if_success walk_at "stop"); (fail_if_success (with_reducible show wpAny _ _ (execs (Stmt.For _ _ _ _ _ :: _) _) _ _ _)); first | walk1 | (dsimp only; walk1)))
local macro_rules | `(tactic| walk_at "S6") => `(tactic| repeat' (first
  | (k_unfold; (try dsimp only))
  | ((with_reducible show Frag.In _ _ ∧ _); walk1)
  | (fail_if_success (k_end; skip)); (fail_if_success walk_at "stop"); (fail_if_success (with_reducible show wpAny _ _ (execs (Stmt.Assign [Expr.Tuple _ _ _] (Expr.ListComp _ _ _ _) _ :: _) _) _ _ _)); first | walk1 | (dsimp only; walk1)))
local macro_rules | `(tactic| walk_at "one") => `(tactic| exact List.forall_mem_cons.mpr ⟨rfl, List.forall_mem_nil _⟩)
local macro_rules | `(tactic| walk_at "others") => `(tactic| (intro z h1 h2 h3; have h4 := h2 _ (.head _); simp only [kstB, if_neg h1, if_neg h4, h3, Bool.false_eq_true, if_false]))
local macro_rules | `(tactic| walk_at "len") => `(tactic| ((try simp only [List.length_append, List.length_cons, List.length_nil, List.length_map, expandZ_len, checkZ_len, rangeKs_length] at *); omega))
local macro_rules | `(tactic| walk_at "binaryOp Add ref ref") => `(tactic| (k_here; k_dflt (refine' addInts ?F ?N ?l ?b ?i ?j ?z ?_; (case F => k_asm); (case N => k_asm); (case l => walk_at "alist"); (case b => walk_at "alist"); (case i => first | assumption | l_ints); (case j => first | assumption | l_ints); (case z => walk_at "len"); intro D' arr' k' h' F' N' hI' o1')))
local macro_rules | `(tactic| walk_at "room") => `(tactic| (dsimp only [AA]; omega))
local macro_rules | `(tactic| walk_at "top") => `(tactic| exact Top.keeps (by assumption) (Fr.keep (by k_asm)))
local macro_rules | `(tactic| walk_at "alist") => `(tactic| first | (with_reducible assumption) | exact isList_in (by k_asm) (by k_mem) | (refine Heap.IsList.at (h := _) (by assumption) (fun o e => Fr.keep (by k_asm) _ o e)))
local macro_rules | `(tactic| walk_at "call ref") => `(tactic| (k_here; k_dflt (refine' expand_spec ?X ?T ?d ?x ?_; (case X => k_in); (case T => walk_at "top"); (case d => walk_at "room"); (case x => first | assumption | omega); intro l' arr' k' h' tk' hg' hn' ho' hI'; have hb' := backL (by k_asm) (by k_asm) hg' hn' ho'; obtain ⟨F', N', o1'⟩ := hb')))
local macro_rules | `(tactic| walk_at "call ref") => `(tactic| (k_here; k_dflt (refine' poly_spec ?X ?T ?d ?l ?i ?_; (case X => k_in); (case T => walk_at "top"); (case d => walk_at "room"); (case l => walk_at "alist"); (case i => assumption); intro t' h' tk' hg'; have hb' := backI (by k_asm) (by k_asm) hg'; obtain ⟨F', N'⟩ := hb')))
local macro_rules | `(tactic| walk_at "call ref") => `(tactic| (k_here; k_dflt (refine' create_spec ?X ?T ?d ?x ?l ?i ?n ?_; (case X => k_in); (case T => walk_at "top"); (case d => walk_at "room"); (case x => first | assumption | omega); (case l => walk_at "alist"); (case i => assumption); (case n => walk_at "len"); intro l' arr' k' h' tk' hg' hn' ho' hI'; have hb' := backL (by k_asm) (by k_asm) hg' hn' ho'; obtain ⟨F', N', o1'⟩ := hb')))
local macro_rules | `(tactic| walk_at "call ref") => `(tactic| (k_here; k_dflt (refine' verify_spec ?X ?T ?d ?x ?l ?i ?n ?_; (case X => k_in); (case T => walk_at "top"); (case d => walk_at "room"); (case x => first | assumption | omega); (case l => walk_at "alist"); (case i => assumption); (case n => walk_at "len"); intro h' tk' hg'; have hb' := backI (by k_asm) (by k_asm) hg'; obtain ⟨F', N'⟩ := hb')))
local macro_rules | `(tactic| walk_at "slen") => `(tactic| ((try simp only [PySem.Str.length_append, Str.cps_append, len_one, len_one2, PySem.Str.length, Array.size_append, List.size_toArray, List.length_map, List.length_append, checkZ_len] at *); rw [sizeLine_eq]; omega))
local macro_rules | `(tactic| walk_at "binaryOp Add str str") => `(tactic| (k_dflt (refine' PyProof.Rows.add_str ?_ ?z; (case z => walk_at "slen"); intro t' tk')))
local macro_rules | `(tactic| walk_at "subscriptTail Name Name str int") => `(tactic| (k_dflt (refine item_str (x := CH) (fitsSsize_of (N := 9223372036854775808) (by omega) (by omega) (Int.le_refl _)) (by rw [ch_len]; omega) (by rw [ch_len]; omega) ?_; intro _)))
local macro_rules | `(tactic| walk_at "eval Name") => `(tactic| (k_here; (with_reducible show wpAny _ _ (eval (Expr.Name _ _) (genEnv _ _ _ _ _ _)) _ _ _); k_dflt (first
  | (refine nameG_L (by k_asm) (by assumption) ?_)
  | (refine nameG_K (by k_asm) (by k_asm) (by k_asm) (by rfl) (by k_is) ?_)
  | (refine nameG_B (by k_asm) (by k_asm) (by k_asm) (by rfl) (by k_is) (by boot_by_name) (by decide) ?_))))
local macro_rules | `(tactic| walk_at "call builtin:len") => `(tactic| (k_here; (with_reducible show wpAny _ _ (call (Value.builtin "len") [Value.ref _]) _ _ _); k_dflt (refine' PyProof.Rows.len_list ?l ?z ?_; (case l => walk_at "alist"); (case z => walk_at "len"))))


local macro_rules | `(tactic| walk_at "mems") => `(tactic| first | exact List.forall_mem_nil _ | exact List.forall_mem_cons.mpr ⟨by k_mem, by walk_at "mems"⟩)
local macro_rules | `(tactic| walk_at "told") => `(tactic| first | exact List.forall_mem_nil _ | exact List.forall_mem_cons.mpr ⟨rfl, by walk_at "told"⟩)
local macro_rules | `(tactic| walk_at "S3") => `(tactic| repeat' (first
  | (k_unfold; (try dsimp only))
  | ((with_reducible show Frag.In _ _ ∧ _); walk1)
  | (fail_if_success (k_end; skip)); (fail_if_success walk_at "stop"); (fail_if_success (with_reducible show wpAny _ _ (execs (Stmt.If _ _ _ _ :: _) _) _ _ _)); first | walk1 | (dsimp only; walk1)))
local macro_rules | `(tactic| walk_at "clss") => `(tactic| (repeat' (first | exact List.forall_mem_nil _ | refine List.forall_mem_cons.mpr ⟨by rintro ⟨⟩, ?_⟩)))
local macro_rules | `(tactic| walk_at "rds") => `(tactic| first | exact ReadsAll.nil | exact ReadsAll.cons (by walk_at "rd") (by walk_at "rds"))
local macro_rules | `(tactic| walk_at "rd") => `(tactic| first
  | exact Reads.none
  | exact Reads.str _ _
  | exact reads_list_at (News.get (by k_asm) (by k_mem)) rfl rfl (readsInts (by assumption))
  | exact reads_list_at (News.get (by k_asm) (by k_mem)) rfl rfl (by walk_at "rds")
  | exact reads_tuple_at (News.get (by k_asm) (by k_mem)) rfl rfl (by walk_at "rds"))
local macro_rules | `(tactic| walk_at "call ref") => `(tactic| (k_here; k_dflt (refine' encode_spec ?X ?T ?d ?x ?l ?i ?n ?b ?_; (case X => k_in); (case T => walk_at "top"); (case d => walk_at "room"); (case x => first | assumption | omega); (case l => walk_at "alist"); (case i => assumption); (case n => omega); (case b => assumption); intro t' h' tk' hg'; have hb' := backI (by k_asm) (by k_asm) hg'; obtain ⟨F', N'⟩ := hb')))
local macro_rules | `(tactic| walk_at "call builtin:len") => `(tactic| (k_here; (with_reducible show wpAny _ _ (call (Value.builtin "len") [Value.str _ _]) _ _ _); k_dflt (refine PySem.P.len_str (by ((try simp only [PySem.Str.length] at *); omega)) ?_)))
local macro_rules | `(tactic| walk_at "S7") => `(tactic| repeat' (first
  | (k_unfold; (try dsimp only))
  | ((with_reducible show Frag.In _ _ ∧ _); walk1)
  | (fail_if_success (k_end; skip)); (fail_if_success walk_at "stop"); (fail_if_success (with_reducible show wpAny _ _ (execs (Stmt.Assign _ (Expr.BinOp _ _ _ _) _ :: _) _) _ _ _)); first | walk1 | (dsimp only; walk1)))
local macro_rules | `(tactic| walk_at "S8") => `(tactic| repeat' (first
  | (k_unfold; (try dsimp only))
  | ((with_reducible show Frag.In _ _ ∧ _); walk1)
  | (fail_if_success (k_end; skip)); (fail_if_success walk_at "stop"); (fail_if_success (with_reducible show wpAny _ _ (execs (Stmt.Assign [Expr.Name "made" _] (Expr.BinOp _ _ _ _) _ :: _) _) _ _ _)); first | walk1 | (dsimp only; walk1)))
local macro_rules | `(tactic| walk_at "subscriptTail Name Name str int") => `(tactic| (k_dflt (refine item_str (x := signsT _) (fitsSsize_of (N := 9223372036854775808) (by omega) (by omega) (Int.le_refl _)) (by rw [signsT_len]; omega) (by rw [signsT_len]; omega) ?_; intro _)))
local macro_rules | `(tactic| walk_at "subscriptTail Name BinOp str int") => `(tactic| (k_dflt (refine item_str (x := signsT _) (fitsSsize_of (N := 9223372036854775808) (by omega) (by omega) (Int.le_refl _)) (by rw [signsT_len]; omega) (by rw [signsT_len]; omega) ?_; intro _)))
local macro_rules | `(tactic| walk_at "tabs") => `(tactic| (repeat' (first | exact List.forall_mem_nil _ | refine List.forall_mem_cons.mpr ⟨by first | exact listTab | exact notTab (by assumption) | exact (fun _ e => by cases e), ?_⟩)))
local macro_rules | `(tactic| walk_at "S9") => `(tactic| repeat' (first
  | (k_unfold; (try dsimp only))
  | ((with_reducible show Frag.In _ _ ∧ _); walk1)
  | (fail_if_success (k_end; skip)); (fail_if_success walk_at "stop"); (fail_if_success (with_reducible show wpAny _ _ (execs (Stmt.Assign [Expr.Name "told" _] (Expr.BinOp _ _ _ _) _ :: _) _) _ _ _)); first | walk1 | (dsimp only; walk1)))
local macro_rules | `(tactic| walk_at "subscriptTail Name Name ref int") => `(tactic| (k_dflt (refine' int_item ?l ?i ?z ?a ?b ?_; (case l => walk_at "alist"); (case i => with_reducible assumption); (case z => omega); (case a => omega); (case b => omega); intro _)))
local macro_rules | `(tactic| walk_at "subscriptTail Name BinOp ref int") => `(tactic| (k_dflt (refine' int_item ?l ?i ?z ?a ?b ?_; (case l => walk_at "alist"); (case i => with_reducible assumption); (case z => omega); (case a => omega); (case b => omega); intro _)))
local macro_rules | `(tactic| walk_at "subscriptTail Name Slice ref ref") => `(tactic| (k_here; k_dflt (refine' sliceFrom ?F ?N ?l ?i ?z ?a ?_; (case F => k_asm); (case N => k_asm); (case l => walk_at "alist"); (case i => with_reducible assumption); (case z => omega); (case a => omega)); intro D' arr2' h' F' N' l1 hI'))
local macro_rules | `(tactic| walk_at "subscriptTail Name Slice ref ref") => `(tactic| (k_here; k_dflt (refine' sliceTo ?F ?N ?l ?i ?z ?a ?_; (case F => k_asm); (case N => k_asm); (case l => walk_at "alist"); (case i => with_reducible assumption); (case z => omega); (case a => omega)); intro D' arr2' h' F' N' l1 hI'))
local macro_rules | `(tactic| walk_at "S10") => `(tactic| repeat' (first
  | (k_unfold; (try dsimp only))
  | ((with_reducible show Frag.In _ _ ∧ _); walk1)
  | (fail_if_success (k_end; skip)); (fail_if_success walk_at "stop"); (fail_if_success (with_reducible show wpAny _ _ (execs (Stmt.If _ _ _ _ :: _) _) _ _ _)); (fail_if_success (with_reducible show wpAny _ _ (call _ [Value.ref _]) _ _ _)); first | walk1 | (dsimp only; walk1)))
local macro_rules | `(tactic| k_ne) => `(tactic| exact newsNe (by k_asm) (by k_mem) (by k_mem) (by k_asm) (fun _ e => by cases e))
local macro_rules | `(tactic| walk_at "lits") => `(tactic| first | exact IntsAre.nil | (refine IntsAre.cons _ _ ?_; walk_at "lits"))
local macro_rules | `(tactic| k_ne) => `(tactic| (refine neN ?_; (try dsimp only); first | (with_reducible assumption) | exact Ne.symm (by with_reducible assumption) | exact off1_mem (by k_asm) (_, _) (by k_mem) | exact Ne.symm (off1_mem (by k_asm) (_, _) (by k_mem))))
local macro_rules | `(tactic| walk_at "storeName") => `(tactic| (k_here; (first | (with_reducible show wpAny _ _ (storeName _ (PySem.Str.ofString "upper") _) _ _ _) | (with_reducible show wpAny _ _ (storeName _ (PySem.Str.ofString "lower") _) _ _ _) | (with_reducible show wpAny _ _ (storeName _ (PySem.Str.ofString "turn") _) _ _ _) | (with_reducible show wpAny _ _ (storeName _ (PySem.Str.ofString "told") _) _ _ _)); k_dflt (refine' storeX_C ?F ?N ?c ?U ?d ?_ ?a ?b; (case a => rfl); (case b => rfl); (case F => k_asm); (case N => k_asm); (case c => rfl); (case U => k_updF); (case d => k_asm); k_whole; intro h' o' F' N' d'; (try dsimp only at N'); (try k_sweep))))
local macro_rules | `(tactic| walk_at "S5") => `(tactic| repeat' (first
  | (k_unfold; (try dsimp only))
  | ((with_reducible show Frag.In _ _ ∧ _); walk1)
  | (fail_if_success (k_end; skip)); (fail_if_success walk_at "stop"); (fail_if_success (with_reducible show wpAny _ _ (execs (Stmt.Assign _ (Expr.ListComp _ _ _ _) _ :: _) _) _ _ _)); first | walk1 | (dsimp only; walk1)))
local macro_rules | `(tactic| walk_at "storeName") => `(tactic| (k_here; (first | (with_reducible show wpAny _ _ (storeName _ (PySem.Str.ofString "state") _) _ _ _) | (with_reducible show wpAny _ _ (storeName _ (PySem.Str.ofString "name") _) _ _ _) | (with_reducible show wpAny _ _ (storeName _ (PySem.Str.ofString "numbers") _) _ _ _) | (with_reducible show wpAny _ _ (storeName _ (PySem.Str.ofString "place") _) _ _ _) | (with_reducible show wpAny _ _ (storeName _ (PySem.Str.ofString "bare") _) _ _ _)); k_dflt (refine' storeX_C ?F ?N ?c ?U ?d ?_ ?a ?b; (case a => rfl); (case b => rfl); (case F => k_asm); (case N => k_asm); (case c => rfl); (case U => k_updF); (case d => k_asm); k_whole; intro h' o' F' N' d'; (try dsimp only at N'); (try k_sweep))))
local macro_rules | `(tactic| walk_at "call ref") => `(tactic| (k_here; k_dflt (refine' next_spec ?k0 ?k1 ?k2 ?k3 ?k4 ?k5 ?k6 ?k7 ?k8 ?k9 ?kA ?kB ?kC ?kD ?_; (case k2 => exact Fr.keep (by k_asm)); (case k0 => with_reducible assumption); (case k1 => with_reducible assumption); (case k3 => exact newsNone (by k_asm) (by k_mem)); (case k4 => walk_at "room"); (case k5 => exact News.get (by k_asm) (by k_mem)); (case k6 => walk_at "alist"); (case k7 => with_reducible assumption); (case k8 => omega); (case k9 => with_reducible assumption); (case kA => with_reducible assumption); (case kB => with_reducible assumption); (case kC => omega); (case kD => omega); intro v' t' i' r' t1' t2' k' h' tk' hv0' hv1' hi0' hr0' hk' hS'; have hb' := backS (by k_asm) (by k_asm) (by k_updF) hk' hS'; obtain ⟨F', N'⟩ := hb'; clear hk' hS'; (try dsimp only at N'); (try k_sweep))))
local macro_rules | `(tactic| walk_at "call ref") => `(tactic| (k_here; k_dflt (refine' put_spec ?X ?T ?d ?l ?i ?n ?p ?_; (case X => k_in); (case T => walk_at "top"); (case d => walk_at "room"); (case l => walk_at "alist"); (case i => with_reducible assumption); (case n => omega); (case p => omega); intro l' arr' k' h' tk' hg' hn' ho' hI'; have hb' := backL (by k_asm) (by k_asm) hg' hn' ho'; obtain ⟨F', N', o1'⟩ := hb')))
local macro_rules | `(tactic| walk_at "subscriptTail Call Constant ref int") => `(tactic| (k_dflt (refine' int_item ?l ?i ?z ?a ?b ?_; (case l => walk_at "alist"); (case i => with_reducible assumption); (case z => walk_at "len"); (case a => omega); (case b => walk_at "len"); intro _)))
local macro_rules | `(tactic| walk_at "subscriptTail List Name ref int") => `(tactic| (k_dflt (refine' int_item ?l ?i ?z ?a ?b ?_; (case l => walk_at "alist"); (case i => walk_at "lits"); (case z => decide); (case a => omega); (case b => (simp only [List.length_cons, List.length_nil]; omega)); intro _)))
local macro_rules | `(tactic| walk_at "S12") => `(tactic| repeat' (first
  | (k_unfold; (try dsimp only))
  | ((with_reducible show Frag.In _ _ ∧ _); walk1)
  | (fail_if_success (k_end; skip)); (fail_if_success walk_at "stop"); (fail_if_success (with_reducible show wpAny _ _ (execs (Stmt.Assign [Expr.Name "bare" _] _ _ :: _) _) _ _ _)); first | walk1 | (dsimp only; walk1)))
local macro_rules | `(tactic| walk_at "S13") => `(tactic| repeat' (first
  | (k_unfold; (try dsimp only))
  | ((with_reducible show Frag.In _ _ ∧ _); walk1)
  | (fail_if_success (k_end; skip)); (fail_if_success walk_at "stop"); (fail_if_success (with_reducible show wpAny _ _ (execs (Stmt.Assign [Expr.Name "fits" _] _ _ :: _) _) _ _ _)); first | walk1 | (dsimp only; walk1)))
local macro_rules | `(tactic| walk_at "binaryOp FloorDiv int int") => `(tactic| (k_here; k_dflt (refine floordiv_int (by with_reducible assumption) ?_ (Or.inl (PyProof.noPylong_small (by with_reducible assumption))))))
local macro_rules | `(tactic| walk_at "adrs") => `(tactic| (repeat' (first | exact List.forall_mem_nil _ | refine List.forall_mem_cons.mpr ⟨by first | exact newsDiff (by k_asm) (by k_mem) (by k_mem) (listTab _) | exact newsDiff (by k_asm) (by k_mem) (by k_mem) (notTab (by k_asm) _) | exact Ne.symm (off1_mem (by k_asm) (_, _) (by k_mem)), ?_⟩)))
theorem intEq {a c : Int} {t : Tok} (e : a = c) : Value.int a t = .int c t := by rw [e]
theorem news_tl {h₀ h : Heap} {L : Addr} {a : Addr × Obj} {r : List (Addr × Obj)} (N : News h₀ L h (a :: r)) : News h₀ L h r := fun p hp => N p (.tail _ hp)
def turnsZ (m : Nat) : List Int := [((mulB 1 (kapL m) : Nat) : Int), ((mulB 2 (kapL m) : Nat) : Int), ((mulB 4 (kapL m) : Nat) : Int), ((mulB 8 (kapL m) : Nat) : Int), ((mulB 16 (kapL m) : Nat) : Int)]
theorem turns_at : ∀ m : Nat, m < 4 → ∀ j : Nat, j < 5 → (turnsZ m).getD j 0 = ((mulB (([1, 2, 4, 8, 16] : List Nat).getD j 0) (kapL m) : Nat) : Int) := by decide +kernel
theorem turns_two : ∀ m : Nat, m < 4 → ∀ j : Nat, j < 5 → (turnsZ m).getD j 0 = ((mulB (2 ^ j) (kapL m) : Nat) : Int) := by decide +kernel
theorem bits_ne : ∀ j : Nat, j < 5 → ([1, 2, 4, 8, 16] : List Int).getD j 0 ≠ 0 ∧ (([1, 2, 4, 8, 16] : List Int).getD j 0).natAbs < 1073741824 := by decide
theorem turn_xor {m b v : Nat} : Builtin.bitXor ((b ^^^ mulB v (kapL m) : Nat) : Int) (b : Int) = ((mulB v (kapL m) : Nat) : Int) := by
  rw [bx, Nat.xor_comm b, Nat.xor_assoc, Nat.xor_self, Nat.xor_zero]
theorem lastK_yes {m b i k : Nat} {la : Int} (hm : m < 4) (hk : k < 5) (h : la = lastK m b i k) (hc : ((0 + (i : Int)).fdiv (([1, 2, 4, 8, 16] : List Int).getD (0 + (k : Int)).toNat 0)).fmod 2 = 1) : Builtin.bitXor la ((turnsZ m).getD (0 + (k : Int)).toNat 0) = lastK m b i (k + 1) := by
  have e : (0 + (k : Int)).toNat = k := by omega
  rw [e, Int.zero_add] at hc
  rw [lastK_succ, if_pos hc, e, turns_two m hm k hk, h]
theorem lastK_no {m b i k : Nat} {la : Int} (h : la = lastK m b i k) (hc : ((0 + (i : Int)).fdiv (([1, 2, 4, 8, 16] : List Int).getD (0 + (k : Int)).toNat 0)).fmod 2 ≠ 1) : Builtin.bitXor la 0 = lastK m b i (k + 1) := by
  have e : (0 + (k : Int)).toNat = k := by omega
  rw [e, Int.zero_add] at hc
  rw [lastK_succ, if_neg hc, h]
theorem intsEq {vs : List Value} {a b : List Int} (e : a = b) (h : IntsAre vs a) : IntsAre vs b := e ▸ h
theorem intsSnoc {fa : Array Value} {n k : Int} {t : Tok} {l l' : List Int} (hl : l' = l ++ [k]) (h : IntsAre fa.toList l) (e : n = k) : IntsAre (fa.push (.int n t)).toList l' := by
  rw [hl, Array.toList_push, ← e]; exact h.append (.cons _ _ .nil)
set_option maxHeartbeats 40000000 in
theorem partC {w : World} {dp un : Nat} {fr : Option (List Env)} {gd : Option (List Code)} {s : Shared} {p : Program} {loose : List Str} {mean : ExcName → Option Value} {mg mb : Str → Option Value} {Q : Value → Shared → Prop}
    {h₀ h : Heap} {L tk : Nat} {u : Str → Option Value} {name : Str} {body : List Stmt} {scope : Scope} {cdv : Value}
    (ho : FnAt (Mine.hd.heap_39 w.params) 67 name body scope cdv)
    (X : (Mine.hd.heap_39 w.params).In h₀) (T : Top p loose mean mg mb h₀) (C : CodeHd h₀ 47 45) (hG : AllBare s.gens) (hd : dp + 40 < recursionLimit) (hu : un + 1000 < cLine)
    {NL TU : Addr} {na ta : Array Value} {nk tk0 pl b : Nat} {x : Str} {tx tp tm tt tb : Tok} {ns : List Int} {many turn : Int} {o1 o2 o3 o4 : Obj}
    (hx : NameIs x x.length) (hx0 : 1 ≤ x.length) (hx2 : x.length ≤ 2) (hI : IntsAre na.toList ns) (hn0 : pl < ns.length) (hn4 : ns.length ≤ 4) (hnb : ∀ n ∈ ns, 0 ≤ n ∧ n < 32)
    (hm1 : 1 ≤ many) (hm4 : many ≤ 4) (ht1 : 1 ≤ turn) (ht2 : turn < 32) (hT : IntsAre ta.toList (turnsZ (ns.length - 1 - pl))) (hb : b < 32) (hbv : ∀ v : Nat, v < 32 → (checkZ x (putZ ns pl (v : Int))).getD 5 0 = ((b ^^^ mulB v (kapL (ns.length - 1 - pl)) : Nat) : Int))
    (d1 : o1.data = .cell (some (.int (b : Int) tb))) (d2 : o2.data = .cell (some (.int (pl : Int) tp))) (d3 : o3.data = .cell (some (.ref NL))) (d4 : o4.data = .cell (some (.str x tx)))
    (F : Fr h₀ L h (kstB u [("many", .int many tm), ("turn", .int turn tt), ("turns", .ref TU)]))
    (N : News h₀ L h [(TU, W.listOf ta tk0), (NL, W.listOf na nk), (L + 1 + 1 + 1 + 1 + 1, o1), (L + 1 + 1 + 1 + 1, o2), (L + 1 + 1 + 1, o3), (L + 1 + 1, o4), (45, tabObj #[])])
    (ret : ∀ s' ps, s'.os = s.os → AllBare s'.gens → (∀ b o, h₀.get? b = some o → s'.heap.get? b = some o) → s'.heap.get? 45 = some (tabObj ps) → Q (.bool true) s') :
    wpAny (model PySem.Challenge.rw_oo0007_03.row.prog w) ((AA dp un fr gd).deeper (envOfC name scope L 67 cdv)) (execs (body.drop 6) (envOfC name scope L 67 cdv))
        (fun fl s' => Q (match fl with | .ret v => v | _ => .none) s') (fun _ _ => False) { s with heap := h, toks := tk } := by
  revert ho X; k_fill; intro ho X
  obtain ⟨rfl, rfl, rfl, rfl⟩ := ho.inj (.mk (by k_is))
  clear ho
  simp only [List.drop]
  have kI : IntsAre na.toList ns ∧ IntsAre ta.toList (turnsZ (ns.length - 1 - pl)) := ⟨hI, hT⟩
  have hm : ns.length - 1 - pl < 4 := by omega
  generalize hmm : ns.length - 1 - pl = m at *
  have htl : (turnsZ m).length = 5 := rfl
  walk_at "S4"
  rename_i FL _ l1b _ F9 N9
  walk_at "S"
  refine For_range (h₀ := h₀) (by rfl) (by rfl) ?_
  walk_at "S"
  refine stRange (n := 32) (σ := Array Value × Nat) (fun s' => ∃ h tk, s' = { s with heap := h, toks := tk }) (fun c => [(FL, W.listOf c.1 c.2), (TU, W.listOf ta tk0), (NL, W.listOf na nk), (L + 1 + 1 + 1 + 1 + 1, o1), (L + 1 + 1 + 1 + 1, o2), (L + 1 + 1 + 1, o3), (L + 1 + 1, o4), (45, tabObj #[])]) (fun _ => []) ["last", "k"] (fun i c => IntsAre c.1.toList (fitZ m b i)) (_, _)
    (by rfl) (by k_asm) (by k_asm) (by assumption) (by decide) (by decide) ⟨_, _, rfl⟩ (fun _ _ _ ⟨_, _, e⟩ => by subst e; exact ⟨_, _, rfl⟩) (fun _ h => nomatch h) .nil ?_ ?_
  · rintro i t ⟨fa, fk⟩ u' s₂ I oI hi hfit ⟨h', tk', rfl⟩ F N off
    dsimp only at hfit F N off
    have kf : IntsAre fa.toList (fitZ m b i) ∧ True := ⟨hfit, trivial⟩
    walk_at "S"
    refine For_range (h₀ := h₀) (by rfl) (by rfl) ?_
    walk_at "S"
    refine stRange (n := 5) (σ := Int × Tok) (fun s' => ∃ h tk, s' = { s with heap := h, toks := tk }) (fun _ => [(I, oI), (FL, W.listOf fa fk), (TU, W.listOf ta tk0), (NL, W.listOf na nk), (L + 1 + 1 + 1 + 1 + 1, o1), (L + 1 + 1 + 1 + 1, o2), (L + 1 + 1 + 1, o3), (L + 1 + 1, o4), (45, tabObj #[])]) (fun c => [("last", .int c.1 c.2)]) [] (fun k c => c.1 = lastK m b i k) (_, _)
      (by rfl) (by k_asm) (by k_asm) (by assumption) (by decide) (by decide) ⟨_, _, rfl⟩ (fun _ _ _ ⟨_, _, e⟩ => by subst e; exact ⟨_, _, rfl⟩) (by walk_at "one") rfl ?_ ?_
    · rintro k t2 ⟨la, lt⟩ u2 s3 I2 oI2 hk hla ⟨h3, tk3, rfl⟩ F N off2
      dsimp only at hla F N off2
      have hbn := bits_ne (0 + (k : Int)).toNat (by omega)
      obtain ⟨hbn1, hbn2⟩ := hbn
      walk_at "S"
      · refine stEnd (_, _) (by k_asm) (by k_asm) (by walk_at "mems") off2 trivial ⟨_, _, rfl⟩ (by walk_at "one") ?_ (lastK_yes hm hk hla (by with_reducible assumption))
        walk_at "others"
      · refine stEnd (_, _) (by k_asm) (by k_asm) (by walk_at "mems") off2 trivial ⟨_, _, rfl⟩ (by walk_at "one") ?_ (lastK_no hla (by with_reducible assumption))
        walk_at "others"
    · rintro ⟨la, lt⟩ u2 s3 ⟨h3, tk3, rfl⟩ hla F N
      dsimp only at hla F N
      have h5 := hla.trans (lastK_five m hm b hb i hi)
      have hfl : fa.size ≤ 32 := by
        have h1 := kf.1.length
        rw [Array.length_toList] at h1
        have h2 := fit_len (m := m) (b := b) (i := i)
        omega
      walk_at "S"
      · refine stEnd (_, _) (by k_asm) (by k_asm) (by walk_at "mems") ?_ trivial ⟨_, _, rfl⟩ (fun _ h => nomatch h) ?_ ?_
        · exact off
        · intro z h1 h2 h3
          have g1 : z ≠ "last" := by rintro rfl; cases h3
          have g2 : z ≠ "k" := by rintro rfl; cases h3
          simp only [kstB, if_neg h1, if_neg g1, if_neg g2, h3, List.contains_nil, Bool.false_eq_true, if_false]
        · exact intsSnoc (fit_yes (by omega)) kf.1 (by omega)
      · refine stEnd (fa, fk) (by k_asm) (by k_asm) (by walk_at "mems") off trivial ⟨_, _, rfl⟩ (fun _ h => nomatch h) ?_ ?_
        · intro z h1 h2 h3
          have g1 : z ≠ "last" := by rintro rfl; cases h3
          have g2 : z ≠ "k" := by rintro rfl; cases h3
          simp only [kstB, if_neg h1, if_neg g1, if_neg g2, h3, List.contains_nil, Bool.false_eq_true, if_false]
        · exact intsEq (fit_no (by omega)).symm kf.1
  · rintro ⟨fa, fk⟩ u' s' ⟨h', tk', rfl⟩ hfit F N
    dsimp only at hfit F N
    obtain ⟨f, hf1, hf2, hf3⟩ := fit_one hm hb
    rw [hf3] at hfit
    subst hmm
    have hoE : FnAt (Mine.hd.heap_39 w.params) 67 _ _ _ _ := .mk (by k_is)
    exact partD (s := s) hoE X T C hG hd hu hx hx0 hx2 kI.1 hn0 hn4 hnb hm1 hm4 ht1 ht2 hfit hf1 hf2 hb hbv d1 d2 d3 d4 (frTold _ F (by walk_at "told")) (news_sub N (by walk_at "mems")) ret
end Mine
end
namespace Mine
theorem anew_L3c : True ∧ True := by
  w_top off
  walk1
  all_goals trivial
end Mine
section
open PySem PySem.W PySem.Calls PyProof.Rows
set_option maxRecDepth 100000
set_option linter.unusedVariables false
namespace Mine
open LCg
local macro_rules | `(tactic| walk_at "binaryOp LShift int int") => `(tactic| (refine lshift_int_small (by decide) (by decide) (bits_and25 _) ?_))
local macro_rules | `(tactic| walk_at "stop") => `(tactic| first
  | (with_reducible show wpAny _ _ (exec (Stmt.For _ _ _ _ _) _) _ _ _)
  | (with_reducible show wpAny _ _ (exec (Stmt.Assign _ (Expr.ListComp _ _ _ _) _) _) _ _ _)
  | (with_reducible show wpAny _ _ (exec (Stmt.While _ _ _ _) _) _ _ _)
  | (with_reducible show wpAny _ _ (eval (Expr.ListComp _ _ _ _) _) _ _ _)
  | (with_reducible show wpAny _ _ (eval (Expr.GeneratorExp _ _ _ _) _) _ _ _)
  | (with_reducible show wpAny _ _ (call (Value.builtin "any") _) _ _ _)
  | (with_reducible show wpAny _ _ (call (Value.builtin "all") _) _ _ _)
  | (with_reducible show wpAny _ _ (pyIter _) _ _ _))
local macro_rules | `(tactic| walk_at "S") => `(tactic| repeat' (first
  | (k_unfold; (try dsimp only))
  | ((with_reducible show Frag.In _ _ ∧ _); walk1)
  | (fail_if_success (k_end; skip)); (fail_if_success walk_at "stop"); first | walk1 | (dsimp only; walk1)))
local macro_rules | `(tactic| walk_at "S2") => `(tactic| repeat' (first
  | (k_unfold; (try dsimp only))
  | ((with_reducible show Frag.In _ _ ∧ _); walk1)
  | (fail_if_success (k_end; skip)); (fail_if_success walk_at "stop"); (fail_if_success (with_reducible show wpAny _ _ (compareOp _ (Value.ref _) (Value.ref _)) _ _ _)); first | walk1 | (dsimp only; walk1)))
local macro_rules | `(tactic| walk_at "S4") => `(tactic| repeat' (first
  | (k_unfold; (try dsimp only))
  | ((with_reducible show Frag.In _ _ ∧ _); walk1)
  | (fail_if_success (k_end; skip)); (fail_if_success walk_at "stop"); (fail_if_success (with_reducible show wpAny _ _ (execs (Stmt.For _ _ _ _ _ :: _) _) _ _ _)); first | walk1 | (dsimp only; walk1)))
local macro_rules | `(tactic| walk_at "S6") => `(tactic| repeat' (first
  | (k_unfold; (try dsimp only))
  | ((with_reducible show Frag.In _ _ ∧ _); walk1)
  | (fail_if_success (k_end; skip)); (fail_if_success walk_at "stop"); (fail_if_success (with_reducible show wpAny _ _ (execs (Stmt.Assign [Expr.Tuple _ _ _] (Expr.ListComp _ _ _ _) _ :: _) _) _ _ _)); first | walk1 | (dsimp only; walk1)))
local macro_rules | `(tactic| walk_at "one") => `(tactic| exact List.forall_mem_cons.mpr ⟨rfl, List.forall_mem_nil _⟩)
local macro_rules | `(tactic| walk_at "others") => `(tactic| (intro z h1 h2 h3; have h4 := h2 _ (.head _); simp only [kstB, if_neg h1, if_neg h4, h3, Bool.false_eq_true, if_false]))
local macro_rules | `(tactic| walk_at "len") => `(tactic| ((try simp only [List.length_append, List.length_cons, List.length_nil, List.length_map, expandZ_len, checkZ_len, rangeKs_length] at *); omega))
local macro_rules | `(tactic| walk_at "binaryOp Add ref ref") => `(tactic| (k_here; k_dflt (refine' addInts ?F ?N ?l ?b ?i ?j ?z ?_; (case F => k_asm); (case N => k_asm); (case l => walk_at "alist"); (case b => walk_at "alist"); (case i => first | assumption | l_ints); (case j => first | assumption | l_ints); (case z => walk_at "len"); intro D' arr' k' h' F' N' hI' o1')))
local macro_rules | `(tactic| walk_at "room") => `(tactic| (dsimp only [AA]; omega))
local macro_rules | `(tactic| walk_at "top") => `(tactic| exact Top.keeps (by assumption) (Fr.keep (by k_asm)))
local macro_rules | `(tactic| walk_at "alist") => `(tactic| first | (with_reducible assumption) | exact isList_in (by k_asm) (by k_mem) | (refine Heap.IsList.at (h := _) (by assumption) (fun o e => Fr.keep (by k_asm) _ o e)))
local macro_rules | `(tactic| walk_at "call ref") => `(tactic| (k_here; k_dflt (refine' expand_spec ?X ?T ?d ?x ?_; (case X => k_in); (case T => walk_at "top"); (case d => walk_at "room"); (case x => first | assumption | omega); intro l' arr' k' h' tk' hg' hn' ho' hI'; have hb' := backL (by k_asm) (by k_asm) hg' hn' ho'; obtain ⟨F', N', o1'⟩ := hb')))
local macro_rules | `(tactic| walk_at "call ref") => `(tactic| (k_here; k_dflt (refine' poly_spec ?X ?T ?d ?l ?i ?_; (case X => k_in); (case T => walk_at "top"); (case d => walk_at "room"); (case l => walk_at "alist"); (case i => assumption); intro t' h' tk' hg'; have hb' := backI (by k_asm) (by k_asm) hg'; obtain ⟨F', N'⟩ := hb')))
local macro_rules | `(tactic| walk_at "call ref") => `(tactic| (k_here; k_dflt (refine' create_spec ?X ?T ?d ?x ?l ?i ?n ?_; (case X => k_in); (case T => walk_at "top"); (case d => walk_at "room"); (case x => first | assumption | omega); (case l => walk_at "alist"); (case i => assumption); (case n => walk_at "len"); intro l' arr' k' h' tk' hg' hn' ho' hI'; have hb' := backL (by k_asm) (by k_asm) hg' hn' ho'; obtain ⟨F', N', o1'⟩ := hb')))
local macro_rules | `(tactic| walk_at "call ref") => `(tactic| (k_here; k_dflt (refine' verify_spec ?X ?T ?d ?x ?l ?i ?n ?_; (case X => k_in); (case T => walk_at "top"); (case d => walk_at "room"); (case x => first | assumption | omega); (case l => walk_at "alist"); (case i => assumption); (case n => walk_at "len"); intro h' tk' hg'; have hb' := backI (by k_asm) (by k_asm) hg'; obtain ⟨F', N'⟩ := hb')))
local macro_rules | `(tactic| walk_at "slen") => `(tactic| ((try simp only [PySem.Str.length_append, Str.cps_append, len_one, len_one2, PySem.Str.length, Array.size_append, List.size_toArray, List.length_map, List.length_append, checkZ_len] at *); rw [sizeLine_eq]; omega))
local macro_rules | `(tactic| walk_at "binaryOp Add str str") => `(tactic| (k_dflt (refine' PyProof.Rows.add_str ?_ ?z; (case z => walk_at "slen"); intro t' tk')))
local macro_rules | `(tactic| walk_at "subscriptTail Name Name str int") => `(tactic| (k_dflt (refine item_str (x := CH) (fitsSsize_of (N := 9223372036854775808) (by omega) (by omega) (Int.le_refl _)) (by rw [ch_len]; omega) (by rw [ch_len]; omega) ?_; intro _)))
local macro_rules | `(tactic| walk_at "eval Name") => `(tactic| (k_here; (with_reducible show wpAny _ _ (eval (Expr.Name _ _) (genEnv _ _ _ _ _ _)) _ _ _); k_dflt (first
  | (refine nameG_L (by k_asm) (by assumption) ?_)
  | (refine nameG_K (by k_asm) (by k_asm) (by k_asm) (by rfl) (by k_is) ?_)
  | (refine nameG_B (by k_asm) (by k_asm) (by k_asm) (by rfl) (by k_is) (by boot_by_name) (by decide) ?_))))
local macro_rules | `(tactic| walk_at "call builtin:len") => `(tactic| (k_here; (with_reducible show wpAny _ _ (call (Value.builtin "len") [Value.ref _]) _ _ _); k_dflt (refine' PyProof.Rows.len_list ?l ?z ?_; (case l => walk_at "alist"); (case z => walk_at "len"))))


local macro_rules | `(tactic| walk_at "mems") => `(tactic| first | exact List.forall_mem_nil _ | exact List.forall_mem_cons.mpr ⟨by k_mem, by walk_at "mems"⟩)
local macro_rules | `(tactic| walk_at "told") => `(tactic| first | exact List.forall_mem_nil _ | exact List.forall_mem_cons.mpr ⟨rfl, by walk_at "told"⟩)
local macro_rules | `(tactic| walk_at "S3") => `(tactic| repeat' (first
  | (k_unfold; (try dsimp only))
  | ((with_reducible show Frag.In _ _ ∧ _); walk1)
  | (fail_if_success (k_end; skip)); (fail_if_success walk_at "stop"); (fail_if_success (with_reducible show wpAny _ _ (execs (Stmt.If _ _ _ _ :: _) _) _ _ _)); first | walk1 | (dsimp only; walk1)))
local macro_rules | `(tactic| walk_at "clss") => `(tactic| (repeat' (first | exact List.forall_mem_nil _ | refine List.forall_mem_cons.mpr ⟨by rintro ⟨⟩, ?_⟩)))
local macro_rules | `(tactic| walk_at "rds") => `(tactic| first | exact ReadsAll.nil | exact ReadsAll.cons (by walk_at "rd") (by walk_at "rds"))
local macro_rules | `(tactic| walk_at "rd") => `(tactic| first
  | exact Reads.none
  | exact Reads.str _ _
  | exact reads_list_at (News.get (by k_asm) (by k_mem)) rfl rfl (readsInts (by assumption))
  | exact reads_list_at (News.get (by k_asm) (by k_mem)) rfl rfl (by walk_at "rds")
  | exact reads_tuple_at (News.get (by k_asm) (by k_mem)) rfl rfl (by walk_at "rds"))
local macro_rules | `(tactic| walk_at "call ref") => `(tactic| (k_here; k_dflt (refine' encode_spec ?X ?T ?d ?x ?l ?i ?n ?b ?_; (case X => k_in); (case T => walk_at "top"); (case d => walk_at "room"); (case x => first | assumption | omega); (case l => walk_at "alist"); (case i => assumption); (case n => omega); (case b => assumption); intro t' h' tk' hg'; have hb' := backI (by k_asm) (by k_asm) hg'; obtain ⟨F', N'⟩ := hb')))
local macro_rules | `(tactic| walk_at "call builtin:len") => `(tactic| (k_here; (with_reducible show wpAny _ _ (call (Value.builtin "len") [Value.str _ _]) _ _ _); k_dflt (refine PySem.P.len_str (by ((try simp only [PySem.Str.length] at *); omega)) ?_)))
local macro_rules | `(tactic| walk_at "S7") => `(tactic| repeat' (first
  | (k_unfold; (try dsimp only))
  | ((with_reducible show Frag.In _ _ ∧ _); walk1)
  | (fail_if_success (k_end; skip)); (fail_if_success walk_at "stop"); (fail_if_success (with_reducible show wpAny _ _ (execs (Stmt.Assign _ (Expr.BinOp _ _ _ _) _ :: _) _) _ _ _)); first | walk1 | (dsimp only; walk1)))
local macro_rules | `(tactic| walk_at "S8") => `(tactic| repeat' (first
  | (k_unfold; (try dsimp only))
  | ((with_reducible show Frag.In _ _ ∧ _); walk1)
  | (fail_if_success (k_end; skip)); (fail_if_success walk_at "stop"); (fail_if_success (with_reducible show wpAny _ _ (execs (Stmt.Assign [Expr.Name "made" _] (Expr.BinOp _ _ _ _) _ :: _) _) _ _ _)); first | walk1 | (dsimp only; walk1)))
local macro_rules | `(tactic| walk_at "subscriptTail Name Name str int") => `(tactic| (k_dflt (refine item_str (x := signsT _) (fitsSsize_of (N := 9223372036854775808) (by omega) (by omega) (Int.le_refl _)) (by rw [signsT_len]; omega) (by rw [signsT_len]; omega) ?_; intro _)))
local macro_rules | `(tactic| walk_at "subscriptTail Name BinOp str int") => `(tactic| (k_dflt (refine item_str (x := signsT _) (fitsSsize_of (N := 9223372036854775808) (by omega) (by omega) (Int.le_refl _)) (by rw [signsT_len]; omega) (by rw [signsT_len]; omega) ?_; intro _)))
local macro_rules | `(tactic| walk_at "tabs") => `(tactic| (repeat' (first | exact List.forall_mem_nil _ | refine List.forall_mem_cons.mpr ⟨by first | exact listTab | exact notTab (by assumption) | exact (fun _ e => by cases e), ?_⟩)))
local macro_rules | `(tactic| walk_at "S9") => `(tactic| repeat' (first
  | (k_unfold; (try dsimp only))
  | ((with_reducible show Frag.In _ _ ∧ _); walk1)
  | (fail_if_success (k_end; skip)); (fail_if_success walk_at "stop"); (fail_if_success (with_reducible show wpAny _ _ (execs (Stmt.Assign [Expr.Name "told" _] (Expr.BinOp _ _ _ _) _ :: _) _) _ _ _)); first | walk1 | (dsimp only; walk1)))
local macro_rules | `(tactic| walk_at "subscriptTail Name Name ref int") => `(tactic| (k_dflt (refine' int_item ?l ?i ?z ?a ?b ?_; (case l => walk_at "alist"); (case i => with_reducible assumption); (case z => omega); (case a => omega); (case b => omega); intro _)))
local macro_rules | `(tactic| walk_at "subscriptTail Name BinOp ref int") => `(tactic| (k_dflt (refine' int_item ?l ?i ?z ?a ?b ?_; (case l => walk_at "alist"); (case i => with_reducible assumption); (case z => omega); (case a => omega); (case b => omega); intro _)))
local macro_rules | `(tactic| walk_at "subscriptTail Name Slice ref ref") => `(tactic| (k_here; k_dflt (refine' sliceFrom ?F ?N ?l ?i ?z ?a ?_; (case F => k_asm); (case N => k_asm); (case l => walk_at "alist"); (case i => with_reducible assumption); (case z => omega); (case a => omega)); intro D' arr2' h' F' N' l1 hI'))
local macro_rules | `(tactic| walk_at "subscriptTail Name Slice ref ref") => `(tactic| (k_here; k_dflt (refine' sliceTo ?F ?N ?l ?i ?z ?a ?_; (case F => k_asm); (case N => k_asm); (case l => walk_at "alist"); (case i => with_reducible assumption); (case z => omega); (case a => omega)); intro D' arr2' h' F' N' l1 hI'))
local macro_rules | `(tactic| walk_at "S10") => `(tactic| repeat' (first
  | (k_unfold; (try dsimp only))
  | ((with_reducible show Frag.In _ _ ∧ _); walk1)
  | (fail_if_success (k_end; skip)); (fail_if_success walk_at "stop"); (fail_if_success (with_reducible show wpAny _ _ (execs (Stmt.If _ _ _ _ :: _) _) _ _ _)); (fail_if_success (with_reducible show wpAny _ _ (call _ [Value.ref _]) _ _ _)); first | walk1 | (dsimp only; walk1)))
local macro_rules | `(tactic| k_ne) => `(tactic| exact newsNe (by k_asm) (by k_mem) (by k_mem) (by k_asm) (fun _ e => by cases e))
local macro_rules | `(tactic| walk_at "lits") => `(tactic| first | exact IntsAre.nil | (refine IntsAre.cons _ _ ?_; walk_at "lits"))
local macro_rules | `(tactic| k_ne) => `(tactic| (refine neN ?_; (try dsimp only); first | (with_reducible assumption) | exact Ne.symm (by with_reducible assumption) | exact off1_mem (by k_asm) (_, _) (by k_mem) | exact Ne.symm (off1_mem (by k_asm) (_, _) (by k_mem))))
local macro_rules | `(tactic| walk_at "storeName") => `(tactic| (k_here; (first | (with_reducible show wpAny _ _ (storeName _ (PySem.Str.ofString "upper") _) _ _ _) | (with_reducible show wpAny _ _ (storeName _ (PySem.Str.ofString "lower") _) _ _ _) | (with_reducible show wpAny _ _ (storeName _ (PySem.Str.ofString "turn") _) _ _ _) | (with_reducible show wpAny _ _ (storeName _ (PySem.Str.ofString "told") _) _ _ _)); k_dflt (refine' storeX_C ?F ?N ?c ?U ?d ?_ ?a ?b; (case a => rfl); (case b => rfl); (case F => k_asm); (case N => k_asm); (case c => rfl); (case U => k_updF); (case d => k_asm); k_whole; intro h' o' F' N' d'; (try dsimp only at N'); (try k_sweep))))
local macro_rules | `(tactic| walk_at "S5") => `(tactic| repeat' (first
  | (k_unfold; (try dsimp only))
  | ((with_reducible show Frag.In _ _ ∧ _); walk1)
  | (fail_if_success (k_end; skip)); (fail_if_success walk_at "stop"); (fail_if_success (with_reducible show wpAny _ _ (execs (Stmt.Assign _ (Expr.ListComp _ _ _ _) _ :: _) _) _ _ _)); first | walk1 | (dsimp only; walk1)))
local macro_rules | `(tactic| walk_at "storeName") => `(tactic| (k_here; (first | (with_reducible show wpAny _ _ (storeName _ (PySem.Str.ofString "state") _) _ _ _) | (with_reducible show wpAny _ _ (storeName _ (PySem.Str.ofString "name") _) _ _ _) | (with_reducible show wpAny _ _ (storeName _ (PySem.Str.ofString "numbers") _) _ _ _) | (with_reducible show wpAny _ _ (storeName _ (PySem.Str.ofString "place") _) _ _ _) | (with_reducible show wpAny _ _ (storeName _ (PySem.Str.ofString "bare") _) _ _ _)); k_dflt (refine' storeX_C ?F ?N ?c ?U ?d ?_ ?a ?b; (case a => rfl); (case b => rfl); (case F => k_asm); (case N => k_asm); (case c => rfl); (case U => k_updF); (case d => k_asm); k_whole; intro h' o' F' N' d'; (try dsimp only at N'); (try k_sweep))))
local macro_rules | `(tactic| walk_at "call ref") => `(tactic| (k_here; k_dflt (refine' next_spec ?k0 ?k1 ?k2 ?k3 ?k4 ?k5 ?k6 ?k7 ?k8 ?k9 ?kA ?kB ?kC ?kD ?_; (case k2 => exact Fr.keep (by k_asm)); (case k0 => with_reducible assumption); (case k1 => with_reducible assumption); (case k3 => exact newsNone (by k_asm) (by k_mem)); (case k4 => walk_at "room"); (case k5 => exact News.get (by k_asm) (by k_mem)); (case k6 => walk_at "alist"); (case k7 => with_reducible assumption); (case k8 => omega); (case k9 => with_reducible assumption); (case kA => with_reducible assumption); (case kB => with_reducible assumption); (case kC => omega); (case kD => omega); intro v' t' i' r' t1' t2' k' h' tk' hv0' hv1' hi0' hr0' hk' hS'; have hb' := backS (by k_asm) (by k_asm) (by k_updF) hk' hS'; obtain ⟨F', N'⟩ := hb'; clear hk' hS'; (try dsimp only at N'); (try k_sweep))))
local macro_rules | `(tactic| walk_at "call ref") => `(tactic| (k_here; k_dflt (refine' put_spec ?X ?T ?d ?l ?i ?n ?p ?_; (case X => k_in); (case T => walk_at "top"); (case d => walk_at "room"); (case l => walk_at "alist"); (case i => with_reducible assumption); (case n => omega); (case p => omega); intro l' arr' k' h' tk' hg' hn' ho' hI'; have hb' := backL (by k_asm) (by k_asm) hg' hn' ho'; obtain ⟨F', N', o1'⟩ := hb')))
local macro_rules | `(tactic| walk_at "subscriptTail Call Constant ref int") => `(tactic| (k_dflt (refine' int_item ?l ?i ?z ?a ?b ?_; (case l => walk_at "alist"); (case i => with_reducible assumption); (case z => walk_at "len"); (case a => omega); (case b => walk_at "len"); intro _)))
local macro_rules | `(tactic| walk_at "subscriptTail List Name ref int") => `(tactic| (k_dflt (refine' int_item ?l ?i ?z ?a ?b ?_; (case l => walk_at "alist"); (case i => walk_at "lits"); (case z => decide); (case a => omega); (case b => (simp only [List.length_cons, List.length_nil]; omega)); intro _)))
local macro_rules | `(tactic| walk_at "S12") => `(tactic| repeat' (first
  | (k_unfold; (try dsimp only))
  | ((with_reducible show Frag.In _ _ ∧ _); walk1)
  | (fail_if_success (k_end; skip)); (fail_if_success walk_at "stop"); (fail_if_success (with_reducible show wpAny _ _ (execs (Stmt.Assign [Expr.Name "bare" _] _ _ :: _) _) _ _ _)); first | walk1 | (dsimp only; walk1)))
local macro_rules | `(tactic| walk_at "S13") => `(tactic| repeat' (first
  | (k_unfold; (try dsimp only))
  | ((with_reducible show Frag.In _ _ ∧ _); walk1)
  | (fail_if_success (k_end; skip)); (fail_if_success walk_at "stop"); (fail_if_success (with_reducible show wpAny _ _ (execs (Stmt.Assign [Expr.Name "fits" _] _ _ :: _) _) _ _ _)); first | walk1 | (dsimp only; walk1)))
local macro_rules | `(tactic| walk_at "binaryOp FloorDiv int int") => `(tactic| (k_here; k_dflt (refine floordiv_int (by with_reducible assumption) ?_ (Or.inl (PyProof.noPylong_small (by with_reducible assumption))))))
local macro_rules | `(tactic| walk_at "adrs") => `(tactic| (repeat' (first | exact List.forall_mem_nil _ | refine List.forall_mem_cons.mpr ⟨by first | exact newsDiff (by k_asm) (by k_mem) (by k_mem) (listTab _) | exact newsDiff (by k_asm) (by k_mem) (by k_mem) (notTab (by k_asm) _) | exact Ne.symm (off1_mem (by k_asm) (_, _) (by k_mem)), ?_⟩)))
set_option maxHeartbeats 40000000 in
theorem partB {w : World} {dp un : Nat} {fr : Option (List Env)} {gd : Option (List Code)} {s : Shared} {p : Program} {loose : List Str} {mean : ExcName → Option Value} {mg mb : Str → Option Value} {Q : Value → Shared → Prop}
    {h₀ h : Heap} {L tk : Nat} {u : Str → Option Value} {name : Str} {body : List Stmt} {scope : Scope} {cdv : Value}
    (ho : FnAt (Mine.hd.heap_39 w.params) 67 name body scope cdv)
    (X : (Mine.hd.heap_39 w.params).In h₀) (T : Top p loose mean mg mb h₀) (C : CodeHd h₀ 47 45) (hG : AllBare s.gens) (hd : dp + 40 < recursionLimit) (hu : un + 1000 < cLine)
    {NL : Addr} {na : Array Value} {nk pl : Nat} {x : Str} {tx tp tm tt : Tok} {ns : List Int} {many turn : Int} {o1 o2 o3 o4 : Obj}
    (hx : NameIs x x.length) (hx0 : 1 ≤ x.length) (hx2 : x.length ≤ 2) (hI : IntsAre na.toList ns) (hn0 : pl < ns.length) (hn4 : ns.length ≤ 4) (hnb : ∀ n ∈ ns, 0 ≤ n ∧ n < 32)
    (hm1 : 1 ≤ many) (hm4 : many ≤ 4) (ht1 : 1 ≤ turn) (ht2 : turn < 32)
    (d1 : o1.data = .cell none) (d2 : o2.data = .cell (some (.int (pl : Int) tp))) (d3 : o3.data = .cell (some (.ref NL))) (d4 : o4.data = .cell (some (.str x tx)))
    (F : Fr h₀ L h (kstB u [("many", .int many tm), ("turn", .int turn tt)]))
    (N : News h₀ L h [(NL, W.listOf na nk), (L + 1 + 1 + 1 + 1 + 1, o1), (L + 1 + 1 + 1 + 1, o2), (L + 1 + 1 + 1, o3), (L + 1 + 1, o4), (45, tabObj #[])])
    (ret : ∀ s' ps, s'.os = s.os → AllBare s'.gens → (∀ b o, h₀.get? b = some o → s'.heap.get? b = some o) → s'.heap.get? 45 = some (tabObj ps) → Q (.bool true) s') :
    wpAny (model PySem.Challenge.rw_oo0007_03.row.prog w) ((AA dp un fr gd).deeper (envOfC name scope L 67 cdv)) (execs (body.drop 4) (envOfC name scope L 67 cdv))
        (fun fl s' => Q (match fl with | .ret v => v | _ => .none) s') (fun _ _ => False) { s with heap := h, toks := tk } := by
  revert ho X; k_fill; intro ho X
  obtain ⟨rfl, rfl, rfl, rfl⟩ := ho.inj (.mk (by k_is))
  clear ho
  simp only [List.drop]
  have hxl : x.length = x.cps.size := rfl
  have hxb : ∀ c ∈ x.cps.toList, c ≤ 126 := fun c hc => (hx.signs c (by simpa using hc)).2.1
  obtain ⟨b, hb32, hb0, hbv⟩ := last_put hxb hnb hn0 hn4
  have hpz : ∀ v : Int, (putZ ns ((pl : Int).toNat) v).length = ns.length := fun v => put_len hn0
  have hcz : ∀ v : Int, (checkZ x (putZ ns ((pl : Int).toNat) v)).length = 6 := fun v => checkZ_len _ _
  have hpz0 := hpz 0
  have hcz0 := hcz 0
  have kI : IntsAre na.toList ns ∧ True := ⟨hI, trivial⟩
  walk_at "S"
  rename_i oB _ _ dB
  replace dB : oB.data = Data.cell (some (Value.int ((checkZ x (putZ ns pl 0)).getD 5 0) _)) := dB
  rw [hb0] at dB
  rename News _ _ _ _ => N5
  rename Fr _ _ _ _ => F5
  have N6 := news_tl (news_tl N5)
  refine LCg.Assign_ListComp_U (F₀ := F5) (by rfl) (by with_unfolding_all rfl) (by with_unfolding_all rfl) (by decide) (by rfl) (by decide) (by rfl) (by rfl) (by rfl) ?_
  clear N5
  walk_at "S"
  refine CompSrc.ledger (by rfl) (by k_asm) (by k_asm) (by k_mem) (by rw [sizeLine_eq]; simp) ?_
  intro g
  refine compPure (fun j y => ∃ t, y = .int ((turnsZ (ns.length - 1 - pl)).getD j 0) t) (Or.inr ⟨_, by k_mem, rfl, _, rfl⟩) ?_ ?_
  · rintro j ys v I oI C oC D m₂ h tk E' hj hv hC hm F N
    obtain ⟨n, t, rfl, hn9⟩ := IntsAre.at (.cons 1 _ (.cons 2 _ (.cons 4 _ (.cons 8 _ (.cons 16 _ .nil))))) j v (by rw [← Array.getElem?_toList] at hv; exact hv)
    have hj5 : j < 5 := hj
    have hv2 : ∃ q : Nat, n = (q : Int) ∧ q < 32 ∧ ([1, 2, 4, 8, 16] : List Nat).getD j 0 = q := by
      rcases (by omega : j = 0 ∨ j = 1 ∨ j = 2 ∨ j = 3 ∨ j = 4) with rfl | rfl | rfl | rfl | rfl <;> cases hn9
      · exact ⟨1, rfl, by decide, rfl⟩
      · exact ⟨2, rfl, by decide, rfl⟩
      · exact ⟨4, rfl, by decide, rfl⟩
      · exact ⟨8, rfl, by decide, rfl⟩
      · exact ⟨16, rfl, by decide, rfl⟩
    obtain ⟨q, rfl, hq, hqj⟩ := hv2
    have hpz1 := hpz (q : Int)
    have hcz1 := hcz (q : Int)
    walk_at "S"
    refine ⟨?_, _, _, rfl, by k_asm, news_sub (by k_asm) (by walk_at "mems")⟩
    have e1 := hbv q hq
    rw [turns_at _ (by omega) j hj5, hqj]
    exact ⟨_, intEq ((congrArg (fun z => Builtin.bitXor z (b : Int)) e1).trans turn_xor)⟩
  intro ys hl hR
  have hIt := intsAre_of (ns := turnsZ (ns.length - 1 - pl)) (by rw [hl]; rfl) hR
  clear hR
  walk_at "FinA"
  have kt : IntsAre ys (turnsZ (ns.length - 1 - pl)) ∧ IntsAre na.toList ns := ⟨hIt, hI⟩
  walk_at "S13"
  rename News _ _ _ _ => N7
  rename Fr _ _ _ _ => F7
  have hoE : FnAt (Mine.hd.heap_39 w.params) 67 _ _ _ _ := .mk (by k_is)
  exact partC (s := s) hoE X T C hG hd hu hx hx0 hx2 kt.2 hn0 hn4 hnb hm1 hm4 ht1 ht2 kt.1 hb32 hbv dB d2 d3 d4 (frTold _ F7 (by walk_at "told")) (news_sub N7 (by walk_at "mems")) ret
end Mine
end
namespace Mine
theorem anew_L3m : True ∧ True := by
  w_top off
  walk1
  all_goals trivial
end Mine
section
open PySem PySem.W PySem.Calls PyProof.Rows
set_option maxRecDepth 100000
set_option linter.unusedVariables false
namespace Mine
open LCg
local macro_rules | `(tactic| walk_at "binaryOp LShift int int") => `(tactic| (refine lshift_int_small (by decide) (by decide) (bits_and25 _) ?_))
local macro_rules | `(tactic| walk_at "stop") => `(tactic| first
  | (with_reducible show wpAny _ _ (exec (Stmt.For _ _ _ _ _) _) _ _ _)
  | (with_reducible show wpAny _ _ (exec (Stmt.Assign _ (Expr.ListComp _ _ _ _) _) _) _ _ _)
  | (with_reducible show wpAny _ _ (exec (Stmt.While _ _ _ _) _) _ _ _)
  | (with_reducible show wpAny _ _ (eval (Expr.ListComp _ _ _ _) _) _ _ _)
  | (with_reducible show wpAny _ _ (eval (Expr.GeneratorExp _ _ _ _) _) _ _ _)
  | (with_reducible show wpAny _ _ (call (Value.builtin "any") _) _ _ _)
  | (with_reducible show wpAny _ _ (call (Value.builtin "all") _) _ _ _)
  | (with_reducible show wpAny _ _ (pyIter _) _ _ _))
local macro_rules | `(tactic| walk_at "S") => `(tactic| repeat' (first
  | (k_unfold; (try dsimp only))
  | ((with_reducible show Frag.In _ _ ∧ _); walk1)
  | (fail_if_success (k_end; skip)); (fail_if_success walk_at "stop"); first | walk1 | (dsimp only; walk1)))
local macro_rules | `(tactic| walk_at "S2") => `(tactic| repeat' (first
  | (k_unfold; (try dsimp only))
  | ((with_reducible show Frag.In _ _ ∧ _); walk1)
  | (fail_if_success (k_end; skip)); (fail_if_success walk_at "stop"); (fail_if_success (with_reducible show wpAny _ _ (compareOp _ (Value.ref _) (Value.ref _)) _ _ _)); first | walk1 | (dsimp only; walk1)))
local macro_rules | `(tactic| walk_at "S4") => `(tactic| repeat' (first
  | (k_unfold; (try dsimp only))
  | ((with_reducible show Frag.In _ _ ∧ _); walk1)
  | (fail_if_success (k_end; skip)); (fail_if_success walk_at "stop"); (fail_if_success (with_reducible show wpAny _ _ (execs (Stmt.For _ _ _ _ _ :: _) _) _ _ _)); first | walk1 | (dsimp only; walk1)))
local macro_rules | `(tactic| walk_at "S6") => `(tactic| repeat' (first
  | (k_unfold; (try dsimp only))
  | ((with_reducible show Frag.In _ _ ∧ _); walk1)
  | (fail_if_success (k_end; skip)); (fail_if_success walk_at "stop"); (fail_if_success (with_reducible show wpAny _ _ (execs (Stmt.Assign [Expr.Tuple _ _ _] (Expr.ListComp _ _ _ _) _ :: _) _) _ _ _)); first | walk1 | (dsimp only; walk1)))
local macro_rules | `(tactic| walk_at "one") => `(tactic| exact List.forall_mem_cons.mpr ⟨rfl, List.forall_mem_nil _⟩)
local macro_rules | `(tactic| walk_at "others") => `(tactic| (intro z h1 h2 h3; have h4 := h2 _ (.head _); simp only [kstB, if_neg h1, if_neg h4, h3, Bool.false_eq_true, if_false]))
local macro_rules | `(tactic| walk_at "len") => `(tactic| ((try simp only [List.length_append, List.length_cons, List.length_nil, List.length_map, expandZ_len, checkZ_len, rangeKs_length] at *); omega))
local macro_rules | `(tactic| walk_at "binaryOp Add ref ref") => `(tactic| (k_here; k_dflt (refine' addInts ?F ?N ?l ?b ?i ?j ?z ?_; (case F => k_asm); (case N => k_asm); (case l => walk_at "alist"); (case b => walk_at "alist"); (case i => first | assumption | l_ints); (case j => first | assumption | l_ints); (case z => walk_at "len"); intro D' arr' k' h' F' N' hI' o1')))
local macro_rules | `(tactic| walk_at "room") => `(tactic| (dsimp only [AA]; omega))
local macro_rules | `(tactic| walk_at "top") => `(tactic| exact Top.keeps (by assumption) (Fr.keep (by k_asm)))
local macro_rules | `(tactic| walk_at "alist") => `(tactic| first | (with_reducible assumption) | exact isList_in (by k_asm) (by k_mem) | (refine Heap.IsList.at (h := _) (by assumption) (fun o e => Fr.keep (by k_asm) _ o e)))
local macro_rules | `(tactic| walk_at "call ref") => `(tactic| (k_here; k_dflt (refine' expand_spec ?X ?T ?d ?x ?_; (case X => k_in); (case T => walk_at "top"); (case d => walk_at "room"); (case x => first | assumption | omega); intro l' arr' k' h' tk' hg' hn' ho' hI'; have hb' := backL (by k_asm) (by k_asm) hg' hn' ho'; obtain ⟨F', N', o1'⟩ := hb')))
local macro_rules | `(tactic| walk_at "call ref") => `(tactic| (k_here; k_dflt (refine' poly_spec ?X ?T ?d ?l ?i ?_; (case X => k_in); (case T => walk_at "top"); (case d => walk_at "room"); (case l => walk_at "alist"); (case i => assumption); intro t' h' tk' hg'; have hb' := backI (by k_asm) (by k_asm) hg'; obtain ⟨F', N'⟩ := hb')))
local macro_rules | `(tactic| walk_at "call ref") => `(tactic| (k_here; k_dflt (refine' create_spec ?X ?T ?d ?x ?l ?i ?n ?_; (case X => k_in); (case T => walk_at "top"); (case d => walk_at "room"); (case x => first | assumption | omega); (case l => walk_at "alist"); (case i => assumption); (case n => walk_at "len"); intro l' arr' k' h' tk' hg' hn' ho' hI'; have hb' := backL (by k_asm) (by k_asm) hg' hn' ho'; obtain ⟨F', N', o1'⟩ := hb')))
local macro_rules | `(tactic| walk_at "call ref") => `(tactic| (k_here; k_dflt (refine' verify_spec ?X ?T ?d ?x ?l ?i ?n ?_; (case X => k_in); (case T => walk_at "top"); (case d => walk_at "room"); (case x => first | assumption | omega); (case l => walk_at "alist"); (case i => assumption); (case n => walk_at "len"); intro h' tk' hg'; have hb' := backI (by k_asm) (by k_asm) hg'; obtain ⟨F', N'⟩ := hb')))
local macro_rules | `(tactic| walk_at "slen") => `(tactic| ((try simp only [PySem.Str.length_append, Str.cps_append, len_one, len_one2, PySem.Str.length, Array.size_append, List.size_toArray, List.length_map, List.length_append, checkZ_len] at *); rw [sizeLine_eq]; omega))
local macro_rules | `(tactic| walk_at "binaryOp Add str str") => `(tactic| (k_dflt (refine' PyProof.Rows.add_str ?_ ?z; (case z => walk_at "slen"); intro t' tk')))
local macro_rules | `(tactic| walk_at "subscriptTail Name Name str int") => `(tactic| (k_dflt (refine item_str (x := CH) (fitsSsize_of (N := 9223372036854775808) (by omega) (by omega) (Int.le_refl _)) (by rw [ch_len]; omega) (by rw [ch_len]; omega) ?_; intro _)))
local macro_rules | `(tactic| walk_at "eval Name") => `(tactic| (k_here; (with_reducible show wpAny _ _ (eval (Expr.Name _ _) (genEnv _ _ _ _ _ _)) _ _ _); k_dflt (first
  | (refine nameG_L (by k_asm) (by assumption) ?_)
  | (refine nameG_K (by k_asm) (by k_asm) (by k_asm) (by rfl) (by k_is) ?_)
  | (refine nameG_B (by k_asm) (by k_asm) (by k_asm) (by rfl) (by k_is) (by boot_by_name) (by decide) ?_))))
local macro_rules | `(tactic| walk_at "call builtin:len") => `(tactic| (k_here; (with_reducible show wpAny _ _ (call (Value.builtin "len") [Value.ref _]) _ _ _); k_dflt (refine' PyProof.Rows.len_list ?l ?z ?_; (case l => walk_at "alist"); (case z => walk_at "len"))))


local macro_rules | `(tactic| walk_at "mems") => `(tactic| first | exact List.forall_mem_nil _ | exact List.forall_mem_cons.mpr ⟨by k_mem, by walk_at "mems"⟩)
local macro_rules | `(tactic| walk_at "told") => `(tactic| first | exact List.forall_mem_nil _ | exact List.forall_mem_cons.mpr ⟨rfl, by walk_at "told"⟩)
local macro_rules | `(tactic| walk_at "S3") => `(tactic| repeat' (first
  | (k_unfold; (try dsimp only))
  | ((with_reducible show Frag.In _ _ ∧ _); walk1)
  | (fail_if_success (k_end; skip)); (fail_if_success walk_at "stop"); (fail_if_success (with_reducible show wpAny _ _ (execs (Stmt.If _ _ _ _ :: _) _) _ _ _)); first | walk1 | (dsimp only; walk1)))
local macro_rules | `(tactic| walk_at "clss") => `(tactic| (repeat' (first | exact List.forall_mem_nil _ | refine List.forall_mem_cons.mpr ⟨by rintro ⟨⟩, ?_⟩)))
local macro_rules | `(tactic| walk_at "rds") => `(tactic| first | exact ReadsAll.nil | exact ReadsAll.cons (by walk_at "rd") (by walk_at "rds"))
local macro_rules | `(tactic| walk_at "rd") => `(tactic| first
  | exact Reads.none
  | exact Reads.str _ _
  | exact reads_list_at (News.get (by k_asm) (by k_mem)) rfl rfl (readsInts (by assumption))
  | exact reads_list_at (News.get (by k_asm) (by k_mem)) rfl rfl (by walk_at "rds")
  | exact reads_tuple_at (News.get (by k_asm) (by k_mem)) rfl rfl (by walk_at "rds"))
local macro_rules | `(tactic| walk_at "call ref") => `(tactic| (k_here; k_dflt (refine' encode_spec ?X ?T ?d ?x ?l ?i ?n ?b ?_; (case X => k_in); (case T => walk_at "top"); (case d => walk_at "room"); (case x => first | assumption | omega); (case l => walk_at "alist"); (case i => assumption); (case n => omega); (case b => assumption); intro t' h' tk' hg'; have hb' := backI (by k_asm) (by k_asm) hg'; obtain ⟨F', N'⟩ := hb')))
local macro_rules | `(tactic| walk_at "call builtin:len") => `(tactic| (k_here; (with_reducible show wpAny _ _ (call (Value.builtin "len") [Value.str _ _]) _ _ _); k_dflt (refine PySem.P.len_str (by ((try simp only [PySem.Str.length] at *); omega)) ?_)))
local macro_rules | `(tactic| walk_at "S7") => `(tactic| repeat' (first
  | (k_unfold; (try dsimp only))
  | ((with_reducible show Frag.In _ _ ∧ _); walk1)
  | (fail_if_success (k_end; skip)); (fail_if_success walk_at "stop"); (fail_if_success (with_reducible show wpAny _ _ (execs (Stmt.Assign _ (Expr.BinOp _ _ _ _) _ :: _) _) _ _ _)); first | walk1 | (dsimp only; walk1)))
local macro_rules | `(tactic| walk_at "S8") => `(tactic| repeat' (first
  | (k_unfold; (try dsimp only))
  | ((with_reducible show Frag.In _ _ ∧ _); walk1)
  | (fail_if_success (k_end; skip)); (fail_if_success walk_at "stop"); (fail_if_success (with_reducible show wpAny _ _ (execs (Stmt.Assign [Expr.Name "made" _] (Expr.BinOp _ _ _ _) _ :: _) _) _ _ _)); first | walk1 | (dsimp only; walk1)))
local macro_rules | `(tactic| walk_at "subscriptTail Name Name str int") => `(tactic| (k_dflt (refine item_str (x := signsT _) (fitsSsize_of (N := 9223372036854775808) (by omega) (by omega) (Int.le_refl _)) (by rw [signsT_len]; omega) (by rw [signsT_len]; omega) ?_; intro _)))
local macro_rules | `(tactic| walk_at "subscriptTail Name BinOp str int") => `(tactic| (k_dflt (refine item_str (x := signsT _) (fitsSsize_of (N := 9223372036854775808) (by omega) (by omega) (Int.le_refl _)) (by rw [signsT_len]; omega) (by rw [signsT_len]; omega) ?_; intro _)))
local macro_rules | `(tactic| walk_at "tabs") => `(tactic| (repeat' (first | exact List.forall_mem_nil _ | refine List.forall_mem_cons.mpr ⟨by first | exact listTab | exact notTab (by assumption) | exact (fun _ e => by cases e), ?_⟩)))
local macro_rules | `(tactic| walk_at "S9") => `(tactic| repeat' (first
  | (k_unfold; (try dsimp only))
  | ((with_reducible show Frag.In _ _ ∧ _); walk1)
  | (fail_if_success (k_end; skip)); (fail_if_success walk_at "stop"); (fail_if_success (with_reducible show wpAny _ _ (execs (Stmt.Assign [Expr.Name "told" _] (Expr.BinOp _ _ _ _) _ :: _) _) _ _ _)); first | walk1 | (dsimp only; walk1)))
local macro_rules | `(tactic| walk_at "subscriptTail Name Name ref int") => `(tactic| (k_dflt (refine' int_item ?l ?i ?z ?a ?b ?_; (case l => walk_at "alist"); (case i => with_reducible assumption); (case z => omega); (case a => omega); (case b => omega); intro _)))
local macro_rules | `(tactic| walk_at "subscriptTail Name BinOp ref int") => `(tactic| (k_dflt (refine' int_item ?l ?i ?z ?a ?b ?_; (case l => walk_at "alist"); (case i => with_reducible assumption); (case z => omega); (case a => omega); (case b => omega); intro _)))
local macro_rules | `(tactic| walk_at "subscriptTail Name Slice ref ref") => `(tactic| (k_here; k_dflt (refine' sliceFrom ?F ?N ?l ?i ?z ?a ?_; (case F => k_asm); (case N => k_asm); (case l => walk_at "alist"); (case i => with_reducible assumption); (case z => omega); (case a => omega)); intro D' arr2' h' F' N' l1 hI'))
local macro_rules | `(tactic| walk_at "subscriptTail Name Slice ref ref") => `(tactic| (k_here; k_dflt (refine' sliceTo ?F ?N ?l ?i ?z ?a ?_; (case F => k_asm); (case N => k_asm); (case l => walk_at "alist"); (case i => with_reducible assumption); (case z => omega); (case a => omega)); intro D' arr2' h' F' N' l1 hI'))
local macro_rules | `(tactic| walk_at "S10") => `(tactic| repeat' (first
  | (k_unfold; (try dsimp only))
  | ((with_reducible show Frag.In _ _ ∧ _); walk1)
  | (fail_if_success (k_end; skip)); (fail_if_success walk_at "stop"); (fail_if_success (with_reducible show wpAny _ _ (execs (Stmt.If _ _ _ _ :: _) _) _ _ _)); (fail_if_success (with_reducible show wpAny _ _ (call _ [Value.ref _]) _ _ _)); first | walk1 | (dsimp only; walk1)))
local macro_rules | `(tactic| k_ne) => `(tactic| exact newsNe (by k_asm) (by k_mem) (by k_mem) (by k_asm) (fun _ e => by cases e))
local macro_rules | `(tactic| walk_at "lits") => `(tactic| first | exact IntsAre.nil | (refine IntsAre.cons _ _ ?_; walk_at "lits"))
local macro_rules | `(tactic| k_ne) => `(tactic| (refine neN ?_; (try dsimp only); first | (with_reducible assumption) | exact Ne.symm (by with_reducible assumption) | exact off1_mem (by k_asm) (_, _) (by k_mem) | exact Ne.symm (off1_mem (by k_asm) (_, _) (by k_mem))))
local macro_rules | `(tactic| walk_at "storeName") => `(tactic| (k_here; (first | (with_reducible show wpAny _ _ (storeName _ (PySem.Str.ofString "upper") _) _ _ _) | (with_reducible show wpAny _ _ (storeName _ (PySem.Str.ofString "lower") _) _ _ _) | (with_reducible show wpAny _ _ (storeName _ (PySem.Str.ofString "turn") _) _ _ _) | (with_reducible show wpAny _ _ (storeName _ (PySem.Str.ofString "told") _) _ _ _)); k_dflt (refine' storeX_C ?F ?N ?c ?U ?d ?_ ?a ?b; (case a => rfl); (case b => rfl); (case F => k_asm); (case N => k_asm); (case c => rfl); (case U => k_updF); (case d => k_asm); k_whole; intro h' o' F' N' d'; (try dsimp only at N'); (try k_sweep))))
local macro_rules | `(tactic| walk_at "S5") => `(tactic| repeat' (first
  | (k_unfold; (try dsimp only))
  | ((with_reducible show Frag.In _ _ ∧ _); walk1)
  | (fail_if_success (k_end; skip)); (fail_if_success walk_at "stop"); (fail_if_success (with_reducible show wpAny _ _ (execs (Stmt.Assign _ (Expr.ListComp _ _ _ _) _ :: _) _) _ _ _)); first | walk1 | (dsimp only; walk1)))
local macro_rules | `(tactic| walk_at "storeName") => `(tactic| (k_here; (first | (with_reducible show wpAny _ _ (storeName _ (PySem.Str.ofString "state") _) _ _ _) | (with_reducible show wpAny _ _ (storeName _ (PySem.Str.ofString "name") _) _ _ _) | (with_reducible show wpAny _ _ (storeName _ (PySem.Str.ofString "numbers") _) _ _ _) | (with_reducible show wpAny _ _ (storeName _ (PySem.Str.ofString "place") _) _ _ _) | (with_reducible show wpAny _ _ (storeName _ (PySem.Str.ofString "bare") _) _ _ _)); k_dflt (refine' storeX_C ?F ?N ?c ?U ?d ?_ ?a ?b; (case a => rfl); (case b => rfl); (case F => k_asm); (case N => k_asm); (case c => rfl); (case U => k_updF); (case d => k_asm); k_whole; intro h' o' F' N' d'; (try dsimp only at N'); (try k_sweep))))
local macro_rules | `(tactic| walk_at "call ref") => `(tactic| (k_here; k_dflt (refine' next_spec ?k0 ?k1 ?k2 ?k3 ?k4 ?k5 ?k6 ?k7 ?k8 ?k9 ?kA ?kB ?kC ?kD ?_; (case k2 => exact Fr.keep (by k_asm)); (case k0 => with_reducible assumption); (case k1 => with_reducible assumption); (case k3 => exact newsNone (by k_asm) (by k_mem)); (case k4 => walk_at "room"); (case k5 => exact News.get (by k_asm) (by k_mem)); (case k6 => walk_at "alist"); (case k7 => with_reducible assumption); (case k8 => omega); (case k9 => with_reducible assumption); (case kA => with_reducible assumption); (case kB => with_reducible assumption); (case kC => omega); (case kD => omega); intro v' t' i' r' t1' t2' k' h' tk' hv0' hv1' hi0' hr0' hk' hS'; have hb' := backS (by k_asm) (by k_asm) (by k_updF) hk' hS'; obtain ⟨F', N'⟩ := hb'; clear hk' hS'; (try dsimp only at N'); (try k_sweep))))
local macro_rules | `(tactic| walk_at "call ref") => `(tactic| (k_here; k_dflt (refine' put_spec ?X ?T ?d ?l ?i ?n ?p ?_; (case X => k_in); (case T => walk_at "top"); (case d => walk_at "room"); (case l => walk_at "alist"); (case i => with_reducible assumption); (case n => omega); (case p => omega); intro l' arr' k' h' tk' hg' hn' ho' hI'; have hb' := backL (by k_asm) (by k_asm) hg' hn' ho'; obtain ⟨F', N', o1'⟩ := hb')))
local macro_rules | `(tactic| walk_at "subscriptTail Call Constant ref int") => `(tactic| (k_dflt (refine' int_item ?l ?i ?z ?a ?b ?_; (case l => walk_at "alist"); (case i => with_reducible assumption); (case z => walk_at "len"); (case a => omega); (case b => walk_at "len"); intro _)))
local macro_rules | `(tactic| walk_at "subscriptTail List Name ref int") => `(tactic| (k_dflt (refine' int_item ?l ?i ?z ?a ?b ?_; (case l => walk_at "alist"); (case i => walk_at "lits"); (case z => decide); (case a => omega); (case b => (simp only [List.length_cons, List.length_nil]; omega)); intro _)))
local macro_rules | `(tactic| walk_at "S12") => `(tactic| repeat' (first
  | (k_unfold; (try dsimp only))
  | ((with_reducible show Frag.In _ _ ∧ _); walk1)
  | (fail_if_success (k_end; skip)); (fail_if_success walk_at "stop"); (fail_if_success (with_reducible show wpAny _ _ (execs (Stmt.Assign [Expr.Name "bare" _] _ _ :: _) _) _ _ _)); first | walk1 | (dsimp only; walk1)))
local macro_rules | `(tactic| walk_at "S13") => `(tactic| repeat' (first
  | (k_unfold; (try dsimp only))
  | ((with_reducible show Frag.In _ _ ∧ _); walk1)
  | (fail_if_success (k_end; skip)); (fail_if_success walk_at "stop"); (fail_if_success (with_reducible show wpAny _ _ (execs (Stmt.Assign [Expr.Name "fits" _] _ _ :: _) _) _ _ _)); first | walk1 | (dsimp only; walk1)))
local macro_rules | `(tactic| walk_at "binaryOp FloorDiv int int") => `(tactic| (k_here; k_dflt (refine floordiv_int (by with_reducible assumption) ?_ (Or.inl (PyProof.noPylong_small (by with_reducible assumption))))))
local macro_rules | `(tactic| walk_at "adrs") => `(tactic| (repeat' (first | exact List.forall_mem_nil _ | refine List.forall_mem_cons.mpr ⟨by first | exact newsDiff (by k_asm) (by k_mem) (by k_mem) (listTab _) | exact newsDiff (by k_asm) (by k_mem) (by k_mem) (notTab (by k_asm) _) | exact Ne.symm (off1_mem (by k_asm) (_, _) (by k_mem)), ?_⟩)))
theorem abz_item {v : Int} (h0 : 0 ≤ v) (h1 : v < 3) : ∃ c : Nat, (c = 97 ∨ c = 98 ∨ c = 122) ∧ Txt.item (PySem.Str.ofString "abz") v = chS c := by
  have H : ∀ k : Nat, k < 3 → ∃ c : Nat, (c = 97 ∨ c = 98 ∨ c = 122) ∧ Txt.item (PySem.Str.ofString "abz") (k : Int) = chS c := by
    intro k hk
    rcases (by omega : k = 0 ∨ k = 1 ∨ k = 2) with rfl | rfl | rfl
    · exact ⟨97, Or.inl rfl, by decide +kernel⟩
    · exact ⟨98, Or.inr (Or.inl rfl), by decide +kernel⟩
    · exact ⟨122, Or.inr (Or.inr rfl), by decide +kernel⟩
  obtain ⟨k, rfl⟩ := Int.eq_ofNat_of_zero_le h0
  exact H k (by omega)
theorem abz_len : (PySem.Str.ofString "abz").length = 3 := by decide +kernel
theorem abz_tail {prog : Program} {w : World} {A : Around} {E : Value → Shared → Prop} {s : Shared} {value slice : PySem.Expr} {v : Int} {u t : Tok} {Q : Value → Shared → Prop} (h0 : 0 ≤ v) (h1 : v < 3)
    (h : ∀ c : Nat, (c = 97 ∨ c = 98 ∨ c = 122) → Q (.str (chS c) s.toks) { s with toks := s.toks + 1 })
    (hs : subscripted slice false (.str (PySem.Str.ofString "abz") t) (.int v u) = operate [.str (PySem.Str.ofString "abz") t, .int v u] (getItem (.str (PySem.Str.ofString "abz") t) (.int v u)) := by with_unfolding_all rfl)
    (ht : ∀ r, letTemporaryGo value (.str (PySem.Str.ofString "abz") t) r = pure () := by intro _; with_unfolding_all rfl) :
    wpAny (model prog w) A (subscriptTail value slice (.str (PySem.Str.ofString "abz") t) (.int v u)) Q E s := by
  obtain ⟨c, hc, e⟩ := abz_item h0 h1
  refine item_str (fitsSsize_of (N := 9223372036854775808) (by omega) (by omega) (Int.le_refl _)) (by rw [abz_len]; omega) (by rw [abz_len]; omega) (fun _ => ?_) hs ht
  rw [e]
  exact h c hc
set_option maxHeartbeats 40000000 in
theorem law_spec {w : World} {dp un : Nat} {fr : Option (List Env)} {gd : Option (List Code)} {E : Value → Shared → Prop} {s : Shared} {p : Program} {loose : List Str} {mean : ExcName → Option Value} {mg mb : Str → Option Value} {Q : Value → Shared → Prop}
    {l : Addr} {arr : Array Value} {ns : List Int}
    (X : (Mine.hd.heap_39 w.params).In s.heap) (T : Top p loose mean mg mb s.heap) (C : CodeHd s.heap 47 45) (hP : s.heap.get? 45 = some (tabObj #[])) (hG : AllBare s.gens) (hd : dp + 40 < recursionLimit) (hu : un + 1000 < cLine)
    (hl : s.heap.IsList l arr) (hi : IntsAre arr.toList ns) (hn : ns.length ≤ 63)
    (ret : ∀ s' ps, s'.os = s.os → AllBare s'.gens → (∀ b o, b ≠ 45 → s.heap.get? b = some o → s'.heap.get? b = some o) → s'.heap.get? 45 = some (tabObj ps) → Q (.bool true) s') :
    wpAny (model PySem.Challenge.rw_oo0007_03.row.prog w) (AA dp un fr gd) (call (.ref 67) [.ref l]) Q E s := by
  revert X; k_fill; intro X
  refine enterKCH (binds := [("script", .ref l)]) X T hP (by show dp < _; omega) (by k_is) (by k_is) (BindsTo.of_eq rfl) (by rfl) (by decide +kernel) ?_
  intro h₁ tk cells F N Y
  k_cells Y
  rename_i o1 o2 o3 o4 o5 d1 d2 d3 d4 d5
  replace d1 : o1.data = .cell none := d1
  replace d2 : o2.data = .cell none := d2
  replace d3 : o3.data = .cell none := d3
  replace d4 : o4.data = .cell none := d4
  replace d5 : o5.data = .cell none := d5
  simp only [List.cons_append, List.nil_append] at N
  replace F := frTold [("script", .ref l)] F (by walk_at "told")
  revert F
  generalize bindL _ _ _ = u₀
  intro F
  have Xg := hide_K hP X (by rfl)
  have Tg := hide_top hP T
  have Cg := hide_code hP C
  have hlg := hide_list hP hl
  have hlen := hi.length
  rw [Array.length_toList] at hlen
  clear X T C hl
  walk_at "S"
  rename_i sl sarr _ la hIs S _ lb _ oS F1 N1 dS
  have hne : @Ne Nat sl S := Nat.ne_of_lt lb.1
  have hsn := hIs.length
  have htk : (List.take (Int.toNat 12) ns).length ≤ 12 := by rw [List.length_take]; exact Nat.min_le_left _ _
  generalize List.take (Int.toNat 12) ns = sc at *
  have z0 : (0 : Int) ≤ 0 := by decide
  have z17 : (0 : Int) ≤ 17 := by decide
  refine ListComp_U (F₀ := F1) (by with_unfolding_all rfl) (by decide) (by rfl) (by decide) (by rfl) ?_
  walk_at "S"
  rename_i v0 _ i0 r0 _ _ _ _ _ hv0 hv1 hi0 hr0 _ _ _ _ _ _ _ _ _ _ _
  obtain ⟨M, hM⟩ := Int.eq_ofNat_of_zero_le (show (0 : Int) ≤ 1 + v0 by omega)
  have hM1 : 1 ≤ M := by omega
  have hM2 : M ≤ 2 := by omega
  have hsm := small_nat (n := M) (by omega)
  rw [← hM] at hsm
  refine CompSrc.range (by rfl) (by k_asm) (by k_asm) (by assumption) hsm.1 (n := M) (by rw [← hM]; exact hsm.2) (by rw [sizeLine_eq]; omega) ?_
  intro g
  refine compFold (n := M) (σ := (Int × Tok) × (Int × Tok) × Nat) (fun c => [(S, W.listOf #[.ref sl, .int c.1.1 c.1.2, .int c.2.1.1 c.2.1.2] c.2.2), (sl, _), (s.heap.objs.size + 1 + 1 + 1 + 1 + 1, _), (s.heap.objs.size + 1 + 1 + 1 + 1, _), (s.heap.objs.size + 1 + 1 + 1, _), (s.heap.objs.size + 1 + 1, _), (s.heap.objs.size + 1, _), (45, tabObj #[])]) (fun i c ys => 0 ≤ c.1.1 ∧ 0 ≤ c.2.1.1 ∧ ∃ cs : List Nat, StrsAre ys (cs.map chS) ∧ ∀ d ∈ cs, d = 97 ∨ d = 98 ∨ d = 122) (fun _ => trivial) (fun _ _ => rfl) ?_ ?_ _ 0 ((_, _), (_, _), _) [] (by omega) rfl ⟨hi0, hr0, [], .nil, fun _ h => nomatch h⟩
  · rintro i ⟨⟨a1, a2⟩, ⟨a3, a4⟩, a5⟩ ys v I oI C oC D m₂ h tk E' hi ⟨t, rfl⟩ hyl ⟨h0, h1, cs, hcs, hcd⟩ hC hm F N o3 ne
    dsimp only at h0 h1 F N o3
    obtain ⟨eI, eC, eD⟩ := o3.mem _ (.head _)
    dsimp only at eI eC eD
    walk_at "S"
    rename _ < (3 : Int) => hv1
    obtain ⟨d, hd1, hd2⟩ := abz_item (by with_reducible assumption) hv1
    exact ⟨((_, _), (_, _), _), _, _, rfl, by k_asm, by k_asm, by with_reducible assumption, by with_reducible assumption, cs ++ [d], strsSnoc hcs hd2, fun e he => (List.mem_append.mp he).elim (hcd e) (fun he => by rw [List.mem_singleton.mp he]; exact hd1)⟩
  rintro ⟨⟨a1, a2⟩, ⟨a3, a4⟩, a5⟩ ys hyl ⟨ha1, ha3, cs, hcs, hcd⟩
  dsimp only at ha1 ha3
  walk_at "FinE"
  obtain ⟨lv, ev, et⟩ := strsAre_values hcs
  have hcl : cs.length = M := by have := hcs.length; rw [List.length_map] at this; omega
  walk_at "S"
  refine SC.join (l := lv) (by rw [← ev]; exact isList_in (k := ys.length) (by k_asm) (by k_mem)) et (joinOk_chs (by omega)) ?_
  intro t' tk'
  have ej : Txt.join (PySem.Str.ofString "") (cs.map chS) = ⟨cs.toArray⟩ := join_chs _
  rw [ej]
  have hx : NameIs ⟨cs.toArray⟩ M := ⟨by simp [hcl], fun c hc => by
    have hc' : c ∈ cs := by simpa using hc
    rcases hcd c hc' with rfl | rfl | rfl <;> decide⟩
  revert hx
  generalize (⟨cs.toArray⟩ : Str) = x
  intro hx
  rename (_ ≠ _) ∧ _ => oo
  rename News _ _ _ _ => N5
  have N6 := news_tl N5
  clear oo N5
  clear hi0 hr0 hv0 hv1 hM hsm
  walk_at "S"
  walk1
  walk_at "S"
  refine ListComp_U (F₀ := by k_asm) (by with_unfolding_all rfl) (by decide) (by rfl) (by decide) (by rfl) ?_
  walk_at "S"
  rename_i v3 _ i3 r3 _ _ _ _ _ hv30 hv31 hi3 hr3 _ _ _ _ _ _ _ _ _ _ _
  obtain ⟨B, hB⟩ := Int.eq_ofNat_of_zero_le (show (0 : Int) ≤ 1 + v3 by omega)
  have hB1 : 1 ≤ B := by omega
  have hB2 : B ≤ 4 := by omega
  have hsm := small_nat (n := B) (by omega)
  rw [← hB] at hsm
  refine CompSrc.range (by rfl) (by k_asm) (by k_asm) (by assumption) hsm.1 (n := B) (by rw [← hB]; exact hsm.2) (by rw [sizeLine_eq]; omega) ?_
  intro g2
  refine compFold (n := B) (σ := (Int × Tok) × (Int × Tok) × Nat) (fun c => [(S, W.listOf #[.ref sl, .int c.1.1 c.1.2, .int c.2.1.1 c.2.1.2] c.2.2), (sl, _), (s.heap.objs.size + 1 + 1 + 1 + 1 + 1, _), (s.heap.objs.size + 1 + 1 + 1 + 1, _), (s.heap.objs.size + 1 + 1 + 1, _), (s.heap.objs.size + 1 + 1, _), (s.heap.objs.size + 1, _), (45, tabObj #[])]) (fun i c ys => 0 ≤ c.1.1 ∧ 0 ≤ c.2.1.1 ∧ ∃ rs : List Int, IntsAre ys rs ∧ ∀ n ∈ rs, 0 ≤ n ∧ n < 32) (fun _ => trivial) (fun _ _ => rfl) ?_ ?_ _ 0 ((_, _), (_, _), _) [] (by omega) rfl ⟨hi3, hr3, [], .nil, fun _ h => nomatch h⟩
  · rintro i ⟨⟨a1, a2⟩, ⟨a3, a4⟩, a5⟩ ys v I oI C oC D m₂ h tk E' hi ⟨t, rfl⟩ hyl ⟨h0, h1, rs, hcs, hcd⟩ hC hm F N o3 ne
    dsimp only at h0 h1 F N o3
    obtain ⟨eI, eC, eD⟩ := o3.mem _ (.head _)
    dsimp only at eI eC eD
    walk_at "S"
    rename _ < (32 : Int) => hv1
    exact ⟨((_, _), (_, _), _), _, _, rfl, by k_asm, by k_asm, by with_reducible assumption, by with_reducible assumption, rs ++ [_], hcs.append (.cons _ _ .nil), fun e he => (List.mem_append.mp he).elim (hcd e) (fun he => by rw [List.mem_singleton.mp he]; exact ⟨by with_reducible assumption, hv1⟩)⟩
  rintro ⟨⟨b1, b2⟩, ⟨b3, b4⟩, b5⟩ zs hzl ⟨hb1, hb3, rs, hrs, hrd⟩
  dsimp only at hb1 hb3
  walk_at "FinE"
  have hrl : rs.length = B := by have := hrs.length; omega
  have kr : IntsAre zs rs ∧ True := ⟨hrs, trivial⟩
  clear hi3 hr3 hv30 hv31 hB hsm
  walk_at "S12"
  rename_i vp _ _ _ _ _ _ _ _ hp0 hp1 _ _ vm _ _ _ _ _ _ _ _ hm0 hm1 _ _ vt _ _ _ _ _ _ _ _ hu0 hu1 _ _ _ _ _ _ _ _ d2' _ _ F9 N9
  rename _ = Data.cell (some (Value.str x _)) => d4'
  rename _ = Data.cell (some (Value.ref _)) => d3'
  obtain ⟨pl, rfl⟩ := Int.eq_ofNat_of_zero_le hp0
  have hoE : FnAt (Mine.hd.heap_39 w.params) 67 _ _ _ _ := .mk (by k_is)
  have hxs := hx.size
  have hxa : 1 ≤ x.cps.size := by omega
  have hxc : x.cps.size ≤ 2 := by omega
  have hxn : NameIs x x.length := ⟨rfl, hx.signs⟩
  have F9' := frTold [("many", _), ("turn", _)] F9 (by walk_at "told")
  have N9' := news_sub (b := [(_, lst zs), (s.heap.objs.size + 1 + 1 + 1 + 1 + 1, _), (s.heap.objs.size + 1 + 1 + 1 + 1, _), (s.heap.objs.size + 1 + 1 + 1, _), (s.heap.objs.size + 1 + 1, _), (45, tabObj #[])]) N9 (by walk_at "mems")
  exact partB (s := s) hoE Xg Tg Cg hG hd hu hxn hxa hxc kr.1 (by omega) (by omega) hrd (by omega) (by omega) (by omega) (by omega) d1 d2' d3' d4' F9' N9'
    (fun s' ps h1 h2 h3 h4 => ret s' ps h1 h2 (fun b o hb he => h3 b o (hideAll_get _ he (by simpa using hb))) h4)
end Mine
end
section
open PySem PySem.W PySem.Calls PyProof.Rows
set_option maxRecDepth 100000
set_option linter.unusedVariables false
namespace Mine
open LCg
theorem goodLaw {c : ClaimW} {cl : Str → Option Addr} {mean : ExcName → Option Value} {args : List WData} {s₁ s' : Shared} {ps : Array Value} (hc : ∃ d, ReadsW c.records cl s'.heap (.bool true) d [] ∧ c.post args d args = true) (hr : ∀ cls, c.raises args cls = false)
    (C : CodeHd s₁.heap 47 45) (hP : s₁.heap.get? 45 = some (tabObj #[])) (hos : s'.os = s₁.os) (hG : AllBare s'.gens) (hk : ∀ b o, b ≠ 45 → s₁.heap.get? b = some o → s'.heap.get? b = some o) (h46 : s'.heap.get? 45 = some (tabObj ps)) :
    GoodWG c cl mean args s₁ (.ok (.ret (.bool true))) s' := by
  obtain ⟨d, h1, h2⟩ := hc
  refine ⟨.inl ⟨.bool true, d, [], rfl, hr, h1, h2, fun _ => ⟨List.nodup_nil, fun a ha => nomatch ha⟩⟩, ⟨fun b o e => ?_, fun b o e => ?_⟩, hos, hG⟩
  · by_cases hb : b = 45
    · subst hb
      rw [hP] at e
      obtain rfl := Option.some.inj e
      exact .inr (.inl ⟨(C.tab hP).isCodeTable, rfl, #[], ps, rfl, by rw [Array.empty_append]; exact h46⟩)
    · exact .inl (hk b o hb e)
  · by_cases hb : b = 45
    · subst hb; exact ⟨_, h46⟩
    · exact ⟨o, hk b o hb e⟩
set_option maxHeartbeats 8000000 in
theorem lawHolds : PySem.Challenge.rw_oo0007_03.Holds := by
  refine Mine.hd ?_
  k_fill
  intro w s₀ s₁ mg mb G Y fa o pm cd doc dV kV ho hd hcd hD hmg hg args vals as hpre hlay hrd hwl hlo
  have KX := kIn_of Y
  have X := (Ground.X G).1
  have V := (Ground.X G).2
  refine Ground.open G ?_
  intro T B D TE TW
  try (refine guard_noD D (by decide +kernel) ?_; clear D)
  have hfa : mg "law" = some (.ref 67) := mg_of KX T.g (by k_is)
  have hfa2 : mg "law" = some (.ref fa) := hmg
  rw [hfa] at hfa2
  obtain rfl : (67 : Addr) = fa := Value.ref.inj (Option.some.inj hfa2)
  obtain ⟨d, hr⟩ := Option.isSome_iff_exists.mp (show ((recsOf Mine.hd.view_39).find? (fun e => e.name == ("bech32_decode" : Str))).isSome = true by decide +kernel)
  obtain ⟨C, hP⟩ := tab_of (c := 47) (P := 45) T KX hr (by kernel_rfl)
  clear hfa hfa2 ho hd hcd hD hmg B TE TW X V G Y hr d
  wrow_args hpre hlay hrd hwl hlo
  refine law_spec (s := s₁) (un := 4) (fr := some []) (gd := some []) KX T C hP (fun g hg' => by rw [hg] at hg'; simp at hg') (by decide) (by decide) (by assumption) (by assumption) (by omega) ?_
  intro s' ps hos hG hk h45
  refine goodLaw ⟨.bool true, .bool true, by with_unfolding_all rfl⟩ (fun _ => rfl) C hP hos hG hk h45
end Mine
end
set_option maxRecDepth 100000 in
set_option maxHeartbeats 8000000 in
theorem PySem.Challenge.cw_oo0007_03_holds : PySem.Challenge.rw_oo0007_03.Holds := by
  exact Mine.lawHolds
