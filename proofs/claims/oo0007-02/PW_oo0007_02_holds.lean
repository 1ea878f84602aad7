import PyProof.Rows.All
import Wide.All
import OpenK.AllK
import Wide.FinOn
import PySem.Challenge.RW_oo0007_02
set_option Elab.async false
section
open PySem PySem.W PyProof.Rows
namespace Mine
set_option maxRecDepth 100000 in
set_option maxHeartbeats 8000000 in
open_top hd for PySem.Challenge.rw_oo0007_02
end Mine
end
section
open PySem PySem.W PySem.Calls PyProof.Rows
set_option maxRecDepth 100000
set_option linter.unusedVariables false
namespace Mine
abbrev AA (dp un : Nat) (fr : Option (List Env)) (gd : Option (List Code)) : Around := { handled := none, depth := dp, frames := fr, guards := gd, units := un }

theorem enterK {prog : Program} {w : World} {A : Around} {E : Value → Shared → Prop} {s : Shared} {K : Frag} {p : Program} {loose : List Str} {mean : ExcName → Option Value} {mg mb : Str → Option Value} {Q : Value → Shared → Prop}
    {name : Str} {params : Arguments} {body : List Stmt} {scope : Scope} {dV kV doc pm cdv ct oc : Value} {an od : Option Addr} {osl : Array (Option Value)} {f : Addr} {args : List Value} {binds : List (Str × Value)}
    (X : K.In s.heap) (T : Top p loose mean mg mb s.heap) (hroom : A.depth < recursionLimit)
    (ho : K.lookup f = some ⟨oc, od, .func (fnOf name name params body scope dV kV doc pm an cdv ct), osl⟩) (hcd : codeIn K cdv name = true)
    (hbind : BindsTo s (fnOf name name params body scope dV kV doc pm an cdv ct) ⟨args, []⟩ binds) (hloc : ∀ y ∈ binds, scope.names.lookup y.1 = some .local)
    (h : ∀ h₁, Fr s.heap s.heap.objs.size h₁ (fun x => binds.reverse.lookup x) → News s.heap s.heap.objs.size h₁ [] →
      wpAny (model prog w) (A.deeper (envOf name scope s.heap.objs.size f cdv)) (execs body (envOf name scope s.heap.objs.size f cdv))
        (fun fl s' => Q (match fl with | .ret v => v | _ => .none) s') (fun _ _ => False) { s with heap := h₁, toks := s.toks + binds.length })
    (hco : scope.isCoroutine = false := by rfl) (hgen : scope.isGenerator = false := by rfl) (hk : scope.kind = .function := by rfl)
    (hcell : ∀ x ∈ scope.names, x.2 ≠ .cell := by decide) :
    wpAny (model prog w) A (call (.ref f) args) Q E s := by
  refine wpAny_call (codeAny_call_def (fd := fnOf name name params body scope dV kV doc pm an cdv ct) (body := body) (binds := binds) hroom (X _ _ ho) rfl T.nolimit (codeRec_of X hcd) rfl hbind hcell hloc (fun h₁ hns hk₁ => ?_) hco hgen hk)
  exact wpAny_mono (h h₁ ⟨hns, hk₁, Nat.le_refl _⟩ News.nil) (fun fl s' hl => hl) fun _ _ y => y.elim

/-- the grown heap, handed to the caller's facts -/
def Grow (s : Shared) (h' : Heap) : Prop := ∀ b o, s.heap.get? b = some o → h'.get? b = some o

section
variable {prog : Program} {w : World} {A : Around} {E : Value → Shared → Prop} {s : Shared} {env : Env} {h₀ : Heap} {x : Str} {body : List Stmt} {Q : Flow → Shared → Prop}
/-- a loop over a list of ints that the call was handed: the ledger stays -/
theorem loopL {σ : Type} {l : Addr} {vs : List Value} {ns : List Int} {m₀ : Str → Option Value} {news : List (Addr × Obj)} (ps : σ → List (Str × Value)) (stored : List Str) (P : List Int → σ → Prop) (c₀ : σ)
    (hh : A.handled = none) (hl : h₀.IsList l vs.toArray) (hi : IntsAre vs ns) (F : Fr h₀ env.locals s.heap m₀) (N : News h₀ env.locals s.heap news) (hk : ∀ p ∈ ps c₀, m₀ p.1 = some p.2) (hp : P [] c₀)
    (turn : ∀ (c : σ) pre post n t (u : Str → Option Value) h tk own, ns = pre ++ n :: post → P pre c →
      Fr h₀ env.locals h (fun y => if y = x then some (.int n t) else kstB (fun z => if stored.contains z then u z else m₀ z) (ps c) y) → News h₀ env.locals h (news ++ own) →
      wpAny (model prog w) A (execs body env) (InvPostN h₀ env.locals (KstS (fun _ => news) ps (fun _ => True) x stored m₀ P (pre ++ [n])) own (news.map (·.1)) { s with heap := h, toks := tk } Q) E { s with heap := h, toks := tk })
    (done : ∀ (c : σ) (u : Str → Option Value) h tk, P ns c → Fr h₀ env.locals h (fun y => if y = x then u y else kstB (fun z => if stored.contains z then u z else m₀ z) (ps c) y) → News h₀ env.locals h news → Q .next { s with heap := h, toks := tk }) :
    wpAny (model prog w) A (pyIter (.ref l)) (fun it s₂ => LoopAtV prog w A h₀ env x body Q E it s₂) E s :=
  kst_list (fun _ => news) ps (fun _ => True) stored P c₀ hh hl hi F N trivial hk hp (fun c pre post n t u h tk own e _ _ _ hp F N => turn c pre post n t u h tk own e hp F N) (fun c u h tk _ hp F N => done c u h tk hp F N)

theorem loopR {σ : Type} {r : Addr} {a₀ b₀ : Int} {t₀ u₀ v₀ : Tok} {n : Nat} {m₀ : Str → Option Value} {news : List (Addr × Obj)} (ps : σ → List (Str × Value)) (stored : List Str) (P : List Int → σ → Prop) (c₀ : σ)
    (hh : A.handled = none) (hr : IsRange s.heap r a₀ b₀ 1 t₀ u₀ v₀) (hsmall : Builtin.Range.small a₀ b₀ 1 = true) (hn : Builtin.Range.rangeSize a₀ b₀ 1 = (n : Int)) (F : Fr h₀ env.locals s.heap m₀) (N : News h₀ env.locals s.heap news) (hk : ∀ p ∈ ps c₀, m₀ p.1 = some p.2) (hp : P [] c₀)
    (turn : ∀ (c : σ) (pre : List Int) (k : Int) t (u : Str → Option Value) h tk own, k = a₀ + (pre.length : Int) → pre.length < n → P pre c →
      Fr h₀ env.locals h (fun y => if y = x then some (.int k t) else kstB (fun z => if stored.contains z then u z else m₀ z) (ps c) y) → News h₀ env.locals h (news ++ own) →
      wpAny (model prog w) A (execs body env) (InvPostN h₀ env.locals (KstS (fun _ => news) ps (fun _ => True) x stored m₀ P (pre ++ [k])) own (news.map (·.1)) { s with heap := h, toks := tk } Q) E { s with heap := h, toks := tk })
    (done : ∀ (c : σ) (u : Str → Option Value) h tk, P (rangeKs a₀ n) c → Fr h₀ env.locals h (fun y => if y = x then u y else kstB (fun z => if stored.contains z then u z else m₀ z) (ps c) y) → News h₀ env.locals h news → Q .next { s with heap := h, toks := tk }) :
    wpAny (model prog w) A (pyIter (.ref r)) (fun it s₂ => LoopAtV prog w A h₀ env x body Q E it s₂) E s :=
  kst_range (fun _ => news) ps (fun _ => True) stored P c₀ hh hr hsmall hn F N trivial hk hp (fun c pre k t u h tk own e hlt _ _ hp F N => turn c pre k t u h tk own e hlt hp F N) (fun c u h tk _ hp F N => done c u h tk hp F N)

theorem loopEnd {σ : Type} {ps : σ → List (Str × Value)} {stored : List Str} {m₀ : Str → Option Value} {P : List Int → σ → Prop} {pre : List Int} (c : σ) {L : Addr} {m' : Str → Option Value} {own news news' : List (Addr × Obj)} {s₁ : Shared} {h' : Heap} {tk : Nat}
    (F : Fr h₀ L h' m') (N : News h₀ L h' news') (hn : ∀ p ∈ news ++ own, p ∈ news') (hk : ∀ p ∈ ps c, m' p.1 = some p.2) (hr : ∀ z, z ≠ x → (∀ p ∈ ps c, z ≠ p.1) → stored.contains z = false → m' z = m₀ z) (hp : P pre c) :
    InvPostN h₀ L (KstS (fun _ => news) ps (fun _ => True) x stored m₀ P pre) own (news.map (·.1)) s₁ Q .next { s₁ with heap := h', toks := tk } :=
  kst_end c F N (fun p hp => hn p (List.mem_append.mpr (.inl hp))) (fun p hp => hn p (List.mem_append.mpr (.inr hp))) rfl trivial hk hr hp
end

theorem bits_and25 (c : Int) : (Builtin.bitAnd c 33554431).natAbs < 2 ^ 64 := by
  by_cases hx : 0 ≤ c
  · rw [bitAnd_pp hx (by decide)]
    have h : c.toNat &&& (33554431 : Int).toNat ≤ 33554431 := Nat.and_le_right
    omega
  · rw [bitAnd_np hx (by decide)]
    have h : (33554431 : Int).toNat &&& (Builtin.bitNot c).toNat ≤ 33554431 := Nat.and_le_left
    omega
def genZ (i : Int) : Int := if i = 0 then 996825010 else if i = 1 then 642813549 else if i = 2 then 513874426 else if i = 3 then 1027748829 else 705979059
def inZ (top : Int) (c i : Int) : Int := Builtin.bitXor c (if Builtin.bitAnd (top.fdiv (2 ^ i.toNat)) 1 ≠ 0 then genZ i else 0)
def stepZ (c v : Int) : Int := [0, 1, 2, 3, 4].foldl (inZ (c.fdiv (2 ^ Int.toNat 25))) (Builtin.bitXor (Builtin.bitAnd c 33554431 * 2 ^ Int.toNat 5) v)
def polyZ (ns : List Int) : Int := ns.foldl stepZ 1
theorem inZ_posE {top c i g : Int} (h : Builtin.bitAnd (top.fdiv (2 ^ i.toNat)) 1 ≠ 0) (hg : genZ i = g) : Builtin.bitXor c g = inZ top c i := by unfold inZ; rw [if_pos h, hg]
theorem inZ_negE {top c i : Int} (h : Builtin.bitAnd (top.fdiv (2 ^ i.toNat)) 1 = 0) : Builtin.bitXor c 0 = inZ top c i := by unfold inZ; rw [if_neg (fun x => x h)]
theorem polyZ_snoc (pre : List Int) (n : Int) : polyZ (pre ++ [n]) = stepZ (polyZ pre) n := by unfold polyZ; rw [List.foldl_append, List.foldl_cons, List.foldl_nil]
theorem stepZ_range (a n : Int) : List.foldl (inZ (a.fdiv (2 ^ Int.toNat 25))) (Builtin.bitXor (Builtin.bitAnd a 33554431 * 2 ^ Int.toNat 5) n) (rangeKs 0 5) = stepZ a n := by
  unfold stepZ; have h : rangeKs 0 5 = [0,1,2,3,4] := by decide
  rw [h]
end Mine
end
section
open PySem PySem.W PySem.Calls PyProof.Rows
set_option maxRecDepth 100000
set_option linter.unusedVariables false
namespace Mine
open LCg
section
variable {prog : Program} {w : World} {A : Around} {E : Value → Shared → Prop} {s : Shared} {h₀ : Heap} {L : Addr} {m : Str → Option Value} {env : Env}

/-- the turns of a comprehension, by a word that is kept -/
theorem compFold {σ : Type} {elt : Expr} {x : Str} {scope : Scope} {cl : List (Str × Addr)} {S : List (Addr × Obj) → Prop} {P : Nat → Value → Prop} {Fin : List Value → List (Addr × Obj) → Prop} {n : Nat}
    (Led : σ → List (Addr × Obj)) (J : Nat → σ → List Value → Prop) (hS : ∀ c, S (Led c)) (hadr : ∀ c c', (Led c).map (·.1) = (Led c').map (·.1))
    (step : ∀ i c ys v I oI C oC D m₂ h tk (E' : Value → Shared → Prop), i < n → P i v → ys.length = i → J i c ys → NsObj oC m₂ → m₂ x = some v → Fr h₀ L h m → News h₀ L h ((I, oI) :: (C, oC) :: (D, lst ys) :: Led c) → Off3 I C D (Led c) →
      ((@Ne Nat I C) ∧ (@Ne Nat I D) ∧ (@Ne Nat C D)) →
      wpAny (model prog w) A (eval elt (compEnvC scope cl C env)) (fun y s₂ => ∃ c' h' tk', s₂ = { s with heap := h', toks := tk' } ∧ Fr h₀ L h' m ∧ News h₀ L h' ((I, oI) :: (C, oC) :: (D, lst ys) :: Led c') ∧ J (i + 1) c' (ys ++ [y])) E' { s with heap := h, toks := tk })
    (fin : ∀ c ys, ys.length = n → J n c ys → Fin ys (Led c)) :
    ∀ k i c ys, i + k = n → ys.length = i → J i c ys → CompRest prog w A h₀ L m env elt x scope cl s S P Fin k i ys (Led c) := by
  have off : ∀ {I C D : Addr} {l l' : List (Addr × Obj)}, l.map (·.1) = l'.map (·.1) → Off3 I C D l → Off3 I C D l' := fun {I C D l l'} e h =>
    Off3.of fun p hp => by
      have : p.1 ∈ l.map (·.1) := by rw [e]; exact List.mem_map_of_mem hp
      obtain ⟨q, hq, e'⟩ := List.mem_map.mp this
      rw [← e']; exact h.mem q hq
  intro k
  induction k with
  | zero => intro i c ys hi hl hj; exact CompRest.zero (fin c ys (by omega) (by rw [show n = i by omega]; exact hj))
  | succ k ih =>
    intro i c ys hi hl hj
    refine CompRest.succ fun v I oI C oC D m₂ h tk E' hP hC hx F N o3 ne => ?_
    refine wpAny_mono (step i c ys v I oI C oC D m₂ h tk E' (by omega) hP hl hj hC hx F N o3 ne) (fun y s₂ hy => ?_) fun _ _ e => e
    obtain ⟨c', h', tk', rfl, F', N', hj'⟩ := hy
    exact CompEnd.intro F' N' (Led c') (fun p hp => hp) (off (hadr c c') o3) (hS c') (ih (i + 1) c' (ys ++ [y]) (by omega) (by rw [List.length_append, hl]; rfl) hj')

def SrcS (prog : Program) (w : World) (A : Around) (h₀ : Heap) (L : Addr) (m : Str → Option Value) (env : Env) (elt : Expr) (x : Str) (scope : Scope) (cl : List (Str × Addr)) (Fin : Shared → List Value → List (Addr × Obj) → Prop) (xv : Value) (s₁ : Shared) : Prop :=
  ∃ tx t news, xv = .str tx t ∧ A.handled = none ∧ Fr h₀ L s₁.heap m ∧ News h₀ L s₁.heap news ∧ tx.cps.size ≤ sizeLine ∧
    ∀ s₂ : Shared, (∃ h, s₂ = { s₁ with heap := h }) → CompRest prog w A h₀ L m env elt x scope cl s₂ (fun _ => True) (SignAt tx) (Fin s₂) tx.cps.size 0 [] news

theorem str_st {I : Addr} {ty : String} {tx : Str} {t : Tok} : ∀ i (h h' : Heap) (o : Obj) (nw : List (Addr × Obj)), h.IsStrIter I ty tx t i → h.get? I = some o → h'.get? I = some o → (∀ b o, h₀.get? b = some o → h'.get? b = some o) → News h₀ L h' nw → True → h'.IsStrIter I ty tx t i :=
  fun i h h' o nw st e e' _ _ _ => by obtain ⟨o', q, r⟩ := st; rw [e] at q; cases q; exact ⟨o, e', r⟩

theorem ListComp_S {elt iter : Expr} {x : Str} {px : Pos} {scope : Scope} {cl : List (Str × Addr)} {pos : Pos} {Q : Value → Shared → Prop} (F₀ : Fr h₀ L s.heap m)
    (hclos : closureFor scope env = pure cl) (hcell : ∀ y ∈ scope.names, y.2 ≠ .cell) (hkind : scope.kind = .function)
    (hnames : ∀ y ∈ scope.names, y.2 = .local → scope.names.lookup y.1 = some .local) (hx : scope.names.lookup x = some .local)
    (h : wpAny (model prog w) A (eval iter env) (SrcS prog w A h₀ L m env elt x scope cl (fun s₂ => FinE h₀ L m s₂ Q)) E s)
    (hs : ∀ x, foldedSetIterable iter env x = pure x := by intro _; rfl) :
    wpAny (model prog w) A (eval (.ListComp elt [⟨.Name x px, iter, [], 0⟩] scope pos) env) Q E s := by
  rw [eval_ListComp]
  refine wpAny_comprehension_free (use := none) rfl hs hclos hkind hnames (wpAny_mono h (fun xv s₁ h₁ => ?_) fun _ _ e => e)
  obtain ⟨tx, t, news, rfl, hh, F, N, hsz, R⟩ := h₁
  have endp : ∀ (o : Obj) (D C : Addr) (h : Heap) (tk : Nat) (m' : Str → Option Value) (ys : List Value) (news' : List (Addr × Obj)), Fr h₀ L h m → News h₀ L h ((D, lst ys) :: news') → Off1 D news' → h.Ns C m' → h₀.get? C = none → h₀.get? D = none → C ≠ L → D ≠ L → C ≠ D → (∀ p ∈ news', p.1 ≠ C) →
      FinE h₀ L m { s₁ with heap := s₁.heap.push o } Q ys news' → ∃ m, h.Ns C m ∧ ∀ h', Heap.SameBut C h h' → Q (.ref D) { s₁ with heap := h', toks := tk } := by
    intro o D C h' tk m' ys news' F' N' o1 hn hC₀ hD₀ hCL hDL hCD offC fin
    refine ⟨m', hn, fun h'' hs'' => fin D h'' tk (F'.change hs'' hCL hC₀) (fun p hp => ?_) o1⟩
    refine ⟨hs''.extBut _ _ ?_ (N' p hp).1, (N' p hp).2⟩
    rcases List.mem_cons.mp hp with rfl | hp
    · exact Ne.symm hCD
    · exact offC p hp
  cases ha : tx.cps.all (· < 128)
  · refine wpAny_pyIter_wide ha ?_
    refine block_U (Walks.strWide hh s₁.heap.objs.size tx t) hsz (fun i h st => by obtain ⟨o, e, _⟩ := st; exact ⟨o, e⟩) str_st hcell hkind hx ⟨_, Heap.get?_push_size _ rfl, rfl, rfl⟩ (fun b hb => ?_)
      (F.keeps fun _ _ e => Heap.get?_push_of_some _ e) (N.grown fun _ _ e => Heap.get?_push_of_some _ e) (Nat.ne_of_lt F.ns.lt) (next_is_new F) (fun p hp => Nat.ne_of_lt (Heap.lt_size (N p hp).1)) trivial (R _ ⟨_, rfl⟩) ?_
    · rw [List.mem_singleton.mp hb]
      show s₁.heap.objs.size < (s₁.heap.push _).objs.size
      rw [Heap.size_push]; exact Nat.lt_succ_self _
    · intro D C h' tk m' ys news' F' N' o1 hn hC₀ hD₀ hCL hDL hCD offC fin
      exact endp _ D C h' tk m' ys news' F' N' o1 hn hC₀ hD₀ hCL hDL hCD offC fin
  · refine wpAny_pyIter_ascii ha ?_
    refine block_U (Walks.strAscii hh s₁.heap.objs.size tx t) hsz (fun i h st => by obtain ⟨o, e, _⟩ := st; exact ⟨o, e⟩) str_st hcell hkind hx ⟨_, Heap.get?_push_size _ rfl, rfl, rfl⟩ (fun b hb => ?_)
      (F.keeps fun _ _ e => Heap.get?_push_of_some _ e) (N.grown fun _ _ e => Heap.get?_push_of_some _ e) (Nat.ne_of_lt F.ns.lt) (next_is_new F) (fun p hp => Nat.ne_of_lt (Heap.lt_size (N p hp).1)) trivial (R _ ⟨_, rfl⟩) ?_
    · rw [List.mem_singleton.mp hb]
      show s₁.heap.objs.size < (s₁.heap.push _).objs.size
      rw [Heap.size_push]; exact Nat.lt_succ_self _
    · intro D C h' tk m' ys news' F' N' o1 hn hC₀ hD₀ hCL hDL hCD offC fin
      exact endp _ D C h' tk m' ys news' F' N' o1 hn hC₀ hD₀ hCL hDL hCD offC fin

theorem Assign_ListComp_S {elt iter : Expr} {x y : Str} {px py : Pos} {scope : Scope} {cl : List (Str × Addr)} {pos spos : Pos} {Q : Flow → Shared → Prop} (F₀ : Fr h₀ L s.heap m) (hLe : env.locals = L)
    (hsw : swapsWith (.ListComp elt [⟨.Name x px, iter, [], 0⟩] scope pos) (some (.Name y py)) spos.line env = pure true)
    (hclos : closureFor scope env = pure cl) (hcell : ∀ z ∈ scope.names, z.2 ≠ .cell) (hkind : scope.kind = .function)
    (hnames : ∀ z ∈ scope.names, z.2 = .local → scope.names.lookup z.1 = some .local) (hx : scope.names.lookup x = some .local)
    (hy : env.kindOf y = some .local) (hp : (env.scope.kind == .class || (env.scope.kind == .module && env.locals != env.globals)) = false)
    (h : wpAny (model prog w) A (eval iter env) (SrcS prog w A h₀ L m env elt x scope cl (fun s₂ => FinA h₀ L m s₂ y Q)) E s)
    (hs : ∀ x, foldedSetIterable iter env x = pure x := by intro _; rfl) :
    wpAny (model prog w) A (exec (.Assign [.Name y py] (.ListComp elt [⟨.Name x px, iter, [], 0⟩] scope pos) spos) env) Q E s := by
  subst hLe
  rw [exec_Assign_Name_used _ _ _ _ hsw]
  refine wpAny_bind (wpAny_standAt (wpAny_bind ?_))
  show wpAny _ A (do let _ ← comprehension (.ListComp elt [⟨.Name x px, iter, [], 0⟩] scope pos) scope env _ (newList []) false (eval iter env) (some (assign (.Name y py) env))) _ _ s
  refine wpAny_bind (wpAny_mono (wpAny_comprehension_free (use := some (assign (.Name y py) env)) (Q := fun _ s' => Q .next s') rfl hs hclos hkind hnames
    (wpAny_mono h (fun xv s₁ h₁ => ?_) fun _ _ e => e)) (fun _ s' hq => wpAny_pure (wpAny_pure hq)) fun _ _ e => e)
  obtain ⟨tx, t, news, rfl, hh, F, N, hsz, R⟩ := h₁
  have endp : ∀ (o : Obj) (D C : Addr) (h' : Heap) (tk : Nat) (m' : Str → Option Value) (ys : List Value) (news' : List (Addr × Obj)), Fr h₀ env.locals h' m → News h₀ env.locals h' ((D, lst ys) :: news') → Off1 D news' → h'.Ns C m' → h₀.get? C = none → h₀.get? D = none → C ≠ env.locals → D ≠ env.locals → C ≠ D → (∀ p ∈ news', p.1 ≠ C) →
      FinA h₀ env.locals m { s₁ with heap := s₁.heap.push o } y Q ys news' →
      wpAny (model prog w) A (assign (.Name y py) env (.ref D)) (fun _ s'' => ∃ m, s''.heap.Ns C m ∧ ∀ h', Heap.SameBut C s''.heap h' → Q .next { s'' with heap := h' }) E { s₁ with heap := h', toks := tk } := by
    intro o D C h' tk m' ys news' F' N' o1 hn hC₀ hD₀ hCL hDL hCD offC fin
    refine wpAny_assign_Name (wpAny_storeName_local hy F'.ns (fun h₂ hn₂ hs₂ => ?_) hp)
    have hL₀ : h₀.get? env.locals = none := Heap.get?_none_of_le F'.above
    have F₂ : Fr h₀ env.locals h₂ (fun z => if z = y then some (.ref D) else m z) := ⟨hn₂, fun b o e => hs₂.extBut b o (fun q => by rw [q, hL₀] at e; cases e) (F'.keep b o e), F'.above⟩
    refine ⟨m', hn.sameBut hs₂ hCL, fun h'' hs'' => fin D h'' _ (F₂.change hs'' hCL hC₀) (fun p hp => ?_) o1⟩
    have z : h₂.get? p.1 = some p.2 := hs₂.extBut _ _ (N' p hp).2.1 (N' p hp).1
    refine ⟨hs''.extBut _ _ ?_ z, (N' p hp).2⟩
    rcases List.mem_cons.mp hp with rfl | hp
    · exact Ne.symm hCD
    · exact offC p hp
  cases ha : tx.cps.all (· < 128)
  · refine wpAny_pyIter_wide ha ?_
    refine block_U (Walks.strWide hh s₁.heap.objs.size tx t) hsz (fun i h st => by obtain ⟨o, e, _⟩ := st; exact ⟨o, e⟩) str_st hcell hkind hx ⟨_, Heap.get?_push_size _ rfl, rfl, rfl⟩ (fun b hb => ?_)
      (F.keeps fun _ _ e => Heap.get?_push_of_some _ e) (N.grown fun _ _ e => Heap.get?_push_of_some _ e) (Nat.ne_of_lt F.ns.lt) (next_is_new F) (fun p hp => Nat.ne_of_lt (Heap.lt_size (N p hp).1)) trivial (R _ ⟨_, rfl⟩) ?_
    · rw [List.mem_singleton.mp hb]
      show s₁.heap.objs.size < (s₁.heap.push _).objs.size
      rw [Heap.size_push]; exact Nat.lt_succ_self _
    · intro D C h' tk m' ys news' F' N' o1 hn hC₀ hD₀ hCL hDL hCD offC fin
      exact endp _ D C h' tk m' ys news' F' N' o1 hn hC₀ hD₀ hCL hDL hCD offC fin
  · refine wpAny_pyIter_ascii ha ?_
    refine block_U (Walks.strAscii hh s₁.heap.objs.size tx t) hsz (fun i h st => by obtain ⟨o, e, _⟩ := st; exact ⟨o, e⟩) str_st hcell hkind hx ⟨_, Heap.get?_push_size _ rfl, rfl, rfl⟩ (fun b hb => ?_)
      (F.keeps fun _ _ e => Heap.get?_push_of_some _ e) (N.grown fun _ _ e => Heap.get?_push_of_some _ e) (Nat.ne_of_lt F.ns.lt) (next_is_new F) (fun p hp => Nat.ne_of_lt (Heap.lt_size (N p hp).1)) trivial (R _ ⟨_, rfl⟩) ?_
    · rw [List.mem_singleton.mp hb]
      show s₁.heap.objs.size < (s₁.heap.push _).objs.size
      rw [Heap.size_push]; exact Nat.lt_succ_self _
    · intro D C h' tk m' ys news' F' N' o1 hn hC₀ hD₀ hCL hDL hCD offC fin
      exact endp _ D C h' tk m' ys news' F' N' o1 hn hC₀ hD₀ hCL hDL hCD offC fin

theorem compPure {elt : Expr} {x : Str} {scope : Scope} {cl : List (Str × Addr)} {S : List (Addr × Obj) → Prop} {P : Nat → Value → Prop} {Fin : List Value → List (Addr × Obj) → Prop} {n : Nat} {news : List (Addr × Obj)} (R : Nat → Value → Prop) (hS : S news)
    (step : ∀ i ys v I oI C oC D m₂ h tk (E' : Value → Shared → Prop), i < n → P i v → NsObj oC m₂ → m₂ x = some v → Fr h₀ L h m → News h₀ L h ((I, oI) :: (C, oC) :: (D, lst ys) :: news) →
      wpAny (model prog w) A (eval elt (compEnvC scope cl C env)) (fun y s₂ => R i y ∧ ∃ h' tk', s₂ = { s with heap := h', toks := tk' } ∧ Fr h₀ L h' m ∧ News h₀ L h' ((I, oI) :: (C, oC) :: (D, lst ys) :: news)) E' { s with heap := h, toks := tk })
    (fin : ∀ ys, ys.length = n → (∀ j y, ys[j]? = some y → R j y) → Fin ys news) : CompRest prog w A h₀ L m env elt x scope cl s S P Fin n 0 [] news := by
  refine compFold (σ := Unit) (fun _ => news) (fun i _ ys => ∀ j y, ys[j]? = some y → R j y) (fun _ => hS) (fun _ _ => rfl) ?_ (fun _ ys hl hj => fin ys hl hj) n 0 () [] (by omega) rfl (by simp)
  intro i c ys v I oI C oC D m₂ h tk E' hi hP hl hj hC hx F N o3 ne
  refine wpAny_mono (step i ys v I oI C oC D m₂ h tk E' hi hP hC hx F N) (fun y s₂ hy => ?_) fun _ _ e => e
  obtain ⟨hR, h', tk', rfl, F', N'⟩ := hy
  refine ⟨(), h', tk', rfl, F', N', fun j z hz => ?_⟩
  by_cases hj' : j < ys.length
  · rw [List.getElem?_append_left hj'] at hz; exact hj j z hz
  · rw [List.getElem?_append_right (by omega)] at hz
    have : j - ys.length = 0 := by
      rcases Nat.eq_zero_or_pos (j - ys.length) with e | e
      · exact e
      · rw [List.getElem?_eq_none (by simp; omega)] at hz; cases hz
    rw [this] at hz
    obtain rfl : y = z := by simpa using hz
    have : j = i := by omega
    rw [this]; exact hR
end
theorem intsAre_of : ∀ {ys : List Value} {ns : List Int}, ys.length = ns.length → (∀ j y, ys[j]? = some y → ∃ t, y = Value.int (ns.getD j 0) t) → IntsAre ys ns
  | [], [], _, _ => .nil
  | y :: ys, n :: ns, hl, h => by
    obtain ⟨t, e⟩ := h 0 y rfl
    subst e
    exact IntsAre.cons _ _ (intsAre_of (by simpa using hl) fun j y hy => h (j + 1) y hy)
theorem strsAre_of : ∀ {ys : List Value} {ns : List Str}, ys.length = ns.length → (∀ j y, ys[j]? = some y → ∃ t, y = Value.str (ns.getD j ⟨#[]⟩) t) → StrsAre ys ns
  | [], [], _, _ => .nil
  | y :: ys, n :: ns, hl, h => by
    obtain ⟨t, e⟩ := h 0 y rfl
    subst e
    exact StrsAre.cons _ _ (strsAre_of (by simpa using hl) fun j y hy => h (j + 1) y hy)

theorem getD_map {β : Type} {x : Str} {i c : Nat} {f : Nat → β} {d : β} (h : x.cps[i]? = some c) : (x.cps.toList.map f).getD i d = f c := by
  simp [List.getD, h]

theorem enterKC {prog : Program} {w : World} {A : Around} {E : Value → Shared → Prop} {s : Shared} {K : Frag} {p : Program} {loose : List Str} {mean : ExcName → Option Value} {mg mb : Str → Option Value} {Q : Value → Shared → Prop}
    {name : Str} {params : Arguments} {body : List Stmt} {scope : Scope} {dV kV doc pm cdv ct oc : Value} {an od : Option Addr} {osl : Array (Option Value)} {f : Addr} {args : List Value} {binds : List (Str × Value)}
    (X : K.In s.heap) (T : Top p loose mean mg mb s.heap) (hroom : A.depth < recursionLimit)
    (ho : K.lookup f = some ⟨oc, od, .func (fnOf name name params body scope dV kV doc pm an cdv ct), osl⟩) (hcd : codeIn K cdv name = true)
    (hbind : BindsTo s (fnOf name name params body scope dV kV doc pm an cdv ct) ⟨args, []⟩ binds) (hkind : (binds.all fun y => scope.names.lookup y.1 == some .local || scope.names.lookup y.1 == some .cell) = true)
    (hnd : ((cellsFrom 0 scope.names []).map (·.1)).Nodup)
    (h : ∀ h₁ tk cells, Fr s.heap s.heap.objs.size h₁ (bindL (envOfC name scope s.heap.objs.size f cdv).kindOf binds fun _ => none) → News s.heap s.heap.objs.size h₁ cells →
      CellsAre (bindC (envOfC name scope s.heap.objs.size f cdv).kindOf binds fun _ => none) (cellsFrom (s.heap.objs.size + 1) scope.names []) cells →
      wpAny (model prog w) (A.deeper (envOfC name scope s.heap.objs.size f cdv)) (execs body (envOfC name scope s.heap.objs.size f cdv))
        (fun fl s' => Q (match fl with | .ret v => v | _ => .none) s') (fun _ _ => False) { s with heap := h₁, toks := tk })
    (hco : scope.isCoroutine = false := by rfl) (hgen : scope.isGenerator = false := by rfl) (hk : scope.kind = .function := by rfl) :
    wpAny (model prog w) A (call (.ref f) args) Q E s := by
  refine wpAny_call (codeAny_call_function (fd := fnOf name name params body scope dV kV doc pm an cdv ct) hroom (X _ _ ho) rfl hco hgen rfl (codeRec_of X hcd) (hbind _ _ _ _ ?_))
  refine wpAny_newFunctionEnv_cells hk (kindsX hkind _) fun env' he s' x => ?_
  subst he
  refine ⟨T.nolimit.keeps x.toInCall.keep, codeAny_func ?_⟩
  obtain ⟨h₁, tk, rfl, _⟩ := x.done
  obtain ⟨cells, NC, Y⟩ := Cl.news (h₀ := s.heap) (Nat.le_refl _) fun n c hm => ⟨x.cell n c (lookup_of_mem_nodup (cellsFrom_names scope.names 0 (s.heap.objs.size + 1) [] [] rfl ▸ hnd) hm), x.above n c hm⟩
  exact wpAny_mono (h h₁ tk cells ⟨x.toInCall.ns, x.toInCall.keep, Nat.le_refl _⟩ NC Y) (fun fl s' hl => hl) fun _ _ y => y.elim

/-- what a contract hands back, as the caller's facts -/
theorem backL {h₀ : Heap} {L : Addr} {m : Str → Option Value} {s : Shared} {news : List (Addr × Obj)} {h' : Heap} {l : Addr} {o : Obj} (F : Fr h₀ L s.heap m) (N : News h₀ L s.heap news) (hg : Grow s h') (hn : s.heap.get? l = none) (ho : h'.get? l = some o) :
    Fr h₀ L h' m ∧ News h₀ L h' ((l, o) :: news) ∧ LCg.Off1 l news := by
  refine ⟨F.keeps hg, fun p hp => ?_, ?_⟩
  · rcases List.mem_cons.mp hp with rfl | hp
    · refine ⟨ho, fun e => ?_, ?_⟩
      · obtain ⟨o', _, _, e', _⟩ := F.ns
        have e1 : l = L := e
        rw [e1, e'] at hn; cases hn
      · cases q : h₀.get? l with
        | none => rfl
        | some o' => have := F.keep _ _ q; rw [hn] at this; cases this
    · exact N.grown hg p hp
  · have : ∀ q : List (Addr × Obj), (∀ p ∈ q, p.1 ≠ l) → LCg.Off1 l q := by
      intro q
      induction q with
      | nil => intro _; trivial
      | cons a r ih => intro hq; exact ⟨hq a (.head _), ih fun p hp => hq p (.tail _ hp)⟩
    exact this news fun p hp e => by
      have := (N p hp).1
      rw [e, hn] at this; cases this
theorem backI {h₀ : Heap} {L : Addr} {m : Str → Option Value} {s : Shared} {news : List (Addr × Obj)} {h' : Heap} (F : Fr h₀ L s.heap m) (N : News h₀ L s.heap news) (hg : Grow s h') :
    Fr h₀ L h' m ∧ News h₀ L h' news := ⟨F.keeps hg, N.grown hg⟩
theorem isList_in {h₀ h : Heap} {L l : Addr} {news : List (Addr × Obj)} {arr : Array Value} {k : Nat} (N : News h₀ L h news) (hm : (l, W.listOf arr k) ∈ news) : h.IsList l arr := ⟨_, N.get hm, rfl, k, rfl⟩

theorem addInts {prog : Program} {w : World} {A : Around} {E : Value → Shared → Prop} {s : Shared} {h₀ : Heap} {L l b : Addr} {m : Str → Option Value} {news : List (Addr × Obj)} {a1 a2 : Array Value} {ns ms : List Int} {Q : Value → Shared → Prop}
    (F : Fr h₀ L s.heap m) (N : News h₀ L s.heap news) (hl : s.heap.IsList l a1) (hb : s.heap.IsList b a2) (hi : IntsAre a1.toList ns) (hj : IntsAre a2.toList ms) (hsz : ns.length + ms.length ≤ 100000)
    (h : ∀ D arr k h', Fr h₀ L h' m → News h₀ L h' ((D, W.listOf arr k) :: news) → IntsAre arr.toList (ns ++ ms) → LCg.Off1 D news → Q (.ref D) { s with heap := h' }) :
    wpAny (model prog w) A (binaryOp .Add (.ref l) (.ref b)) Q E s := by
  refine add_arrays_ints F N hl hb hi hj (fun h' F' N' hI => h _ _ _ h' F' N' (by simpa using hI) ?_) (by rw [sizeLine_eq]; omega)
  have : ∀ q : List (Addr × Obj), (∀ p ∈ q, p.1 ≠ s.heap.objs.size) → LCg.Off1 s.heap.objs.size q := by
    intro q
    induction q with
    | nil => intro _; trivial
    | cons a r ih => intro hq; exact ⟨hq a (.head _), ih fun p hp => hq p (.tail _ hp)⟩
  exact this news fun p hp => Nat.ne_of_lt (Heap.lt_size (N p hp).1)
end Mine
end
section
open PySem PySem.W PySem.Calls PyProof.Rows
set_option maxRecDepth 100000
set_option linter.unusedVariables false
namespace Mine
abbrev CH : Str := PySem.Str.ofString "qpzry9x8gf2tvdw0s3jn54khce6mua7l"
def chL : List Nat := [113, 112, 122, 114, 121, 57, 120, 56, 103, 102, 50, 116, 118, 100, 119, 48, 115, 51, 106, 110, 53, 52, 107, 104, 99, 101, 54, 109, 117, 97, 55, 108]
theorem ch_is : CH = ⟨chL.toArray⟩ := by decide +kernel
theorem ch_len : CH.length = 32 := by decide +kernel
def signN (n : Int) : Nat := chL.getD n.toNat 0
def signS (n : Int) : Str := ⟨#[signN n]⟩
def textOf (x : Str) (ns : List Int) : Str := ⟨(x.cps.toList ++ 49 :: ns.map signN).toArray⟩
theorem len_one : (PySem.Str.ofString "1").length = 1 := by decide +kernel
theorem len_one2 : (PySem.Str.ofString "1").cps.size = 1 := by decide +kernel
theorem item_sign {n : Int} (h : 0 ≤ n ∧ n < 32) : Txt.item CH n = signS n := by
  have : ∀ k : Fin 32, Txt.item ⟨chL.toArray⟩ (k : Nat) = signS (k : Nat) := by decide +kernel
  have h2 := this ⟨n.toNat, by omega⟩
  rw [ch_is]
  have e : ((⟨n.toNat, by omega⟩ : Fin 32) : Nat) = n.toNat := rfl
  rw [e] at h2
  rwa [Int.toNat_of_nonneg h.1] at h2
theorem join_cps : ∀ (xs : List Str), (Str.join ⟨#[]⟩ xs).cps = (xs.flatMap fun x => x.cps.toList).toArray
  | [] => rfl
  | [x] => by simp [Str.join]
  | x :: y :: r => by
    have ih := join_cps (y :: r)
    rw [Str.join, Str.cps_append, Str.cps_append, ih]
    · simp
    · simp
theorem join_signs (ns : List Int) : Txt.join (PySem.Str.ofString "") (ns.map signS) = ⟨(ns.map signN).toArray⟩ := by
  have e : PySem.Str.ofString "" = ⟨#[]⟩ := by decide +kernel
  unfold Txt.join
  rw [StrLaws.glued_eq_join, e]
  refine Str.ext' ?_
  rw [join_cps]
  simp only [List.flatMap_map, signS]
  congr 1
  induction ns with
  | nil => rfl
  | cons n r ih => simp [List.flatMap_cons, ih]
theorem text_is (x : Str) (ns : List Int) : x ++ PySem.Str.ofString "1" ++ Txt.join (PySem.Str.ofString "") (ns.map signS) = textOf x ns := by
  have e : PySem.Str.ofString "1" = ⟨#[49]⟩ := by decide +kernel
  rw [join_signs, e]
  refine Str.ext' ?_
  rw [Str.cps_append, Str.cps_append]
  simp [textOf]
theorem text_len (x : Str) (ns : List Int) : (textOf x ns).length = x.cps.size + 1 + ns.length := by
  simp [textOf, Str.length]; omega
end Mine
end
section
open PySem PySem.W PySem.Calls PyProof.Rows
set_option maxRecDepth 100000
set_option linter.unusedVariables false
namespace Mine
section
variable {prog : Program} {w : World} {A : Around} {E : Value → Shared → Prop} {s : Shared} {g : Heap} {L : Addr} {m : Str → Option Value} {c P : Addr} {mg : Str → Option Value} {bm : Addr} {ob : Obj}

/-- the code of a generator expression: made, or found where an earlier run has laid it -/
theorem genCode {env : Env} {ps : Array Value} {pos : Pos} {qn : Str} {scope : Scope} {Q : Value → Shared → Prop} (C : CodeHd g c P) (hcode : env.code = .ref c)
    (F : Fr g L s.heap m) (N : News g L s.heap [(P, tabObj ps)]) (ht : TriplesOk ps.toList)
    (hQ : ∀ code h' tk ps', Heap.ExtBut P s.heap h' → s.heap.objs.size ≤ h'.objs.size → Fr g L h' m → News g L h' [(P, tabObj ps')] → TriplesOk ps'.toList → Q code { s with heap := h', toks := tk }) :
    wpAny (model prog w) A (genexprCode env pos qn scope) Q E s := by
  have hP := N _ (.head _)
  have C' := C.keeps F.keep
  cases hnf : codeAmong pos ps.toList with
  | some cv => exact wpAny_genexprCode_hit hcode (C'.code hP.1 ht) hnf (hQ cv s.heap s.toks ps (Heap.ExtBut.refl _ _) (Nat.le_refl _) F N ht)
  | none =>
    refine wpAny_genexprCodeX hcode (C'.code hP.1 ht) (C'.tab hP.1) hnf fun c' h' tk hx hge hlt hc' _ htb _ => ?_
    have hLP : L ≠ P := hP.2.1.symm
    refine hQ _ h' tk _ hx (Nat.le_trans hge (Nat.le_of_lt hlt)) ⟨F.ns.extBut hx hLP, fun b o e => hx b o (fun q => by have q' : b = P := q; rw [q'] at e; have := hP.2.2; rw [e] at this; cases this) (F.keep b o e), F.above⟩
      (fun p hp => by rw [List.mem_singleton.mp hp]; exact ⟨htb.2, hP.2⟩) ?_
    obtain ⟨_, _, _, _, _, _, _, _, _, op, _, _, _, _, _, _, _, hop, hpd, htr, _⟩ := hc'
    exact htr

theorem genStr {env : Env} {elt iter : Expr} {x : Str} {px : Pos} {scope : Scope} {cl : List (Str × Addr)} {pos : Pos} {Q : Value → Shared → Prop} {q : Str → Bool}
    (_F : Fr g L s.heap m) (C : CodeHd g c P) (M : BMod g env.globals mg bm ob) (hlim : g.NoLimit) (hcode : env.code = .ref c)
    (hh : A.handled = none) (hco : scope.isCoroutine = false) (hclos : closureFor scope env = pure cl) (hcell : ∀ y ∈ scope.names, y.2 ≠ .cell) (h0 : scope.names.lookup (".0" : Str) = some NameKind.local)
    (hx : scope.names.lookup x = some .local) (hkind : scope.kind = .function) (hroom : A.depth < recursionLimit)
    (h : wpAny (model prog w) A (eval iter env) (fun xv s₁ => ∃ y t ps, xv = .str y t ∧ Fr g L s₁.heap m ∧ News g L s₁.heap [(P, tabObj ps)] ∧ TriplesOk ps.toList ∧ AllBare s₁.gens ∧
      (∀ (C : Addr) (code : Value) (A' : Around) (E' : Value → Shared → Prop) (a : Str) (tk : Tok) (u : Shared) m₂, A'.handled = none → A'.depth ≤ A.depth + 1 → A'.units ≤ A.units + 8 → a ∈ signs y → Fr g C u.heap m₂ → m₂ x = some (.str a tk) →
        wpAny (model prog w) A' (eval elt (genEnv scope cl C code builtinsNs env)) (fun r s₃ => r = .bool (q a) ∧ Keeps u s₃) E' u) ∧
      (∀ (a Kb : Addr) (s₅ : Shared) ps', L ≤ Kb → P ≤ Kb → Fr g L s₅.heap m → News g L s₅.heap [(P, tabObj ps')] → TriplesOk ps'.toList → AllBare s₅.gens → s₅.os = s₁.os →
        GenOnD prog w A Kb a (signs y) (fun _ => true) (fun k => .bool (q k)) s₅ → Q (.ref a) s₅)) E s)
    (hs : ∀ x, genFold iter env x = pure x) :
    wpAny (model prog w) A (eval (.GeneratorExp elt [⟨.Name x px, iter, [], 0⟩] scope pos) env) Q E s := by
  refine wpAny_GeneratorExp_walksQD hh hco hclos hcell h0 hx hkind hroom (wpAny_mono h (fun xv s₁ h₁ => ?_) fun _ _ e => e) hs
  obtain ⟨y, t, ps, rfl, F₁, N₁, ht, G₁, helt, hQ⟩ := h₁
  refine wpAny_pyIter_str fun o St W hst => ?_
  have up : ∀ b o', s₁.heap.get? b = some o' → (s₁.heap.push o).get? b = some o' := fun b o' e => Heap.get?_push_of_some _ e
  have F₂ : Fr g L (s₁.heap.push o) m := F₁.keeps up
  have N₂ : News g L (s₁.heap.push o) [(P, tabObj ps)] := N₁.grown up
  have hPlt : P < s₁.heap.objs.size := Heap.lt_size (N₁ _ (.head _)).1
  have hLlt : L < s₁.heap.objs.size := F₁.ns.lt
  refine ⟨hlim.keeps F₂.keep, genCode C hcode F₂ N₂ ht fun code h₃ tk₃ ps' hx₃ hge₃ F₃ N₃ ht₃ => ?_⟩
  have hge₃' : s₁.heap.objs.size + 1 ≤ h₃.objs.size := by
    have e : (s₁.heap.push o).objs.size = s₁.heap.objs.size + 1 := Heap.size_push ..
    have hge : (s₁.heap.push o).objs.size ≤ h₃.objs.size := hge₃
    omega
  have M₃ := M.keeps F₃.keep
  refine wpAny_builtinsFor M₃.ns M₃.name M₃.ne M₃.obj M₃.cls M₃.dict M₃.data ?_
  have hI : s₁.heap.objs.size ≠ P := Nat.ne_of_gt hPlt
  have hl₃ : h₃.NoLimit := hlim.keeps F₃.keep
  have hcw : cStatics ∉ [s₁.heap.objs.size] := fun hm => by
    have e := List.mem_singleton.mp hm
    obtain ⟨_, ⟨o', _, _, q, _⟩, _⟩ := hlim
    exact absurd (Heap.lt_size (F₁.keep _ _ q)) (by rw [e]; exact Nat.lt_irrefl _)
  refine ⟨s₁.heap.objs.size, [s₁.heap.objs.size], [s₁.heap.objs.size], y.cps.size, SignAt y, St, fun _ => true, (fun i r => ∃ b, (signs y)[i]? = some b ∧ Carried r (.bool (q b))), rfl, W,
    (W A hh).frame _ _ _ hst (fun b hb o' e => hx₃ b o' (fun e' => hI ((List.mem_singleton.mp hb).symm.trans e')) e), (fun b hb => by rw [List.mem_singleton.mp hb]; exact hge₃'), hl₃, hcw, (fun href hhref => ?_), fun a h₅ tk gs hgb hag hsz₅ hk₅ W' hat => ?_⟩
  · have inB : ∀ (u : Shared) m₂, u.heap.Ns h₃.objs.size m₂ → (∀ b ∈ List.range h₃.objs.size, b ∉ [s₁.heap.objs.size] → ∀ o, href.get? b = some o → u.heap.get? b = some o) → Fr g h₃.objs.size u.heap m₂ := fun u m₂ hn hkp =>
      ⟨hn, fun b o' e => hkp b (List.mem_range.mpr (Heap.lt_size (F₃.keep b o' e))) (fun hm => by
        have e1 := List.mem_singleton.mp hm
        exact absurd (Heap.lt_size (F₁.keep b o' e)) (by rw [e1]; exact Nat.lt_irrefl _)) o' (hhref b o' (F₃.keep b o' e)), Nat.le_trans F₃.above (Nat.le_of_lt F₃.ns.lt)⟩
    refine ⟨fun A' E' i v u m₂ hA hD hU hP hn hm hkp => wpAny_tests_nil ⟨rfl, u.heap, u.toks, rfl, fun _ _ e => e⟩, fun A' E' i v u m₂ hA hD hU hP hp hn hm hkp => ?_⟩
    obtain ⟨cc, tk, hc, rfl⟩ := hP
    have ha := signs_at hc
    exact wpAny_mono (helt _ code A' E' _ tk u m₂ hA hD hU (List.mem_of_getElem? ha) (inB u m₂ hn hkp) hm) (fun r s₃ k => ⟨⟨_, ha, by rw [k.1]; exact .bool _⟩, k.2⟩) fun _ _ e => e
  · have F₅ : Fr g L h₅ m := F₃.keeps hk₅
    have N₅ : News g L h₅ [(P, tabObj ps')] := N₃.grown hk₅
    refine hQ a (s₁.heap.objs.size - 1) _ ps' (Nat.le_sub_one_of_lt hLlt) (Nat.le_sub_one_of_lt hPlt) F₅ N₅ ht₃ (G₁.push hgb) rfl ?_
    have hpass : passing (fun _ => true) y.cps.size 0 = List.range y.cps.size := by simp [passing]
    have hfil : (signs y).filter (fun _ => true) = signs y := List.filter_eq_self.mpr (by simp)
    have hlen : y.cps.size = (signs y).length := (signs_length y).symm
    rw [hpass] at W'
    unfold GenOnD
    rw [hfil, ← hlen]
    have e0 : (List.range y.cps.size).length = y.cps.size := by simp
    refine Gen.imp (F := fun j r => ∃ i, (List.range y.cps.size)[j]? = some i ∧ ∃ b, (signs y)[i]? = some b ∧ Carried r (.bool (q b))) ⟨_, _, _, _, e0 ▸ W', hat, (fun i s' st => st.1.typeIs), List.mem_cons_self, ?_, ?_⟩ ?_
    · intro b hb
      show b < h₅.objs.size
      rw [hsz₅]
      rcases List.mem_cons.mp hb with rfl | hb
      · exact Nat.lt_succ_self _
      · rcases List.mem_cons.mp hb with rfl | hb
        · exact Nat.lt_succ_of_lt hag
        · exact Nat.lt_succ_of_lt (Nat.lt_trans (List.mem_range.mp hb) hag)
    · intro b hb
      rcases List.mem_cons.mp hb with rfl | hb
      · exact Nat.lt_of_le_of_lt (Nat.sub_le _ _) (Nat.lt_of_succ_le hge₃')
      · rw [List.mem_singleton.mp hb]; exact Nat.sub_lt (Nat.lt_of_le_of_lt (Nat.zero_le _) hLlt) Nat.one_pos
    · rintro j r ⟨i, hij, b, hb, hc⟩
      have : i = j := by
        by_cases hj : j < y.cps.size
        · rw [List.getElem?_range hj] at hij; exact (Option.some.inj hij).symm
        · rw [List.getElem?_eq_none (by simp; omega)] at hij; cases hij
      subst this
      exact ⟨b, hb, hc⟩
end
end Mine
end
section
open PySem PySem.W PySem.Calls PyProof.Rows
set_option maxRecDepth 100000
set_option linter.unusedVariables false
namespace Mine
section
variable {h : Heap} {P : Addr} {ps : Array Value} {mg mb : Str → Option Value} {K : Frag} {p : Program} {loose : List Str} {mean : ExcName → Option Value}
theorem hide_get {b : Addr} {o : Obj} (hP : h.get? P = some (tabObj ps)) (e : h.get? b = some o) (hn : ∀ qs, o ≠ tabObj qs) : (hideAll h [P]).get? b = some o :=
  hideAll_get _ e fun q => by rw [List.mem_singleton.mp q, hP] at e; exact hn ps (Option.some.inj e).symm
theorem hide_ns {a : Addr} {mm : Str → Option Value} (hP : h.get? P = some (tabObj ps)) (x : h.Ns a mm) : (hideAll h [P]).Ns a mm :=
  let ⟨o, es, ep, e, hd, r⟩ := x; ⟨o, es, ep, hide_get hP e (fun qs q => by rw [q] at hd; cases hd), hd, r⟩
theorem hide_list {a : Addr} {its : Array Value} (hP : h.get? P = some (tabObj ps)) (x : h.IsList a its) : (hideAll h [P]).IsList a its := by
  obtain ⟨o, e, hc, r⟩ := x
  exact ⟨o, hide_get hP e (fun qs q => by rw [q] at hc; cases hc), hc, r⟩
theorem hide_K (hP : h.get? P = some (tabObj ps)) (X : K.In h) (hK : noTabs K = true) : K.In (hideAll h [P]) := fun a o e => by
  refine hide_get hP (X a o e) fun qs q => ?_
  have h2 := List.all_eq_true.mp hK (a, o) (mem_of_lookupK e)
  subst q
  exact absurd (show false = true from h2) Bool.false_ne_true
theorem hide_code {c : Addr} (hP : h.get? P = some (tabObj ps)) (C : CodeHd h c P) : CodeHd (hideAll h [P]) c P := by
  obtain ⟨o, vs, file, tf, flags, tg, inF, text, tt, e1, r1, r⟩ := C
  exact ⟨o, vs, file, tf, flags, tg, inF, text, tt, hide_get hP e1 (fun qs q => by rw [q] at r1; cases r1), r1, r⟩
theorem hide_top (hP : h.get? P = some (tabObj ps)) (T : Top p loose mean mg mb h) :
    Top topProg (loose ++ (recsOf p).map (·.name) ++ (litsOf p).map (·.1) ++ (clssOf p loose).map (·.name)) mean mg mb (hideAll h [P]) where
  g := hide_ns hP T.g
  b := hide_ns hP T.b
  nolimit := let ⟨mc, a, r⟩ := T.nolimit; ⟨mc, hide_ns hP a, r⟩
  nodigits := let ⟨mc, a, r⟩ := T.nodigits; ⟨mc, hide_ns hP a, r⟩
  fn := fun d hd => absurd (show d ∈ ([] : List DefRec) from hd) List.not_mem_nil
  own := fun o ho => absurd (show o ∈ ([] : List OwnSpec) from ho) List.not_mem_nil
  const := fun x d e => by cases (show (none : Option PyData) = some d from e)
  free := fun x h1 h2 _ _ _ => T.free x h1 (fun q => h2 (List.mem_append_left _ (List.mem_append_left _ (List.mem_append_left _ q))))
    (fun q => h2 (List.mem_append_left _ (List.mem_append_left _ (List.mem_append_right _ q)))) (fun q => h2 (List.mem_append_left _ (List.mem_append_right _ q))) fun q => h2 (List.mem_append_right _ q)
  builtins := T.builtins
  tab := fun d hd => absurd (show d ∈ ([] : List DefRec) from hd) List.not_mem_nil
  bmain := let ⟨bm, ob, a1, a2, a3, a4, r⟩ := T.bmain; ⟨bm, ob, a1, a2, hide_get hP a3 (fun qs q => by rw [q] at a4; cases a4), a4, r⟩
  seer := fun e => absurd (show false = true from e) Bool.false_ne_true
end

theorem enterKH {prog : Program} {w : World} {A : Around} {E : Value → Shared → Prop} {s : Shared} {K : Frag} {p : Program} {loose : List Str} {mean : ExcName → Option Value} {mg mb : Str → Option Value} {Q : Value → Shared → Prop}
    {name : Str} {params : Arguments} {body : List Stmt} {scope : Scope} {dV kV doc pm cdv ct oc : Value} {an od : Option Addr} {osl : Array (Option Value)} {f P : Addr} {args : List Value} {binds : List (Str × Value)} {ps : Array Value}
    (X : K.In s.heap) (T : Top p loose mean mg mb s.heap) (hP : s.heap.get? P = some (tabObj ps)) (hroom : A.depth < recursionLimit)
    (ho : K.lookup f = some ⟨oc, od, .func (fnOf name name params body scope dV kV doc pm an cdv ct), osl⟩) (hcd : codeIn K cdv name = true)
    (hbind : BindsTo s (fnOf name name params body scope dV kV doc pm an cdv ct) ⟨args, []⟩ binds) (hloc : ∀ y ∈ binds, scope.names.lookup y.1 = some .local)
    (h : ∀ h₁, Fr (hideAll s.heap [P]) s.heap.objs.size h₁ (fun x => binds.reverse.lookup x) → News (hideAll s.heap [P]) s.heap.objs.size h₁ [(P, tabObj ps)] →
      wpAny (model prog w) (A.deeper (envOf name scope s.heap.objs.size f cdv)) (execs body (envOf name scope s.heap.objs.size f cdv))
        (fun fl s' => Q (match fl with | .ret v => v | _ => .none) s') (fun _ _ => False) { s with heap := h₁, toks := s.toks + binds.length })
    (hco : scope.isCoroutine = false := by rfl) (hgen : scope.isGenerator = false := by rfl) (hk : scope.kind = .function := by rfl)
    (hcell : ∀ x ∈ scope.names, x.2 ≠ .cell := by decide) :
    wpAny (model prog w) A (call (.ref f) args) Q E s := by
  refine enterK X T hroom ho hcd hbind hloc (fun h₁ F N => ?_) hco hgen hk hcell
  refine h h₁ ⟨F.ns, fun b o e => F.keep b o (of_hideAll _ e), Nat.le_trans (Nat.le_of_eq (hideAll_size _ _)) F.above⟩ fun q hq => ?_
  rw [List.mem_singleton.mp hq]
  exact ⟨F.keep _ _ hP, Nat.ne_of_lt (Heap.lt_size hP), hideAll_none _ (.head _)⟩


section
variable {M : Model} {A : Around} {E : Value → Shared → Prop} {s : Shared} {K : Frag} {g : Heap} {C : Addr} {m mg mb : Str → Option Value} {p : Program} {loose : List Str} {x : Str} {pos : Pos} {v : Value} {Q : Value → Shared → Prop} {scope : Scope} {cl : List (Str × Addr)} {code : Value} {env : Env}
theorem nameG_L (F : Fr g C s.heap m) (hv : m x = some v) (h : Q v s)
    (hk : (genEnv scope cl C code builtinsNs env).scope.kind = .function := by rfl) (hx : (genEnv scope cl C code builtinsNs env).kindOf x = some .local := by rfl) (hd : (x == ("__debug__" : Str)) = false := by decide) :
    wpAny M A (eval (.Name x pos) (genEnv scope cl C code builtinsNs env)) Q E s := wpAny_Name (wpAny_loadName_local hk hx F.ns hv h) hd
theorem nameG_K (F : Fr g C s.heap m) (X : K.In g) (T : TopRead p loose mg mb g) (hg : env.globals = mainGlobals) (e : nsIn K mainGlobals x = some (some v)) (h : Q v s)
    (hk : (genEnv scope cl C code builtinsNs env).scope.kind = .function := by rfl) (hx : (genEnv scope cl C code builtinsNs env).kindOf x = some .globalImplicit := by rfl) (hd : (x == ("__debug__" : Str)) = false := by decide) :
    wpAny M A (eval (.Name x pos) (genEnv scope cl C code builtinsNs env)) Q E s :=
  Name_function_global hk hx (loadGlobal_global (env := genEnv scope cl C code builtinsNs env) (show s.heap.Ns env.globals mg from hg ▸ T.g.keeps F.keep) (mg_of X T.g e) h) hd
theorem nameG_B (F : Fr g C s.heap m) (X : K.In g) (T : TopRead p loose mg mb g) (hg : env.globals = mainGlobals) (e : nsIn K mainGlobals x = some none) (hv : bootBuiltins x = some v) (hn : x ≠ "__name__") (h : Q v s)
    (hk : (genEnv scope cl C code builtinsNs env).scope.kind = .function := by rfl) (hx : (genEnv scope cl C code builtinsNs env).kindOf x = some .globalImplicit := by rfl) (hd : (x == ("__debug__" : Str)) = false := by decide) :
    wpAny M A (eval (.Name x pos) (genEnv scope cl C code builtinsNs env)) Q E s :=
  Name_function_global hk hx (loadGlobal_builtin (env := genEnv scope cl C code builtinsNs env) (show s.heap.Ns env.globals mg from hg ▸ T.g.keeps F.keep) (mg_none_of X T.g e) (T.b.keeps F.keep) ((T.builtins x hn).trans hv) h) hd
end
end Mine
end
section
open PySem PySem.W PySem.Calls PyProof.Rows
set_option maxRecDepth 100000
set_option linter.unusedVariables false
namespace Mine
theorem filterMap_run {α : Type} (xs : List α) : ∀ (k a : Nat), a + k ≤ xs.length → ((List.range k).map (fun i => a + i)).filterMap (fun i => xs[i]?) = (xs.drop a).take k := by
  intro k
  induction k with
  | zero => intro a h; simp
  | succ k ih =>
    intro a h
    rw [List.range_succ, List.map_append, List.filterMap_append, ih a (by omega), List.take_add_one]
    congr 1
    simp
    have : a + k < xs.length := by omega
    simp [this]
theorem slice_nat (x : Str) (a b : Nat) (hab : a ≤ b) (hb : b ≤ x.cps.size) : Txt.slice x (some a) (some b) = ⟨((x.cps.toList.drop a).take (b - a)).toArray⟩ := by
  unfold Txt.slice
  rw [StrLaws.strSliceIndices_plain (len := x.length) hab hb]
  split
  · rename_i h
    simp only [beq_self_eq_true, Bool.true_and, beq_iff_eq, List.length_map, List.length_range, Str.length] at h
    have h1 : a = 0 := by omega
    have h2 : b = x.cps.size := by omega
    subst h1 h2
    refine Str.ext' ?_
    show x.cps = (List.take _ (List.drop 0 _)).toArray
    rw [List.drop_zero, List.take_of_length_le (by simp)]
  · refine Str.ext' ?_
    show (List.filterMap (fun i => x.cps[i]?) _).toArray = _
    congr 1
    have e := filterMap_run x.cps.toList (b - a) a (by simp; omega)
    rw [← e]
    congr 1
    funext i
    exact Array.getElem?_toList.symm
theorem slice_from (x : Str) (a : Nat) (ha : a ≤ x.cps.size) : Txt.slice x (some a) none = ⟨(x.cps.toList.drop a).toArray⟩ := by
  have e : Txt.slice x (some a) none = Txt.slice x (some a) (some (x.cps.size : Nat)) := by
    unfold Txt.slice
    have : Builtin.Str.strSliceIndices (some (a : Int)) none 1 x.length = Builtin.Str.strSliceIndices (some (a : Int)) (some ((x.cps.size : Nat) : Int)) 1 x.length := by
      unfold Builtin.Str.strSliceIndices
      have e1 : max (0 : Int) (min (if ((x.cps.size : Nat) : Int) < 0 then ((x.cps.size : Nat) : Int) + ((x.length : Nat) : Int) else ((x.cps.size : Nat) : Int)) ((x.length : Nat) : Int)) = ((x.length : Nat) : Int) := by
        rw [if_neg (by omega)]; show max (0 : Int) (min ((x.cps.size : Nat) : Int) ((x.cps.size : Nat) : Int)) = _; simp only [Int.min_self, Str.length]; omega
      simp only [show ((1 : Int) > 0) = True from by simp, if_true, e1]
    rw [this]
  rw [e, slice_nat x a _ ha (Nat.le_refl _)]
  refine Str.ext' ?_
  show (List.take _ _).toArray = _
  rw [List.take_of_length_le (by simp)]
theorem slice_upto (x : Str) (b : Nat) (hb : b ≤ x.cps.size) : Txt.slice x none (some b) = ⟨(x.cps.toList.take b).toArray⟩ := by
  have e : Txt.slice x none (some b) = Txt.slice x (some (0 : Nat)) (some b) := by
    unfold Txt.slice
    have : Builtin.Str.strSliceIndices none (some (b : Int)) 1 x.length = Builtin.Str.strSliceIndices (some ((0 : Nat) : Int)) (some (b : Int)) 1 x.length := by
      unfold Builtin.Str.strSliceIndices
      have e1 : max (0 : Int) (min (if ((0 : Nat) : Int) < 0 then ((0 : Nat) : Int) + ((x.length : Nat) : Int) else ((0 : Nat) : Int)) ((x.length : Nat) : Int)) = 0 := by
        rw [if_neg (by omega)]; omega
      simp only [show ((1 : Int) > 0) = True from by simp, if_true, e1]
    rw [this]
  rw [e, slice_nat x 0 _ (Nat.zero_le _) hb]
  refine Str.ext' ?_
  simp
theorem text_cps (x : Str) (ns : List Int) : (textOf x ns).cps.toList = x.cps.toList ++ 49 :: ns.map signN := rfl
theorem text_head (x : Str) (ns : List Int) : Txt.slice (textOf x ns) none (some ((x.cps.size : Nat) : Int)) = x := by
  rw [slice_upto _ _ (by simp [textOf])]
  refine Str.ext' ?_
  rw [text_cps]
  simp
theorem text_tail (x : Str) (ns : List Int) : Txt.slice (textOf x ns) (some (((x.cps.size : Nat) : Int) + 1)) none = ⟨(ns.map signN).toArray⟩ := by
  have e : (((x.cps.size : Nat) : Int) + 1) = ((x.cps.size + 1 : Nat) : Int) := by omega
  rw [e, slice_from _ _ (by simp [textOf])]
  refine Str.ext' ?_
  rw [text_cps, List.drop_append]
  simp
theorem chL_ok : ∀ c ∈ chL, 33 ≤ c ∧ c < 127 ∧ (c < 65 ∨ 90 < c) ∧ c ≠ 49 := by decide +kernel
theorem signN_mem {n : Int} (h : 0 ≤ n ∧ n < 32) : signN n ∈ chL := by
  have h2 : n.toNat < chL.length := by have : chL.length = 32 := rfl; omega
  unfold signN
  rw [List.getD, List.getElem?_eq_getElem h2, Option.getD_some]
  exact List.getElem_mem h2
theorem text_still {x : Str} {ns : List Int} (hx : ∀ c ∈ x.cps.toList, 33 ≤ c ∧ c ≤ 126 ∧ ¬ (65 ≤ c ∧ c ≤ 90)) (hb : ∀ n ∈ ns, 0 ≤ n ∧ n < 32) : KXs.Still (textOf x ns) := by
  intro c hc
  rw [text_cps] at hc
  rcases List.mem_append.mp hc with hc | hc
  · have := hx c hc; omega
  · rcases List.mem_cons.mp hc with rfl | hc
    · decide
    · obtain ⟨n, hn, rfl⟩ := List.mem_map.mp hc
      have := chL_ok _ (signN_mem (hb n hn))
      exact ⟨this.1, this.2.1, this.2.2.1⟩
theorem at_one (x : Str) (c i : Nat) : StrLaws.At x ⟨#[c]⟩ x.length i ↔ x.cps[i]? = some c := by rw [← Array.getElem?_toList]; exact StrLaws.subAt_one x c i
theorem text_rfind {x : Str} {ns : List Int} (hb : ∀ n ∈ ns, 0 ≤ n ∧ n < 32) : Txt.rfind (textOf x ns) (PySem.Str.ofString "1") = ((x.cps.size : Nat) : Int) := by
  have e : PySem.Str.ofString "1" = ⟨#[49]⟩ := by decide +kernel
  rw [e]
  have hl := text_len x ns
  have hat : (textOf x ns).cps[x.cps.size]? = some 49 := by
    rw [← Array.getElem?_toList, text_cps]
    simp
  rcases rfind_whole (textOf x ns) ⟨#[49]⟩ with ⟨_, h⟩ | ⟨i, hi, h1, h2⟩
  · exact absurd ((at_one _ _ x.cps.size).mpr hat) (h _)
  · rw [hi]
    congr 1
    rcases Nat.lt_trichotomy i x.cps.size with h | h | h
    · exact absurd ((at_one _ _ x.cps.size).mpr hat) (h2 _ h)
    · exact h
    · have := (at_one _ _ i).mp h1
      rw [← Array.getElem?_toList, text_cps, List.getElem?_append_right (by simp; omega), Array.length_toList] at this
      obtain ⟨j, hj⟩ : ∃ j, i - x.cps.size = j + 1 := ⟨i - x.cps.size - 1, by omega⟩
      rw [hj, List.getElem?_cons_succ, List.getElem?_map] at this
      cases hn : ns[j]? with
      | none => rw [hn] at this; cases this
      | some n =>
        rw [hn] at this
        have e2 : signN n = 49 := Option.some.inj this
        exact absurd e2 (chL_ok _ (signN_mem (hb n (List.mem_of_getElem? hn)))).2.2.2
theorem find_sign {n : Int} (h : 0 ≤ n ∧ n < 32) : Txt.find CH (signS n) = n := by
  have : ∀ k : Fin 32, Txt.find ⟨chL.toArray⟩ (signS (k : Nat)) = ((k : Nat) : Int) := by decide +kernel
  have h2 := this ⟨n.toNat, by omega⟩
  rw [ch_is]
  have e : ((⟨n.toNat, by omega⟩ : Fin 32) : Nat) = n.toNat := rfl
  rw [e] at h2
  rwa [Int.toNat_of_nonneg h.1] at h2
theorem in_sign {n : Int} (h : 0 ≤ n ∧ n < 32) : (!(Builtin.Str.occurrences CH (signS n) 0 CH.length 1).isEmpty) = true := by
  unfold signS
  rw [StrLaws.found_one, ch_is]
  exact decide_eq_true (signN_mem h)
theorem signs_text {ns : List Int} {a : Str} (h : a ∈ signs ⟨(ns.map signN).toArray⟩) : ∃ n ∈ ns, a = signS n := by
  obtain ⟨c, hc, rfl⟩ := List.mem_map.mp h
  obtain ⟨n, hn, rfl⟩ := List.mem_map.mp hc
  exact ⟨n, hn, rfl⟩
end Mine
end
section
open PySem PySem.W PySem.Calls PyProof.Rows
set_option maxRecDepth 100000
set_option linter.unusedVariables false
namespace Mine
open LCg
section
variable {prog : Program} {w : World} {A : Around} {E : Value → Shared → Prop} {s : Shared} {h₀ : Heap} {env : Env} {Q : Flow → Shared → Prop}

/-- what a turn hands back -/
def TurnEnd (h₀ : Heap) (L I : Addr) (oI : Obj) (G : Shared → Prop) (S : List (Addr × Obj) → Prop) (J : (Str → Option Value) → List (Addr × Obj) → Prop) (Q : Flow → Shared → Prop) (f : Flow) (s₂ : Shared) : Prop :=
  match f with
  | .ret v => Q (.ret v) s₂
  | .brk => False
  | _ => G s₂ ∧ ∃ m' news', Fr h₀ L s₂.heap m' ∧ News h₀ L s₂.heap ((I, oI) :: news') ∧ Off1 I news' ∧ S news' ∧ J m' news'

theorem off1_mem {I : Addr} : ∀ {l : List (Addr × Obj)}, Off1 I l → ∀ p ∈ l, p.1 ≠ I
  | [], _, _, h => nomatch h
  | _ :: _, x, p, h => by
    rcases List.mem_cons.mp h with rfl | h
    · exact x.1
    · exact off1_mem x.2 p h
theorem off1_of {I : Addr} : ∀ {l : List (Addr × Obj)}, (∀ p ∈ l, p.1 ≠ I) → Off1 I l
  | [], _ => trivial
  | _ :: _, h => ⟨h _ (.head _), off1_of fun p hp => h p (.tail _ hp)⟩

theorem loopJ {x : Str} {px pos : Pos} {iter : Expr} {body : List Stmt} {I : Addr} {fp : List Addr} {n : Nat} {P : Nat → Value → Prop} {St : Nat → Heap → Prop} {S : List (Addr × Obj) → Prop} {G : Shared → Prop} {m : Str → Option Value} {news : List (Addr × Obj)}
    {R : Result → Shared → Prop}
    (J : Nat → (Str → Option Value) → List (Addr × Obj) → Prop) (W : Walks prog w A I fp [I] n P St) (hIo : ∀ i h, St i h → ∃ o, h.get? I = some o)
    (hSt : ∀ i h h' o nw, St i h → h.get? I = some o → h'.get? I = some o → (∀ b o, h₀.get? b = some o → h'.get? b = some o) → News h₀ env.locals h' nw → S nw → St i h')
    (hG : ∀ s h tk, G s → G { s with heap := h, toks := tk })
    (hx : env.kindOf x = some .local) (hp : (env.scope.kind == .class || (env.scope.kind == .module && env.locals != env.globals)) = false)
    (hIL : env.locals ≠ I) (hLf : env.locals ∉ fp) (hI0 : h₀.get? I = none) (g0 : G s) (hst : St 0 s.heap) (F : Fr h₀ env.locals s.heap m) (N : News h₀ env.locals s.heap news) (off : Off1 I news) (hS : S news) (j0 : J 0 m news)
    (turn : ∀ i v m₁ news₁ s₁ oI, i < n → P i v → J i m₁ news₁ → G s₁ → Fr h₀ env.locals s₁.heap (fun y => if y = x then some v else m₁ y) → News h₀ env.locals s₁.heap ((I, oI) :: news₁) → Off1 I news₁ → S news₁ →
      wpAny (model prog w) A (execs body env) (TurnEnd h₀ env.locals I oI G S (J (i + 1)) (fun f s' => R (.ok f) s')) (fun _ _ => False) s₁)
    (done : ∀ s' m' news', G s' → Fr h₀ env.locals s'.heap m' → News h₀ env.locals s'.heap news' → J n m' news' → R (.ok .next) s') :
    codeAny (model prog w) A (.forLoop (.Name x px) (.ref I) body [] env) R s := by
  refine codeAny_forLoop
    (fun k s' => ∃ i m' news', G s' ∧ St i s'.heap ∧ Fr h₀ env.locals s'.heap m' ∧ News h₀ env.locals s'.heap news' ∧ Off1 I news' ∧ S news' ∧ J i m' news' ∧ i ≤ n ∧ k = n + 1 - i) ?_ (n + 1)
    ⟨0, m, news, g0, hst, F, N, off, hS, j0, Nat.zero_le _, rfl⟩
  rintro k s' ⟨i, m', news', g', hst', F', N', off', hS', hJ, hi, rfl⟩
  have next : ∀ h₁ : Heap, (∀ b o, b ∉ [I] → s'.heap.get? b = some o → h₁.get? b = some o) → Fr h₀ env.locals h₁ m' ∧ News h₀ env.locals h₁ news' := fun h₁ hk₁ =>
    ⟨fr_but F' hk₁ hIL hI0, news_but N' hk₁ (off1_mem off')⟩
  by_cases hlt : i < n
  · refine W.item i _ _ _ hlt hst' fun v h₁ tk₁ hP hst₁ hk₁ => ?_
    obtain ⟨F₁, N₁⟩ := next h₁ hk₁
    refine wpAny_assign_Name (wpAny_storeName_local hx F₁.ns (fun h₂ hn₂ hs₂ => ?_) hp)
    have F₂ := F₁.set hn₂ hs₂
    have hst₂ : St (i + 1) h₂ := W.frame _ _ _ hst₁ fun b hb o e => (hs₂.2 b fun q => hLf (q ▸ hb)).trans e
    obtain ⟨oI, heI⟩ := hIo _ _ hst₂
    have N₂ : News h₀ env.locals h₂ ((I, oI) :: news') := fun p hp => by
      rcases List.mem_cons.mp hp with rfl | hp
      · exact ⟨heI, Ne.symm hIL, hI0⟩
      · exact (N₁.set hs₂) p hp
    refine wpAny_mono (turn i v m' news' _ oI hlt hP hJ (hG _ _ _ (hG _ _ _ g')) F₂ N₂ off' hS') (fun f s₃ h₃ => ?_) fun _ _ e => e.elim
    have go : (G s₃ ∧ ∃ m'' news'', Fr h₀ env.locals s₃.heap m'' ∧ News h₀ env.locals s₃.heap ((I, oI) :: news'') ∧ Off1 I news'' ∧ S news'' ∧ J (i + 1) m'' news'') → ∃ k', k' < n + 1 - i ∧ ∃ i m' news', G s₃ ∧ St i s₃.heap ∧ Fr h₀ env.locals s₃.heap m' ∧ News h₀ env.locals s₃.heap news' ∧ Off1 I news' ∧ S news' ∧ J i m' news' ∧ i ≤ n ∧ k' = n + 1 - i := by
      rintro ⟨g3, m3, news3, F3, N3, off3, S3, J3⟩
      have N3' : News h₀ env.locals s₃.heap news3 := fun p hp => N3 p (List.mem_cons_of_mem _ hp)
      exact ⟨n + 1 - (i + 1), by omega, i + 1, m3, news3, g3, hSt _ _ _ _ _ hst₂ heI (N3 _ (.head _)).1 F3.keep N3' S3, F3, N3', off3, S3, J3, hlt, rfl⟩
    cases f with
    | ret v => exact h₃
    | brk => exact h₃.elim
    | cont => exact go h₃
    | next => exact go h₃
  · have hin : i = n := by omega
    subst hin
    refine W.done _ _ _ hst' fun h₁ tk₁ hk₁ => wpAny_execs_nil ?_
    obtain ⟨F₁, N₁⟩ := next h₁ hk₁
    exact done { s' with heap := h₁, toks := tk₁ } m' news' (hG _ _ _ g') F₁ N₁ hJ

/-- a loop over a list of the ledger or of the base -/
def AtList (prog : Program) (w : World) (A : Around) (h₀ : Heap) (env : Env) (x : Str) (body : List Stmt) (Q : Flow → Shared → Prop) (xv : Value) (s₁ : Shared) : Prop :=
  ∃ (ax : Addr) (its : Array Value) (news : List (Addr × Obj)) (m : Str → Option Value) (G : Shared → Prop) (J : Nat → (Str → Option Value) → List (Addr × Obj) → Prop), xv = .ref ax ∧ A.handled = none ∧ Fr h₀ env.locals s₁.heap m ∧ News h₀ env.locals s₁.heap news ∧ SrcAt h₀ ax its news ∧ G s₁ ∧ J 0 m news ∧
    (∀ s h tk, G s → G { s with heap := h, toks := tk }) ∧
    (∀ i v m₁ news₁ s₂ I oI, its[i]? = some v → J i m₁ news₁ → G s₂ → Fr h₀ env.locals s₂.heap (fun y => if y = x then some v else m₁ y) → News h₀ env.locals s₂.heap ((I, oI) :: news₁) → Off1 I news₁ → SrcAt h₀ ax its news₁ →
      wpAny (model prog w) A (execs body env) (TurnEnd h₀ env.locals I oI G (SrcAt h₀ ax its) (J (i + 1)) Q) (fun _ _ => False) s₂) ∧
    (∀ s' m' news', G s' → Fr h₀ env.locals s'.heap m' → News h₀ env.locals s'.heap news' → J its.size m' news' → Q .next s')

theorem For_list {x : Str} {px pos : Pos} {iter : Expr} {body : List Stmt} (hx : env.kindOf x = some .local) (hp : (env.scope.kind == .class || (env.scope.kind == .module && env.locals != env.globals)) = false)
    (h : wpAny (model prog w) A (eval iter env) (AtList prog w A h₀ env x body Q) E s)
    (hs : ∀ x, foldedSetIterable iter env x = pure x := by intro _; rfl) :
    wpAny (model prog w) A (exec (.For (.Name x px) iter body [] pos) env) Q E s := by
  refine wpAny_For (wpAny_mono h (fun xv s₁ h₁ => ?_) fun _ _ e => e) hs
  obtain ⟨ax, its, news, m, G, J, rfl, hh, F, N, S, g0, j0, hG, turn, done⟩ := h₁
  have hl := S.list F.keep N
  have hlt : ax < s₁.heap.objs.size := by obtain ⟨_, e, _⟩ := hl; exact Heap.lt_size e
  have up : ∀ b o, s₁.heap.get? b = some o → (s₁.heap.push { cls := .type "list_iterator", data := .fields #[.ref ax, .int 0 0] }).get? b = some o := fun b o e => Heap.get?_push_of_some _ e
  have hLa : env.locals ≠ ax := fun e => by
    obtain ⟨oL, es, ep, q, hd, _⟩ := F.ns
    obtain ⟨o, q2, _, n', hd'⟩ := hl
    rw [← e, q] at q2; cases q2; rw [hd] at hd'; cases hd'
  refine wpAny_pyIter_list hl ?_
  refine loopJ (pos := pos) (iter := iter) (G := G) (S := SrcAt h₀ ax its) (fp := [s₁.heap.objs.size, ax]) J (Walks.list hh s₁.heap.objs.size ax (Nat.ne_of_lt hlt) its) (fun i h st => by obtain ⟨o, e, _⟩ := st.1; exact ⟨o, e⟩) list_st hG hx hp (Nat.ne_of_lt F.ns.lt)
    (fun hm => by rcases List.mem_cons.mp hm with e | hm
                  · exact Nat.ne_of_lt F.ns.lt e
                  · exact hLa (List.mem_singleton.mp hm)) (next_is_new F) (hG _ _ _ g0) ⟨⟨_, Heap.get?_push_size _ rfl, rfl, rfl⟩, hl.push _⟩ (F.keeps up) (N.grown up) (off1_of fun p hp => Nat.ne_of_lt (Heap.lt_size (N p hp).1)) S j0 ?_ ?_
  · intro i v m₁ news₁ s₂ oI hi hP hJ hg F₁ N₁ off₁ S₁
    exact turn i v m₁ news₁ s₂ _ oI hP hJ hg F₁ N₁ off₁ S₁
  · intro s' m' news' g' F' N' J'
    exact done s' m' news' g' F' N' J'

def AtRange (prog : Program) (w : World) (A : Around) (h₀ : Heap) (env : Env) (x : Str) (body : List Stmt) (Q : Flow → Shared → Prop) (xv : Value) (s₁ : Shared) : Prop :=
  ∃ (r : Addr) (a b : Int) (t u v : Tok) (n : Nat) (news : List (Addr × Obj)) (m : Str → Option Value) (G : Shared → Prop) (J : Nat → (Str → Option Value) → List (Addr × Obj) → Prop), xv = .ref r ∧ A.handled = none ∧ Fr h₀ env.locals s₁.heap m ∧ News h₀ env.locals s₁.heap news ∧
    IsRange s₁.heap r a b 1 t u v ∧ Builtin.Range.small a b 1 = true ∧ Builtin.Range.rangeSize a b 1 = ((n : Nat) : Int) ∧ G s₁ ∧ J 0 m news ∧
    (∀ s h tk, G s → G { s with heap := h, toks := tk }) ∧
    (∀ i t m₁ news₁ s₂ I oI, i < n → J i m₁ news₁ → G s₂ → Fr h₀ env.locals s₂.heap (fun y => if y = x then some (.int (a + (i : Int)) t) else m₁ y) → News h₀ env.locals s₂.heap ((I, oI) :: news₁) → Off1 I news₁ →
      wpAny (model prog w) A (execs body env) (TurnEnd h₀ env.locals I oI G (fun _ => True) (J (i + 1)) Q) (fun _ _ => False) s₂) ∧
    (∀ s' m' news', G s' → Fr h₀ env.locals s'.heap m' → News h₀ env.locals s'.heap news' → J n m' news' → Q .next s')

theorem For_range {x : Str} {px pos : Pos} {iter : Expr} {body : List Stmt} (hx : env.kindOf x = some .local) (hp : (env.scope.kind == .class || (env.scope.kind == .module && env.locals != env.globals)) = false)
    (h : wpAny (model prog w) A (eval iter env) (AtRange prog w A h₀ env x body Q) E s)
    (hs : ∀ x, foldedSetIterable iter env x = pure x := by intro _; rfl) :
    wpAny (model prog w) A (exec (.For (.Name x px) iter body [] pos) env) Q E s := by
  refine wpAny_For (wpAny_mono h (fun xv s₁ h₁ => ?_) fun _ _ e => e) hs
  obtain ⟨r, a, b, t, u, v, n, news, m, G, J, rfl, hh, F, N, hr, hsm, hn, g0, j0, hG, turn, done⟩ := h₁
  refine wpAny_pyIter_range hr hsm ?_
  refine loopJ (pos := pos) (iter := iter) (G := G) (S := fun _ => True) (fp := [s₁.heap.objs.size]) J (range_walks hh a n) (fun i h st => ⟨_, st⟩) range_st hG hx hp (Nat.ne_of_lt F.ns.lt)
    (fun hm => Nat.ne_of_lt F.ns.lt (List.mem_singleton.mp hm)) (next_is_new F) (hG _ _ _ g0) (by show IsRangeIter _ _ _ _ _; rw [hn]; simpa using Heap.get?_push_size _ rfl) (F.keeps fun _ _ e => Heap.get?_push_of_some _ e) (N.grown fun _ _ e => Heap.get?_push_of_some _ e)
    (off1_of fun p hp => Nat.ne_of_lt (Heap.lt_size (N p hp).1)) trivial j0 ?_ ?_
  · intro i v m₁ news₁ s₂ oI hi hP hJ hg F₁ N₁ off₁ _
    obtain ⟨t, rfl⟩ := hP
    exact turn i t m₁ news₁ s₂ _ oI hi hJ hg F₁ N₁ off₁
  · intro s' m' news' g' F' N' J'
    exact done s' m' news' g' F' N' J'
end
end Mine
end
section
open PySem PySem.W PySem.Calls PyProof.Rows
set_option maxRecDepth 100000
set_option linter.unusedVariables false
namespace Mine

local macro_rules | `(tactic| walk_at "binaryOp LShift int int") => `(tactic| (refine lshift_int_small (by decide) (by decide) (bits_and25 _) ?_))
local macro_rules | `(tactic| walk_at "stop") => `(tactic| first
  | (with_reducible show wpAny _ _ (exec (Stmt.For _ _ _ _ _) _) _ _ _)
  | (with_reducible show wpAny _ _ (exec (Stmt.While _ _ _ _) _) _ _ _)
  | (with_reducible show wpAny _ _ (eval (Expr.ListComp _ _ _ _) _) _ _ _)
  | (with_reducible show wpAny _ _ (eval (Expr.GeneratorExp _ _ _ _) _) _ _ _)
  | (with_reducible show wpAny _ _ (pyIter _) _ _ _))
local macro_rules | `(tactic| walk_at "S") => `(tactic| repeat' (first
  | (k_unfold; (try dsimp only))
  | (fail_if_success (k_end; skip)); (fail_if_success walk_at "stop"); first | walk1 | (dsimp only; walk1)))
local macro_rules | `(tactic| walk_at "one") => `(tactic| exact List.forall_mem_cons.mpr ⟨rfl, List.forall_mem_nil _⟩)
local macro_rules | `(tactic| walk_at "others") => `(tactic| (intro z h1 h2 h3; have h4 := h2 _ (.head _); simp only [kstB, if_neg h1, if_neg h4, h3, Bool.false_eq_true, if_false]))

set_option maxHeartbeats 4000000 in
theorem poly_spec {w : World} {dp un : Nat} {fr : Option (List Env)} {gd : Option (List Code)} {E : Value → Shared → Prop} {s : Shared} {p : Program} {loose : List Str} {mean : ExcName → Option Value} {mg mb : Str → Option Value} {Q : Value → Shared → Prop}
    {l : Addr} {arr : Array Value} {ns : List Int}
    (X : (Mine.hd.heap_39 w.params).In s.heap) (T : Top p loose mean mg mb s.heap) (hd : dp + 4 < recursionLimit)
    (hl : s.heap.IsList l arr) (hi : IntsAre arr.toList ns)
    (ret : ∀ t h' tk', Grow s h' → Q (.int (polyZ ns) t) { s with heap := h', toks := tk' }) :
    wpAny (model PySem.Challenge.rw_oo0007_02.row.prog w) (AA dp un fr gd) (call (.ref 21) [.ref l]) Q E s := by
  revert X; k_fill; intro X
  refine enterK (binds := [("values", .ref l)]) X T (by show dp < _; omega) (by k_is) (by k_is) (BindsTo.of_eq rfl) (locs rfl) ?_
  intro h₁ F N
  walk_at "S"
  refine For_invV (h₀ := s.heap) rfl rfl ?_
  walk_at "S"
  refine loopL (σ := Int × Tok) (fun c => [("chk", .int c.1 c.2)]) ["top", "i"] (fun pre c => c.1 = polyZ pre) (1, _) rfl (vs := arr.toList) (by rw [Array.toArray_toList]; exact hl) hi (by k_asm) (by k_asm) (by walk_at "one") rfl ?_ ?_
  · intro c pre post n t u h tk own e hc F N
    walk_at "S"
    refine For_invV (h₀ := s.heap) rfl rfl ?_
    walk_at "S"
    refine loopR (σ := Int × Tok) (fun c => [("chk", .int c.1 c.2)]) [] (fun pre c' => c'.1 = pre.foldl (inZ (c.1.fdiv (2 ^ Int.toNat 25))) (Builtin.bitXor (Builtin.bitAnd c.1 33554431 * 2 ^ Int.toNat 5) n)) (_, _) rfl (by assumption) rfl (n := 5) rfl (by k_asm) (by k_asm) (by walk_at "one") rfl ?_ ?_
    · intro c1 pre1 k1 t1 u1 h1 tk1 own1 ek hlt hc1 F1 N1
      have hk : k1 = 0 ∨ k1 = 1 ∨ k1 = 2 ∨ k1 = 3 ∨ k1 = 4 := by omega
      clear ek
      rcases hk with rfl | rfl | rfl | rfl | rfl
      all_goals walk_at "S"
      all_goals (refine loopEnd (_, _) (by k_asm) (by k_asm) (fun p hp => hp) (by walk_at "one") (by walk_at "others") ?_)
      all_goals (rw [List.foldl_append, ← hc1, List.foldl_cons, List.foldl_nil])
      all_goals first | exact inZ_posE (by with_reducible assumption) (by decide) | exact inZ_negE (by with_reducible assumption)
    · intro c1 u1 h1 tk1 hc1 F1 N1
      walk_at "S"
      refine loopEnd c1 (by k_asm) (by k_asm) (fun p hp => hp) (by walk_at "one") ?_ ?_
      · intro z h1 h2 h3
        have h4 := h2 _ (.head _)
        have h5 : z ≠ "top" ∧ z ≠ "i" := by
          refine ⟨?_, ?_⟩ <;> (rintro rfl; cases h3)
        simp only [kstB, if_neg h1, if_neg h4, h3, if_neg h5.1, if_neg h5.2, Bool.false_eq_true, if_false, List.contains_nil]
      · rw [hc1, hc, stepZ_range, polyZ_snoc]
  · intro c u h tk hc F N
    walk_at "S"
    dsimp only; rw [hc]
    exact ret _ _ _ F.keep
end Mine
end
section
open PySem PySem.W PySem.Calls PyProof.Rows
set_option maxRecDepth 100000
set_option linter.unusedVariables false
namespace Mine
open LCg

local macro_rules | `(tactic| walk_at "binaryOp LShift int int") => `(tactic| (refine lshift_int_small (by decide) (by decide) (bits_and25 _) ?_))
local macro_rules | `(tactic| walk_at "stop") => `(tactic| first
  | (with_reducible show wpAny _ _ (exec (Stmt.For _ _ _ _ _) _) _ _ _)
  | (with_reducible show wpAny _ _ (exec (Stmt.While _ _ _ _) _) _ _ _)
  | (with_reducible show wpAny _ _ (eval (Expr.ListComp _ _ _ _) _) _ _ _)
  | (with_reducible show wpAny _ _ (eval (Expr.GeneratorExp _ _ _ _) _) _ _ _)
  | (with_reducible show wpAny _ _ (pyIter _) _ _ _))
local macro_rules | `(tactic| walk_at "S") => `(tactic| repeat' (first
  | (k_unfold; (try dsimp only))
  | ((with_reducible show Frag.In _ _ ∧ _); walk1)
  | (fail_if_success (k_end; skip)); (fail_if_success walk_at "stop"); first | walk1 | (dsimp only; walk1)))
local macro_rules | `(tactic| walk_at "one") => `(tactic| exact List.forall_mem_cons.mpr ⟨rfl, List.forall_mem_nil _⟩)
local macro_rules | `(tactic| walk_at "others") => `(tactic| (intro z h1 h2 h3; have h4 := h2 _ (.head _); simp only [kstB, if_neg h1, if_neg h4, h3, Bool.false_eq_true, if_false]))
def hiZ (c : Nat) : Int := (c : Int).fdiv (2 ^ Int.toNat 5)
def loZ (c : Nat) : Int := Builtin.bitAnd (c : Int) 31
def expandZ (x : Str) : List Int := x.cps.toList.map hiZ ++ [0] ++ x.cps.toList.map loZ
theorem expandZ_len (x : Str) : (expandZ x).length = 2 * x.cps.size + 1 := by
  unfold expandZ; simp only [List.length_append, List.length_map, List.length_cons, List.length_nil, Array.length_toList]; omega
set_option maxHeartbeats 4000000 in
theorem expand_spec {w : World} {dp un : Nat} {fr : Option (List Env)} {gd : Option (List Code)} {E : Value → Shared → Prop} {s : Shared} {p : Program} {loose : List Str} {mean : ExcName → Option Value} {mg mb : Str → Option Value} {Q : Value → Shared → Prop}
    {x : Str} {tx : Tok}
    (X : (Mine.hd.heap_39 w.params).In s.heap) (T : Top p loose mean mg mb s.heap) (hd : dp + 4 < recursionLimit) (hx : x.cps.size ≤ 1000)
    (ret : ∀ l arr k h' tk', Grow s h' → s.heap.get? l = none → h'.get? l = some (W.listOf arr k) → IntsAre arr.toList (expandZ x) → Q (.ref l) { s with heap := h', toks := tk' }) :
    wpAny (model PySem.Challenge.rw_oo0007_02.row.prog w) (AA dp un fr gd) (call (.ref 26) [.str x tx]) Q E s := by
  revert X; k_fill; intro X
  refine enterK (binds := [("hrp", .str x tx)]) X T (by show dp < _; omega) (by k_is) (by k_is) (BindsTo.of_eq rfl) (locs rfl) ?_
  intro h₁ F N
  walk_at "S"
  refine ListComp_S (F₀ := F) (by rfl) (by decide) (by rfl) (by decide) (by rfl) ?_
  walk_at "S"
  refine ⟨x, tx, [], rfl, rfl, by k_asm, by k_asm, by rw [sizeLine_eq]; omega, fun s₂ ⟨g, e⟩ => ?_⟩
  subst e
  refine compPure (fun i y => ∃ t, y = .int ((x.cps.toList.map hiZ).getD i 0) t) trivial ?_ ?_
  · rintro i ys v I oI C oC D m₂ h tk E' hi ⟨c, u, hc, rfl⟩ hC hm F N
    walk_at "S"
    refine ⟨?_, _, _, rfl, by k_asm, by k_asm⟩
    rw [getD_map hc]; exact ⟨_, rfl⟩
  · intro ys hl hR
    have hI := intsAre_of (ns := x.cps.toList.map hiZ) (by simpa using hl) hR
    clear hR
    walk_at "FinE"
    walk_at "S"
    refine ListComp_S (F₀ := by k_asm) (by rfl) (by decide) (by rfl) (by decide) (by rfl) ?_
    walk_at "S"
    refine ⟨x, tx, _, rfl, rfl, by k_asm, by k_asm, by rw [sizeLine_eq]; omega, fun s₂ ⟨g, e⟩ => ?_⟩
    subst e
    refine compPure (fun i y => ∃ t, y = .int ((x.cps.toList.map loZ).getD i 0) t) trivial ?_ ?_
    · rintro i ys v I oI C oC D m₂ h tk E' hi ⟨c, u, hc, rfl⟩ hC hm F N
      walk_at "S"
      refine ⟨?_, _, _, rfl, by k_asm, by k_asm⟩
      rw [getD_map hc]; exact ⟨_, rfl⟩
    · intro ys hl hR
      have hI2 := intsAre_of (ns := x.cps.toList.map loZ) (by simpa using hl) hR
      clear hR
      walk_at "FinE"
      walk_at "S"
      refine ret _ _ _ _ _ (Fr.keep (by k_asm)) (News.fresh (by k_asm) (.head _)) (News.get (by k_asm) (.head _)) ?_
      simp only [List.push_toArray, Array.toList_append]
      exact (hI.append (.cons 0 _ .nil)).append hI2
end Mine
end
section
open PySem PySem.W PySem.Calls PyProof.Rows
set_option maxRecDepth 100000
set_option linter.unusedVariables false
namespace Mine
open LCg

local macro_rules | `(tactic| walk_at "binaryOp LShift int int") => `(tactic| (refine lshift_int_small (by decide) (by decide) (bits_and25 _) ?_))
local macro_rules | `(tactic| walk_at "stop") => `(tactic| first
  | (with_reducible show wpAny _ _ (exec (Stmt.For _ _ _ _ _) _) _ _ _)
  | (with_reducible show wpAny _ _ (exec (Stmt.While _ _ _ _) _) _ _ _)
  | (with_reducible show wpAny _ _ (eval (Expr.ListComp _ _ _ _) _) _ _ _)
  | (with_reducible show wpAny _ _ (eval (Expr.GeneratorExp _ _ _ _) _) _ _ _)
  | (with_reducible show wpAny _ _ (pyIter _) _ _ _))
local macro_rules | `(tactic| walk_at "S") => `(tactic| repeat' (first
  | (k_unfold; (try dsimp only))
  | ((with_reducible show Frag.In _ _ ∧ _); walk1)
  | (fail_if_success (k_end; skip)); (fail_if_success walk_at "stop"); first | walk1 | (dsimp only; walk1)))
local macro_rules | `(tactic| walk_at "one") => `(tactic| exact List.forall_mem_cons.mpr ⟨rfl, List.forall_mem_nil _⟩)
local macro_rules | `(tactic| walk_at "others") => `(tactic| (intro z h1 h2 h3; have h4 := h2 _ (.head _); simp only [kstB, if_neg h1, if_neg h4, h3, Bool.false_eq_true, if_false]))
local macro_rules | `(tactic| walk_at "len") => `(tactic| ((try simp only [List.length_append, List.length_cons, List.length_nil, List.length_map, expandZ_len, rangeKs_length] at *); omega))
local macro_rules | `(tactic| walk_at "binaryOp Add ref ref") => `(tactic| (k_here; k_dflt (refine' addInts ?F ?N ?l ?b ?i ?j ?z ?_; (case F => k_asm); (case N => k_asm); (case l => walk_at "alist"); (case b => walk_at "alist"); (case i => first | assumption | l_ints); (case j => first | assumption | l_ints); (case z => walk_at "len"); intro D' arr' k' h' F' N' hI' o1'; (try simp only [LCg.Off1, and_true] at o1'))))
local macro_rules | `(tactic| walk_at "room") => `(tactic| (dsimp only [AA]; omega))
local macro_rules | `(tactic| walk_at "top") => `(tactic| exact Top.keeps (by assumption) (Fr.keep (by k_asm)))
local macro_rules | `(tactic| walk_at "alist") => `(tactic| first | (with_reducible assumption) | exact isList_in (by k_asm) (by k_mem) | (refine Heap.IsList.at (h := _) (by assumption) (fun o e => Fr.keep (by k_asm) _ o e)))
local macro_rules | `(tactic| walk_at "call ref") => `(tactic| (k_here; k_dflt (refine' expand_spec ?X ?T ?d ?x ?_; (case X => k_in); (case T => walk_at "top"); (case d => walk_at "room"); (case x => first | assumption | omega); intro l' arr' k' h' tk' hg' hn' ho' hI'; have hb' := backL (by k_asm) (by k_asm) hg' hn' ho'; obtain ⟨F', N', o1'⟩ := hb'; (try simp only [LCg.Off1, and_true] at o1'))))
local macro_rules | `(tactic| walk_at "call ref") => `(tactic| (k_here; k_dflt (refine' poly_spec ?X ?T ?d ?l ?i ?_; (case X => k_in); (case T => walk_at "top"); (case d => walk_at "room"); (case l => walk_at "alist"); (case i => assumption); intro t' h' tk' hg'; have hb' := backI (by k_asm) (by k_asm) hg'; obtain ⟨F', N'⟩ := hb')))

set_option maxHeartbeats 4000000 in
theorem verify_spec {w : World} {dp un : Nat} {fr : Option (List Env)} {gd : Option (List Code)} {E : Value → Shared → Prop} {s : Shared} {p : Program} {loose : List Str} {mean : ExcName → Option Value} {mg mb : Str → Option Value} {Q : Value → Shared → Prop}
    {x : Str} {tx : Tok} {l : Addr} {arr : Array Value} {ns : List Int}
    (X : (Mine.hd.heap_39 w.params).In s.heap) (T : Top p loose mean mg mb s.heap) (hd : dp + 8 < recursionLimit) (hx : x.cps.size ≤ 1000)
    (hl : s.heap.IsList l arr) (hi : IntsAre arr.toList ns) (hn : ns.length ≤ 1000)
    (ret : ∀ h' tk', Grow s h' → Q (.bool (polyZ (expandZ x ++ ns) == 1)) { s with heap := h', toks := tk' }) :
    wpAny (model PySem.Challenge.rw_oo0007_02.row.prog w) (AA dp un fr gd) (call (.ref 33) [.str x tx, .ref l]) Q E s := by
  revert X; k_fill; intro X
  refine enterK (binds := [("hrp", .str x tx), ("data", .ref l)]) X T (by show dp < _; omega) (by k_is) (by k_is) (BindsTo.of_eq rfl) (locs rfl) ?_
  intro h₁ F N
  walk_at "S"
  exact ret _ _ (Fr.keep (by k_asm))

def digZ (P : Int) (i : Nat) : Int := Builtin.bitAnd (P.fdiv (2 ^ (5 * (5 - (0 + (i : Int)))).toNat)) 31
def checkZ (x : Str) (ns : List Int) : List Int := (List.range 6).map (digZ (Builtin.bitXor (polyZ (expandZ x ++ ns ++ [0, 0, 0, 0, 0, 0])) 1))
theorem digZ_bound (P : Int) (i : Nat) : 0 ≤ digZ P i ∧ digZ P i < 32 := by
  unfold digZ
  generalize P.fdiv _ = c
  by_cases hx : 0 ≤ c
  · rw [bitAnd_pp hx (by decide)]
    have h : c.toNat &&& (31 : Int).toNat ≤ 31 := Nat.and_le_right
    omega
  · rw [bitAnd_np hx (by decide)]
    have h : (31 : Int).toNat &&& (Builtin.bitNot c).toNat ≤ 31 := Nat.and_le_left
    omega
theorem checkZ_bound (x : Str) (ns : List Int) : ∀ n ∈ checkZ x ns, 0 ≤ n ∧ n < 32 := by
  intro n hn
  obtain ⟨i, _, rfl⟩ := List.mem_map.mp hn
  exact digZ_bound _ i
theorem checkZ_len (x : Str) (ns : List Int) : (checkZ x ns).length = 6 := by simp [checkZ]
theorem getD_range {f : Nat → Int} {i n : Nat} (h : i < n) : ((List.range n).map f).getD i 0 = f i := by simp [List.getD, h]
set_option maxHeartbeats 4000000 in
theorem create_spec {w : World} {dp un : Nat} {fr : Option (List Env)} {gd : Option (List Code)} {E : Value → Shared → Prop} {s : Shared} {p : Program} {loose : List Str} {mean : ExcName → Option Value} {mg mb : Str → Option Value} {Q : Value → Shared → Prop}
    {x : Str} {tx : Tok} {l : Addr} {arr : Array Value} {ns : List Int}
    (X : (Mine.hd.heap_39 w.params).In s.heap) (T : Top p loose mean mg mb s.heap) (hd : dp + 8 < recursionLimit) (hx : x.cps.size ≤ 1000)
    (hl : s.heap.IsList l arr) (hi : IntsAre arr.toList ns) (hn : ns.length ≤ 1000)
    (ret : ∀ l arr k h' tk', Grow s h' → s.heap.get? l = none → h'.get? l = some (W.listOf arr k) → IntsAre arr.toList (checkZ x ns) → Q (.ref l) { s with heap := h', toks := tk' }) :
    wpAny (model PySem.Challenge.rw_oo0007_02.row.prog w) (AA dp un fr gd) (call (.ref 38) [.str x tx, .ref l]) Q E s := by
  revert X; k_fill; intro X
  refine enterKC (binds := [("hrp", .str x tx), ("data", .ref l)]) X T (by show dp < _; omega) (by k_is) (by k_is) (BindsTo.of_eq rfl) (by rfl) (by decide +kernel) ?_
  intro h₁ tk cells F N Y
  k_cells Y
  walk_at "S"
  refine ListComp_U (F₀ := by k_asm) (by with_unfolding_all rfl) (by decide) (by rfl) (by decide) (by rfl) ?_
  walk_at "S"
  refine CompSrc.range (by rfl) (by k_asm) (by k_asm) (by assumption) (by decide) (n := 6) rfl (by rw [sizeLine_eq]; omega) ?_
  intro g
  refine compPure (fun i y => ∃ t, y = .int ((checkZ x ns).getD i 0) t) trivial ?_ ?_
  · rintro i ys v I oI C oC D m₂ h tk E' hi ⟨t, rfl⟩ hC hm F N
    walk_at "S"
    refine ⟨?_, _, _, rfl, by k_asm, by k_asm⟩
    rw [checkZ, getD_range hi]; exact ⟨_, rfl⟩
  · intro ys hl hR
    have hI2 := intsAre_of (ns := checkZ x ns) (by rw [hl, checkZ_len]) hR
    clear hR
    walk_at "FinE"
    walk_at "S"
    refine ret _ _ _ _ _ (Fr.keep (by k_asm)) (News.fresh (by k_asm) (.head _)) (News.get (by k_asm) (.head _)) hI2
end Mine
end
section
open PySem PySem.W PySem.Calls PyProof.Rows
set_option maxRecDepth 100000
set_option linter.unusedVariables false
namespace Mine
open LCg

local macro_rules | `(tactic| walk_at "binaryOp LShift int int") => `(tactic| (refine lshift_int_small (by decide) (by decide) (bits_and25 _) ?_))
local macro_rules | `(tactic| walk_at "stop") => `(tactic| first
  | (with_reducible show wpAny _ _ (exec (Stmt.For _ _ _ _ _) _) _ _ _)
  | (with_reducible show wpAny _ _ (exec (Stmt.While _ _ _ _) _) _ _ _)
  | (with_reducible show wpAny _ _ (eval (Expr.ListComp _ _ _ _) _) _ _ _)
  | (with_reducible show wpAny _ _ (eval (Expr.GeneratorExp _ _ _ _) _) _ _ _)
  | (with_reducible show wpAny _ _ (pyIter _) _ _ _))
local macro_rules | `(tactic| walk_at "S") => `(tactic| repeat' (first
  | (k_unfold; (try dsimp only))
  | ((with_reducible show Frag.In _ _ ∧ _); walk1)
  | (fail_if_success (k_end; skip)); (fail_if_success walk_at "stop"); first | walk1 | (dsimp only; walk1)))
local macro_rules | `(tactic| walk_at "one") => `(tactic| exact List.forall_mem_cons.mpr ⟨rfl, List.forall_mem_nil _⟩)
local macro_rules | `(tactic| walk_at "others") => `(tactic| (intro z h1 h2 h3; have h4 := h2 _ (.head _); simp only [kstB, if_neg h1, if_neg h4, h3, Bool.false_eq_true, if_false]))
local macro_rules | `(tactic| walk_at "len") => `(tactic| ((try simp only [List.length_append, List.length_cons, List.length_nil, List.length_map, expandZ_len, checkZ_len, rangeKs_length] at *); omega))
local macro_rules | `(tactic| walk_at "binaryOp Add ref ref") => `(tactic| (k_here; k_dflt (refine' addInts ?F ?N ?l ?b ?i ?j ?z ?_; (case F => k_asm); (case N => k_asm); (case l => walk_at "alist"); (case b => walk_at "alist"); (case i => first | assumption | l_ints); (case j => first | assumption | l_ints); (case z => walk_at "len"); intro D' arr' k' h' F' N' hI' o1'; (try simp only [LCg.Off1, and_true] at o1'))))
local macro_rules | `(tactic| walk_at "room") => `(tactic| (dsimp only [AA]; omega))
local macro_rules | `(tactic| walk_at "top") => `(tactic| exact Top.keeps (by assumption) (Fr.keep (by k_asm)))
local macro_rules | `(tactic| walk_at "alist") => `(tactic| first | (with_reducible assumption) | exact isList_in (by k_asm) (by k_mem) | (refine Heap.IsList.at (h := _) (by assumption) (fun o e => Fr.keep (by k_asm) _ o e)))
local macro_rules | `(tactic| walk_at "call ref") => `(tactic| (k_here; k_dflt (refine' expand_spec ?X ?T ?d ?x ?_; (case X => k_in); (case T => walk_at "top"); (case d => walk_at "room"); (case x => first | assumption | omega); intro l' arr' k' h' tk' hg' hn' ho' hI'; have hb' := backL (by k_asm) (by k_asm) hg' hn' ho'; obtain ⟨F', N', o1'⟩ := hb'; (try simp only [LCg.Off1, and_true] at o1'))))
local macro_rules | `(tactic| walk_at "call ref") => `(tactic| (k_here; k_dflt (refine' poly_spec ?X ?T ?d ?l ?i ?_; (case X => k_in); (case T => walk_at "top"); (case d => walk_at "room"); (case l => walk_at "alist"); (case i => assumption); intro t' h' tk' hg'; have hb' := backI (by k_asm) (by k_asm) hg'; obtain ⟨F', N'⟩ := hb')))
local macro_rules | `(tactic| walk_at "call ref") => `(tactic| (k_here; k_dflt (refine' create_spec ?X ?T ?d ?x ?l ?i ?n ?_; (case X => k_in); (case T => walk_at "top"); (case d => walk_at "room"); (case x => first | assumption | omega); (case l => walk_at "alist"); (case i => assumption); (case n => walk_at "len"); intro l' arr' k' h' tk' hg' hn' ho' hI'; have hb' := backL (by k_asm) (by k_asm) hg' hn' ho'; obtain ⟨F', N', o1'⟩ := hb'; (try simp only [LCg.Off1, and_true] at o1'))))
local macro_rules | `(tactic| walk_at "call ref") => `(tactic| (k_here; k_dflt (refine' verify_spec ?X ?T ?d ?x ?l ?i ?n ?_; (case X => k_in); (case T => walk_at "top"); (case d => walk_at "room"); (case x => first | assumption | omega); (case l => walk_at "alist"); (case i => assumption); (case n => walk_at "len"); intro h' tk' hg'; have hb' := backI (by k_asm) (by k_asm) hg'; obtain ⟨F', N'⟩ := hb')))
local macro_rules | `(tactic| walk_at "slen") => `(tactic| ((try simp only [PySem.Str.length_append, len_one, len_one2, PySem.Str.length, Array.size_append, List.size_toArray, List.length_map, List.length_append, checkZ_len] at *); rw [sizeLine_eq]; omega))
local macro_rules | `(tactic| walk_at "binaryOp Add str str") => `(tactic| (k_dflt (refine' PyProof.Rows.add_str ?_ ?z; (case z => walk_at "slen"); intro t' tk')))
local macro_rules | `(tactic| walk_at "subscriptTail Name Name str int") => `(tactic| (k_dflt (refine item_str (x := CH) (fitsSsize_of (N := 9223372036854775808) (by omega) (by omega) (Int.le_refl _)) (by rw [ch_len]; omega) (by rw [ch_len]; omega) ?_; intro _)))

theorem joinOk_signs {ns : List Int} (h : ns.length ≤ 5000) : JoinOk (PySem.Str.ofString "") (ns.map signS) = true := by
  unfold JoinOk
  rw [Bool.not_eq_true']
  refine StrLaws.joinFits (B := 1) (fun y hy => ?_) ?_
  · obtain ⟨n, _, rfl⟩ := List.mem_map.mp hy
    exact Nat.le_refl _
  · have e : (PySem.Str.ofString "").length = 0 := by decide +kernel
    rw [e, List.length_map]; omega
set_option maxHeartbeats 4000000 in
theorem encode_spec {w : World} {dp un : Nat} {fr : Option (List Env)} {gd : Option (List Code)} {E : Value → Shared → Prop} {s : Shared} {p : Program} {loose : List Str} {mean : ExcName → Option Value} {mg mb : Str → Option Value} {Q : Value → Shared → Prop}
    {x : Str} {tx : Tok} {l : Addr} {arr : Array Value} {ns : List Int}
    (X : (Mine.hd.heap_39 w.params).In s.heap) (T : Top p loose mean mg mb s.heap) (hd : dp + 12 < recursionLimit) (hx : x.cps.size ≤ 1000)
    (hl : s.heap.IsList l arr) (hi : IntsAre arr.toList ns) (hn : ns.length ≤ 1000) (hb : ∀ n ∈ ns, 0 ≤ n ∧ n < 32)
    (ret : ∀ t h' tk', Grow s h' → Q (.str (textOf x (ns ++ checkZ x ns)) t) { s with heap := h', toks := tk' }) :
    wpAny (model PySem.Challenge.rw_oo0007_02.row.prog w) (AA dp un fr gd) (call (.ref 43) [.str x tx, .ref l]) Q E s := by
  revert X; k_fill; intro X
  refine enterK (binds := [("hrp", .str x tx), ("data", .ref l)]) X T (by show dp < _; omega) (by k_is) (by k_is) (BindsTo.of_eq rfl) (locs rfl) ?_
  intro h₁ F N
  walk_at "S"
  have hIc := (by assumption : IntsAre _ (ns ++ checkZ x ns))
  have hlen := hIc.length
  simp only [List.length_append, checkZ_len, Array.length_toList] at hlen
  have hall : ∀ n ∈ ns ++ checkZ x ns, 0 ≤ n ∧ n < 32 := fun n hm => (List.mem_append.mp hm).elim (hb n) (checkZ_bound x ns n)
  refine ListComp_U (F₀ := by k_asm) (by with_unfolding_all rfl) (by decide) (by rfl) (by decide) (by rfl) ?_
  walk_at "S"
  refine CompSrc.ledger (by rfl) (by k_asm) (by k_asm) (by k_mem) (by rw [sizeLine_eq]; omega) ?_
  intro g
  refine compPure (fun i y => ∃ t, y = .str (((ns ++ checkZ x ns).map signS).getD i ⟨#[]⟩) t) (Or.inr ⟨_, by k_mem, rfl, _, rfl⟩) ?_ ?_
  · rintro i ys v I oI C oC D m₂ h tk E' hi hv hC hm F N
    obtain ⟨n, t, rfl, hn'⟩ := hIc.at i v (by simpa using hv)
    have hb' := hall n (List.mem_of_getElem? hn')
    walk_at "S"
    refine ⟨?_, _, _, rfl, by k_asm, by k_asm⟩
    have e : ((ns ++ checkZ x ns).map signS).getD i ⟨#[]⟩ = signS n := by simp only [List.getD, List.getElem?_map, hn', Option.map_some, Option.getD_some]
    rw [e, ← item_sign hb']
    exact ⟨_, rfl⟩
  · intro ys hl hR
    have hI2 := strsAre_of (ns := (ns ++ checkZ x ns).map signS) (by rw [hl, List.length_map, List.length_append, checkZ_len]; omega) hR
    clear hR
    walk_at "FinE"
    walk_at "S"
    obtain ⟨lv, ev, et⟩ := strsAre_values hI2
    refine SC.join (l := lv) (by rw [← ev]; exact isList_in (k := ys.length) (by k_asm) (by k_mem)) et (joinOk_signs (by rw [List.length_append, checkZ_len]; omega)) ?_
    intro t' tk'
    have hjl : (Txt.join (PySem.Str.ofString "") ((ns ++ checkZ x ns).map signS)).length ≤ 2000 := by
      rw [join_signs]; simp only [PySem.Str.length, List.size_toArray, List.length_map, List.length_append, checkZ_len]; omega
    refine PyProof.Rows.add_str ?_ (by rw [PySem.Str.length_append, len_one, sizeLine_eq]; simp only [PySem.Str.length] at *; omega)
    intro t2 tk2
    rw [text_is]
    walk_at "S"
    exact ret _ _ _ (Fr.keep (by k_asm))
end Mine
end
section
open PySem PySem.W PySem.Calls PyProof.Rows
set_option maxRecDepth 100000
set_option linter.unusedVariables false
namespace Mine
open LCg

local macro_rules | `(tactic| walk_at "binaryOp LShift int int") => `(tactic| (refine lshift_int_small (by decide) (by decide) (bits_and25 _) ?_))
local macro_rules | `(tactic| walk_at "stop") => `(tactic| first
  | (with_reducible show wpAny _ _ (exec (Stmt.For _ _ _ _ _) _) _ _ _)
  | (with_reducible show wpAny _ _ (exec (Stmt.Assign _ (Expr.ListComp _ _ _ _) _) _) _ _ _)
  | (with_reducible show wpAny _ _ (exec (Stmt.While _ _ _ _) _) _ _ _)
  | (with_reducible show wpAny _ _ (eval (Expr.ListComp _ _ _ _) _) _ _ _)
  | (with_reducible show wpAny _ _ (eval (Expr.GeneratorExp _ _ _ _) _) _ _ _)
  | (with_reducible show wpAny _ _ (call (Value.builtin "any") _) _ _ _)
  | (with_reducible show wpAny _ _ (call (Value.builtin "all") _) _ _ _)
  | (with_reducible show wpAny _ _ (pyIter _) _ _ _))
local macro_rules | `(tactic| walk_at "S") => `(tactic| repeat' (first
  | (k_unfold; (try dsimp only))
  | ((with_reducible show Frag.In _ _ ∧ _); walk1)
  | (fail_if_success (k_end; skip)); (fail_if_success walk_at "stop"); first | walk1 | (dsimp only; walk1)))
local macro_rules | `(tactic| walk_at "one") => `(tactic| exact List.forall_mem_cons.mpr ⟨rfl, List.forall_mem_nil _⟩)
local macro_rules | `(tactic| walk_at "others") => `(tactic| (intro z h1 h2 h3; have h4 := h2 _ (.head _); simp only [kstB, if_neg h1, if_neg h4, h3, Bool.false_eq_true, if_false]))
local macro_rules | `(tactic| walk_at "len") => `(tactic| ((try simp only [List.length_append, List.length_cons, List.length_nil, List.length_map, expandZ_len, checkZ_len, rangeKs_length] at *); omega))
local macro_rules | `(tactic| walk_at "binaryOp Add ref ref") => `(tactic| (k_here; k_dflt (refine' addInts ?F ?N ?l ?b ?i ?j ?z ?_; (case F => k_asm); (case N => k_asm); (case l => walk_at "alist"); (case b => walk_at "alist"); (case i => first | assumption | l_ints); (case j => first | assumption | l_ints); (case z => walk_at "len"); intro D' arr' k' h' F' N' hI' o1'; (try simp only [LCg.Off1, and_true] at o1'))))
local macro_rules | `(tactic| walk_at "room") => `(tactic| (dsimp only [AA]; omega))
local macro_rules | `(tactic| walk_at "top") => `(tactic| exact Top.keeps (by assumption) (Fr.keep (by k_asm)))
local macro_rules | `(tactic| walk_at "alist") => `(tactic| first | (with_reducible assumption) | exact isList_in (by k_asm) (by k_mem) | (refine Heap.IsList.at (h := _) (by assumption) (fun o e => Fr.keep (by k_asm) _ o e)))
local macro_rules | `(tactic| walk_at "call ref") => `(tactic| (k_here; k_dflt (refine' expand_spec ?X ?T ?d ?x ?_; (case X => k_in); (case T => walk_at "top"); (case d => walk_at "room"); (case x => first | assumption | omega); intro l' arr' k' h' tk' hg' hn' ho' hI'; have hb' := backL (by k_asm) (by k_asm) hg' hn' ho'; obtain ⟨F', N', o1'⟩ := hb'; (try simp only [LCg.Off1, and_true] at o1'))))
local macro_rules | `(tactic| walk_at "call ref") => `(tactic| (k_here; k_dflt (refine' poly_spec ?X ?T ?d ?l ?i ?_; (case X => k_in); (case T => walk_at "top"); (case d => walk_at "room"); (case l => walk_at "alist"); (case i => assumption); intro t' h' tk' hg'; have hb' := backI (by k_asm) (by k_asm) hg'; obtain ⟨F', N'⟩ := hb')))
local macro_rules | `(tactic| walk_at "call ref") => `(tactic| (k_here; k_dflt (refine' create_spec ?X ?T ?d ?x ?l ?i ?n ?_; (case X => k_in); (case T => walk_at "top"); (case d => walk_at "room"); (case x => first | assumption | omega); (case l => walk_at "alist"); (case i => assumption); (case n => walk_at "len"); intro l' arr' k' h' tk' hg' hn' ho' hI'; have hb' := backL (by k_asm) (by k_asm) hg' hn' ho'; obtain ⟨F', N', o1'⟩ := hb'; (try simp only [LCg.Off1, and_true] at o1'))))
local macro_rules | `(tactic| walk_at "call ref") => `(tactic| (k_here; k_dflt (refine' verify_spec ?X ?T ?d ?x ?l ?i ?n ?_; (case X => k_in); (case T => walk_at "top"); (case d => walk_at "room"); (case x => first | assumption | omega); (case l => walk_at "alist"); (case i => assumption); (case n => walk_at "len"); intro h' tk' hg'; have hb' := backI (by k_asm) (by k_asm) hg'; obtain ⟨F', N'⟩ := hb')))
local macro_rules | `(tactic| walk_at "slen") => `(tactic| ((try simp only [PySem.Str.length_append, len_one, len_one2, PySem.Str.length, Array.size_append, List.size_toArray, List.length_map, List.length_append, checkZ_len] at *); rw [sizeLine_eq]; omega))
local macro_rules | `(tactic| walk_at "binaryOp Add str str") => `(tactic| (k_dflt (refine' PyProof.Rows.add_str ?_ ?z; (case z => walk_at "slen"); intro t' tk')))
local macro_rules | `(tactic| walk_at "subscriptTail Name Name str int") => `(tactic| (k_dflt (refine item_str (x := CH) (fitsSsize_of (N := 9223372036854775808) (by omega) (by omega) (Int.le_refl _)) (by rw [ch_len]; omega) (by rw [ch_len]; omega) ?_; intro _)))
local macro_rules | `(tactic| walk_at "eval Name") => `(tactic| (k_here; (with_reducible show wpAny _ _ (eval (Expr.Name _ _) (genEnv _ _ _ _ _ _)) _ _ _); k_dflt (first
  | (refine nameG_L (by k_asm) (by assumption) ?_)
  | (refine nameG_K (by k_asm) (by k_asm) (by k_asm) (by rfl) (by k_is) ?_)
  | (refine nameG_B (by k_asm) (by k_asm) (by k_asm) (by rfl) (by k_is) (by boot_by_name) (by decide) ?_))))
local macro_rules | `(tactic| walk_at "call builtin:str.lower") => `(tactic| (refine KXs.lower_K (by assumption) (by omega) ?_; intro t' tk'))
local macro_rules | `(tactic| walk_at "call builtin:str.rfind") => `(tactic| (refine SC.rfind ?_; rw [text_rfind (by assumption)]))
local macro_rules | `(tactic| walk_at "compareOp NotEq str str") => `(tactic| (refine PyProof.Rows.ne_str ?_; rw [bne_self_eq_false]))
set_option maxHeartbeats 4000000 in
theorem decode_spec {w : World} {dp un : Nat} {fr : Option (List Env)} {gd : Option (List Code)} {E : Value → Shared → Prop} {s : Shared} {p : Program} {loose : List Str} {mean : ExcName → Option Value} {mg mb : Str → Option Value} {Q : Value → Shared → Prop}
    {x : Str} {tx : Tok} {ns : List Int} {ps : Array Value}
    (X : (Mine.hd.heap_39 w.params).In s.heap) (T : Top p loose mean mg mb s.heap) (C : CodeHd s.heap 47 45) (hP : s.heap.get? 45 = some (tabObj ps)) (ht : TriplesOk ps.toList) (hG : AllBare s.gens) (hd : dp + 16 < recursionLimit)
    (hx0 : 1 ≤ x.cps.size) (hx : x.cps.size ≤ 83) (hxc : ∀ c ∈ x.cps.toList, 33 ≤ c ∧ c ≤ 126 ∧ ¬ (65 ≤ c ∧ c ≤ 90)) (hn0 : 6 ≤ ns.length) (hn : ns.length ≤ 500) (hb : ∀ n ∈ ns, 0 ≤ n ∧ n < 32)
    (retOk : polyZ (expandZ x ++ ns) = 1 → ∀ l dl t arr k k' s' ps', s'.os = s.os → AllBare s'.gens → (∀ b o, b ≠ 45 → s.heap.get? b = some o → s'.heap.get? b = some o) → s'.heap.get? 45 = some (tabObj ps') → TriplesOk ps'.toList →
      (hideAll s.heap [45]).get? l = none → (hideAll s.heap [45]).get? dl = none → l ≠ dl → s'.heap.get? l = some { cls := .type "tuple", data := .seq #[.str x t, .ref dl] k } → s'.heap.get? dl = some (W.listOf arr k') → IntsAre arr.toList (ns.take (ns.length - 6)) → Q (.ref l) s')
    (retNo : polyZ (expandZ x ++ ns) ≠ 1 → ∀ l k s' ps', s'.os = s.os → AllBare s'.gens → (∀ b o, b ≠ 45 → s.heap.get? b = some o → s'.heap.get? b = some o) → s'.heap.get? 45 = some (tabObj ps') → TriplesOk ps'.toList →
      (hideAll s.heap [45]).get? l = none → s'.heap.get? l = some { cls := .type "tuple", data := .seq #[.none, .none] k } → Q (.ref l) s') :
    wpAny (model PySem.Challenge.rw_oo0007_02.row.prog w) (AA dp un fr gd) (call (.ref 48) [.str (textOf x ns) tx]) Q E s := by
  revert X; k_fill; intro X
  refine enterKH (binds := [("bech", .str (textOf x ns) tx)]) X T hP (by show dp < _; omega) (by k_is) (by k_is) (BindsTo.of_eq rfl) (locs rfl) ?_
  intro h₁ F N
  have Xg := hide_K hP X (by rfl)
  have Tg := hide_top hP T
  have Cg := hide_code hP C
  obtain ⟨bm, ob, M⟩ := bmod_of_top Tg
  have hst := text_still hxc hb
  have hlow := KXs.lower_still hst
  have hrf := text_rfind (x := x) hb
  have htl := text_len x ns
  walk_at "S"
  refine genStr (g := hideAll s.heap [45]) (q := fun _ => false) (by k_asm) Cg M Tg.nolimit (by rfl) (by rfl) (by rfl) (by rfl) (by decide) (by rfl) (by rfl) (by rfl) (by show dp + 1 < _; omega) ?_ (by intro _; rfl)
  walk_at "S"
  refine ⟨_, _, _, rfl, by k_asm, by k_asm, ht, hG, ?_, ?_⟩
  · intro C code A' E' a tk u m₂ hA hD hU ha F hm
    obtain ⟨c, hc, rfl⟩ := List.mem_map.mp ha
    have hcb := hst c hc
    have hg1 : ((⟨#[c]⟩ : Str).cps.getD 0 0) = c := rfl
    walk_at "S"
    all_goals first
      | (exfalso; rw [hg1] at *; omega)
      | (refine ⟨?_, _, _, rfl, fun _ _ e => e⟩; rw [hg1] at *; exact congrArg Value.bool (decide_eq_false (by omega)))
  · intro a Kb s₅ ps' hLK hPK F N ht' hG' hos hgen
    walk_at "S"
    refine any_genD F hG' hgen hLK ?_
    intro s₆ F6 hG6 hos6 hk6
    have N6 : News _ _ s₆.heap [(45, tabObj ps')] := fun q hq => by rw [List.mem_singleton.mp hq]; exact ⟨hk6 _ _ hPK (N _ (.head _)).1, (N _ (.head _)).2⟩
    have hany : ((List.filter (fun x => true) (signs (textOf x ns))).any fun k => false) = false := by simp
    rw [hany]
    clear hgen hany hk6 N F
    walk_at "S"
    refine genStr (g := hideAll s.heap [45]) (q := fun _ => true) (by k_asm) Cg M Tg.nolimit (by rfl) (by rfl) (by rfl) (by rfl) (by decide) (by rfl) (by rfl) (by rfl) (by show dp + 1 < _; omega) ?_ (by intro _; rfl)
    walk_at "S"
    refine ⟨⟨(ns.map signN).toArray⟩, _, _, by rw [text_tail], by k_asm, by k_asm, ht', hG6, ?_, ?_⟩
    · intro C code A' E' a tk u m₂ hA hD hU ha F hm
      obtain ⟨n, hn1, rfl⟩ := signs_text ha
      walk_at "S"
      exact ⟨congrArg Value.bool (in_sign (hb n hn1)), _, _, rfl, fun _ _ e => e⟩
    · intro a2 Kb2 s₇ ps2 hLK2 hPK2 F7 N7 ht2 hG7 hos7 hgen2
      walk_at "S"
      refine all_genD F7 hG7 hgen2 hLK2 ?_
      intro s₈ F8 hG8 hos8 hk8
      have N8 : News _ _ s₈.heap [(45, tabObj ps2)] := fun q hq => by rw [List.mem_singleton.mp hq]; exact ⟨hk8 _ _ hPK2 (N7 _ (.head _)).1, (N7 _ (.head _)).2⟩
      have hall : ((List.filter (fun x => true) (signs (⟨(ns.map signN).toArray⟩ : Str))).all fun k => true) = true := by simp
      rw [hall]
      clear hgen2 hall hk8 N7 F7
      walk_at "S"
      rename Fr _ _ _ _ => F9
      rw [text_head] at F9
      refine Assign_ListComp_S (F₀ := F9) (by rfl) (by with_unfolding_all rfl) (by with_unfolding_all rfl) (by decide) (by rfl) (by decide) (by rfl) (by rfl) (by rfl) ?_
      walk_at "S"
      refine ⟨⟨(ns.map signN).toArray⟩, _, _, by rw [text_tail], rfl, by k_asm, by k_asm, by rw [sizeLine_eq]; simp only [List.size_toArray, List.length_map]; omega, fun s9 ⟨g9, e9⟩ => ?_⟩
      subst e9
      refine compPure (fun i y => ∃ t, y = .int (ns.getD i 0) t) trivial ?_ ?_
      · rintro i ys v I oI C oC D m₂ h tk E' hi ⟨c, u, hc, rfl⟩ hC hm F N
        obtain ⟨n, hn1, rfl⟩ : ∃ n, ns[i]? = some n ∧ signN n = c := by
          have hc' : (ns.map signN)[i]? = some c := by simpa using hc
          rw [List.getElem?_map] at hc'
          obtain ⟨n, h1, h2⟩ := Option.map_eq_some_iff.mp hc'
          exact ⟨n, h1, h2⟩
        walk_at "S"
        refine ⟨?_, _, _, rfl, by k_asm, by k_asm⟩
        have e1 := find_sign (hb n (List.mem_of_getElem? hn1))
        have e2 : ns.getD i 0 = n := by simp [List.getD, hn1]
        unfold signS at e1
        rw [e2, e1]; exact ⟨_, rfl⟩
      · intro ys hl hR
        have hI2 := intsAre_of (ns := ns) (by simpa using hl) hR
        clear hR
        walk_at "FinA"
        walk_at "S"
        · rename News _ _ _ _ => N10
          rename Fr _ _ _ _ => F10
          refine retOk (by assumption) _ _ _ _ _ _ _ ps2 (hos8.trans (hos7.trans (hos6.trans hos))) hG8 (fun b o hb' e => F10.keep b o (hideAll_get _ e (by simpa using hb'))) (News.get N10 (by k_mem)) ht2
            (News.fresh N10 (.head _)) (News.fresh N10 (.tail _ (.head _))) ?_ (News.get N10 (.head _)) (News.get N10 (.tail _ (.head _))) (by assumption)
          intro e
          have h1 := News.get N10 (.head _)
          have h2 := News.get N10 (.tail _ (.head _))
          rw [e, h2] at h1
          have h3 := congrArg (fun o => o.map Obj.cls) h1
          exact absurd (Value.type.inj (Option.some.inj h3)) (by decide)
        · rename News _ _ _ _ => N10
          rename Fr _ _ _ _ => F10
          exact retNo (by assumption) _ _ _ ps2 (hos8.trans (hos7.trans (hos6.trans hos))) hG8 (fun b o hb' e => F10.keep b o (hideAll_get _ e (by simpa using hb'))) (News.get N10 (by k_mem)) ht2
            (News.fresh N10 (.head _)) (News.get N10 (.head _))
end Mine
end
section
open PySem PySem.W PySem.Calls PyProof.Rows
set_option maxRecDepth 100000
set_option linter.unusedVariables false
namespace Mine
def byStep (c : List Int × Int) : List Int × Int := (c.1 ++ c.1.map (fun e => Builtin.bitXor e c.2), Builtin.bitXor (c.2 * 2) (if c.2 > 15 then 41 else 0))
def byIter : Nat → Int → List Int × Int
  | 0, n => ([0], n)
  | k + 1, n => byStep (byIter k n)
def byZ (n : Int) : List Int := (byIter 5 n).1
def tabZ (c e : Int) : Int := (byZ c).getD e.toNat 0
theorem small_nat {n : Nat} (h : n ≤ 100) : Builtin.Range.small 0 (n : Int) 1 = true ∧ Builtin.Range.rangeSize 0 (n : Int) 1 = (n : Int) := by
  have H : ∀ k : Nat, k ≤ 100 → Builtin.Range.small 0 (k : Int) 1 = true ∧ Builtin.Range.rangeSize 0 (k : Int) 1 = (k : Int) := by decide +kernel
  exact H n h
abbrev low (a : Int) : Prop := 0 ≤ a ∧ a < 32
theorem low_nat {a : Int} (h : low a) : ∃ k : Nat, k < 32 ∧ a = (k : Int) := ⟨a.toNat, by obtain ⟨h0, h1⟩ := h; omega, by obtain ⟨h0, h1⟩ := h; omega⟩
theorem low_xor {a b : Int} (ha : low a) (hb : low b) : low (Builtin.bitXor a b) := by
  have H : ∀ i : Nat, i < 32 → ∀ j : Nat, j < 32 → 0 ≤ Builtin.bitXor (i : Int) (j : Int) ∧ Builtin.bitXor (i : Int) (j : Int) < 32 := by decide +kernel
  obtain ⟨i, hi, rfl⟩ := low_nat ha
  obtain ⟨j, hj, rfl⟩ := low_nat hb
  exact H i hi j hj
theorem low_tab {c : Int} (hc : low c) (e : Int) : low (tabZ c e) := by
  have H : ∀ i : Nat, i < 32 → ∀ x ∈ byZ (i : Int), 0 ≤ x ∧ x < 32 := by decide +kernel
  obtain ⟨i, hi, rfl⟩ := low_nat hc
  unfold tabZ
  rcases Nat.lt_or_ge e.toNat (byZ (i : Int)).length with h | h
  · rw [List.getD, List.getElem?_eq_getElem h]
    exact H i hi _ (List.getElem_mem h)
  · rw [List.getD, List.getElem?_eq_none h]; exact ⟨Int.le_refl _, by decide⟩
section
variable {prog : Program} {w : World} {A : Around} {E : Value → Shared → Prop} {s : Shared}
theorem byZ_len (n : Int) : (byZ n).length = 32 := by
  have H : ∀ (k : Nat) (n : Int), (byIter k n).1.length = 2 ^ k := by
    intro k n
    induction k with
    | zero => rfl
    | succ k ih => show (_ ++ List.map _ _).length = _; rw [List.length_append, List.length_map, ih, Nat.pow_succ]; omega
  exact H 5 n
theorem tab_item {value slice : Expr} {l : Addr} {arr : Array Value} {c k : Int} {u : Tok} {Q : Value → Shared → Prop} (hl : s.heap.IsList l arr) (hi : IntsAre arr.toList (byZ c)) (h0 : 0 ≤ k) (h1 : k < 32) (h : ∀ t, Q (.int (tabZ c k) t) s)
    (hs : subscripted slice false (.ref l) (.int k u) = operate [.ref l, .int k u] (getItem (.ref l) (.int k u)) := by with_unfolding_all rfl) (hg : ∀ r, letTemporaryGo value (.ref l) r = pure () := by intro _; with_unfolding_all rfl) :
    wpAny (model prog w) A (subscriptTail value slice (.ref l) (.int k u)) Q E s := by
  have hlt : k.toNat < (byZ c).length := by rw [byZ_len]; omega
  have hlen := hi.length
  have hv : arr.toList[k.toNat]? = some (arr.toList[k.toNat]'(by rw [hlen]; exact hlt)) := List.getElem?_eq_getElem _
  obtain ⟨n, t, e, hn⟩ := hi.at k.toNat _ hv
  refine item_list (x := .int (tabZ c k) t) hl h0 (by omega) ?_ (h t) hs hg
  rw [← Array.getElem?_toList, hv, e]
  unfold tabZ
  rw [List.getD, hn]; rfl
end
end Mine
end
section
open PySem PySem.W PySem.Calls PyProof.Rows
set_option maxRecDepth 100000
set_option linter.unusedVariables false
namespace Mine
open LCg

local macro_rules | `(tactic| walk_at "binaryOp LShift int int") => `(tactic| (refine lshift_int_small (by decide) (by decide) (bits_and25 _) ?_))
local macro_rules | `(tactic| walk_at "stop") => `(tactic| first
  | (with_reducible show wpAny _ _ (exec (Stmt.For _ _ _ _ _) _) _ _ _)
  | (with_reducible show wpAny _ _ (exec (Stmt.Assign _ (Expr.ListComp _ _ _ _) _) _) _ _ _)
  | (with_reducible show wpAny _ _ (exec (Stmt.While _ _ _ _) _) _ _ _)
  | (with_reducible show wpAny _ _ (eval (Expr.ListComp _ _ _ _) _) _ _ _)
  | (with_reducible show wpAny _ _ (eval (Expr.GeneratorExp _ _ _ _) _) _ _ _)
  | (with_reducible show wpAny _ _ (call (Value.builtin "any") _) _ _ _)
  | (with_reducible show wpAny _ _ (call (Value.builtin "all") _) _ _ _)
  | (with_reducible show wpAny _ _ (pyIter _) _ _ _))
local macro_rules | `(tactic| walk_at "S") => `(tactic| repeat' (first
  | (k_unfold; (try dsimp only))
  | ((with_reducible show Frag.In _ _ ∧ _); walk1)
  | (fail_if_success (k_end; skip)); (fail_if_success walk_at "stop"); first | walk1 | (dsimp only; walk1)))
local macro_rules | `(tactic| walk_at "one") => `(tactic| exact List.forall_mem_cons.mpr ⟨rfl, List.forall_mem_nil _⟩)
local macro_rules | `(tactic| walk_at "others") => `(tactic| (intro z h1 h2 h3; have h4 := h2 _ (.head _); simp only [kstB, if_neg h1, if_neg h4, h3, Bool.false_eq_true, if_false]))
local macro_rules | `(tactic| walk_at "len") => `(tactic| ((try simp only [List.length_append, List.length_cons, List.length_nil, List.length_map, expandZ_len, checkZ_len, rangeKs_length] at *); omega))
local macro_rules | `(tactic| walk_at "binaryOp Add ref ref") => `(tactic| (k_here; k_dflt (refine' addInts ?F ?N ?l ?b ?i ?j ?z ?_; (case F => k_asm); (case N => k_asm); (case l => walk_at "alist"); (case b => walk_at "alist"); (case i => first | assumption | l_ints); (case j => first | assumption | l_ints); (case z => walk_at "len"); intro D' arr' k' h' F' N' hI' o1'; (try simp only [LCg.Off1, and_true] at o1'))))
local macro_rules | `(tactic| walk_at "room") => `(tactic| (dsimp only [AA]; omega))
local macro_rules | `(tactic| walk_at "top") => `(tactic| exact Top.keeps (by assumption) (Fr.keep (by k_asm)))
local macro_rules | `(tactic| walk_at "alist") => `(tactic| first | (with_reducible assumption) | exact isList_in (by k_asm) (by k_mem) | (refine Heap.IsList.at (h := _) (by assumption) (fun o e => Fr.keep (by k_asm) _ o e)))
local macro_rules | `(tactic| walk_at "call ref") => `(tactic| (k_here; k_dflt (refine' expand_spec ?X ?T ?d ?x ?_; (case X => k_in); (case T => walk_at "top"); (case d => walk_at "room"); (case x => first | assumption | omega); intro l' arr' k' h' tk' hg' hn' ho' hI'; have hb' := backL (by k_asm) (by k_asm) hg' hn' ho'; obtain ⟨F', N', o1'⟩ := hb'; (try simp only [LCg.Off1, and_true] at o1'))))
local macro_rules | `(tactic| walk_at "call ref") => `(tactic| (k_here; k_dflt (refine' poly_spec ?X ?T ?d ?l ?i ?_; (case X => k_in); (case T => walk_at "top"); (case d => walk_at "room"); (case l => walk_at "alist"); (case i => assumption); intro t' h' tk' hg'; have hb' := backI (by k_asm) (by k_asm) hg'; obtain ⟨F', N'⟩ := hb')))
local macro_rules | `(tactic| walk_at "call ref") => `(tactic| (k_here; k_dflt (refine' create_spec ?X ?T ?d ?x ?l ?i ?n ?_; (case X => k_in); (case T => walk_at "top"); (case d => walk_at "room"); (case x => first | assumption | omega); (case l => walk_at "alist"); (case i => assumption); (case n => walk_at "len"); intro l' arr' k' h' tk' hg' hn' ho' hI'; have hb' := backL (by k_asm) (by k_asm) hg' hn' ho'; obtain ⟨F', N', o1'⟩ := hb'; (try simp only [LCg.Off1, and_true] at o1'))))
local macro_rules | `(tactic| walk_at "call ref") => `(tactic| (k_here; k_dflt (refine' verify_spec ?X ?T ?d ?x ?l ?i ?n ?_; (case X => k_in); (case T => walk_at "top"); (case d => walk_at "room"); (case x => first | assumption | omega); (case l => walk_at "alist"); (case i => assumption); (case n => walk_at "len"); intro h' tk' hg'; have hb' := backI (by k_asm) (by k_asm) hg'; obtain ⟨F', N'⟩ := hb')))
local macro_rules | `(tactic| walk_at "slen") => `(tactic| ((try simp only [PySem.Str.length_append, len_one, len_one2, PySem.Str.length, Array.size_append, List.size_toArray, List.length_map, List.length_append, checkZ_len] at *); rw [sizeLine_eq]; omega))
local macro_rules | `(tactic| walk_at "binaryOp Add str str") => `(tactic| (k_dflt (refine' PyProof.Rows.add_str ?_ ?z; (case z => walk_at "slen"); intro t' tk')))
local macro_rules | `(tactic| walk_at "subscriptTail Name Name str int") => `(tactic| (k_dflt (refine item_str (x := CH) (fitsSsize_of (N := 9223372036854775808) (by omega) (by omega) (Int.le_refl _)) (by rw [ch_len]; omega) (by rw [ch_len]; omega) ?_; intro _)))
local macro_rules | `(tactic| walk_at "eval Name") => `(tactic| (k_here; (with_reducible show wpAny _ _ (eval (Expr.Name _ _) (genEnv _ _ _ _ _ _)) _ _ _); k_dflt (first
  | (refine nameG_L (by k_asm) (by assumption) ?_)
  | (refine nameG_K (by k_asm) (by k_asm) (by k_asm) (by rfl) (by k_is) ?_)
  | (refine nameG_B (by k_asm) (by k_asm) (by k_asm) (by rfl) (by k_is) (by boot_by_name) (by decide) ?_))))

def atZ (ns : List Int) (k d : Int) : Int := if (ns.length : Int) > k then ns.getD k.toNat 0 else d
set_option maxHeartbeats 4000000 in
theorem at_spec {w : World} {dp un : Nat} {fr : Option (List Env)} {gd : Option (List Code)} {E : Value → Shared → Prop} {s : Shared} {p : Program} {loose : List Str} {mean : ExcName → Option Value} {mg mb : Str → Option Value} {Q : Value → Shared → Prop}
    {l : Addr} {arr : Array Value} {ns : List Int} {k d : Int} {tk td : Tok}
    (X : (Mine.hd.heap_39 w.params).In s.heap) (T : Top p loose mean mg mb s.heap) (hd : dp + 4 < recursionLimit)
    (hl : s.heap.IsList l arr) (hi : IntsAre arr.toList ns) (hn : ns.length ≤ 1000) (hk : 0 ≤ k)
    (ret : ∀ t h' tk', Grow s h' → Q (.int (atZ ns k d) t) { s with heap := h', toks := tk' }) :
    wpAny (model PySem.Challenge.rw_oo0007_02.row.prog w) (AA dp un fr gd) (call (.ref 69) [.ref l, .int k tk, .int d td]) Q E s := by
  revert X; k_fill; intro X
  refine enterK (binds := [("script", .ref l), ("k", .int k tk), ("other", .int d td)]) X T (by show dp < _; omega) (by k_is) (by k_is) (BindsTo.of_eq rfl) (locs rfl) ?_
  intro h₁ F N
  have hlen := hi.length
  walk_at "S"
  · have e : atZ ns k d = ns.getD k.toNat 0 := by unfold atZ; rw [if_pos (by assumption)]
    rw [← e]; exact ret _ _ _ F.keep
  · have e : atZ ns k d = d := by unfold atZ; rw [if_neg (by assumption)]
    rw [e] at ret; exact ret _ _ _ F.keep


set_option maxHeartbeats 4000000 in
theorem digits_spec {w : World} {dp un : Nat} {fr : Option (List Env)} {gd : Option (List Code)} {E : Value → Shared → Prop} {s : Shared} {p : Program} {loose : List Str} {mean : ExcName → Option Value} {mg mb : Str → Option Value} {Q : Value → Shared → Prop}
    {n b m : Int} {tn tb tm : Tok}
    (X : (Mine.hd.heap_39 w.params).In s.heap) (T : Top p loose mean mg mb s.heap) (hd : dp + 4 < recursionLimit)
    (hb0 : 2 ≤ b) (hb : b ≤ 100) (hm : m ≤ 100)
    (ret : ∀ l arr k h' tk' ds, Grow s h' → s.heap.get? l = none → h'.get? l = some (W.listOf arr k) → IntsAre arr.toList ds → 1 ≤ ds.length → ((ds.length : Int) ≤ m ∨ ds.length = 1) → (∀ d ∈ ds, 0 ≤ d ∧ d < b) → Q (.ref l) { s with heap := h', toks := tk' }) :
    wpAny (model PySem.Challenge.rw_oo0007_02.row.prog w) (AA dp un fr gd) (call (.ref 76) [.int n tn, .int b tb, .int m tm]) Q E s := by
  revert X; k_fill; intro X
  refine enterK (binds := [("number", .int n tn), ("base", .int b tb), ("most", .int m tm)]) X T (by show dp < _; omega) (by k_is) (by k_is) (BindsTo.of_eq rfl) (locs rfl) ?_
  intro h₁ F N
  walk_at "S"
  refine ksw_while (h₀ := s.heap) (σ := (Int × Tok) × (Array Value × Nat × List Int)) (fun c => [(_, W.listOf c.2.1 c.2.2.1)]) (fun c => [("number", .int c.1.1 c.1.2)]) (fun _ => True) []
    (fun c => 0 ≤ c.1.1 ∧ IntsAre c.2.1.toList c.2.2.2 ∧ 1 ≤ c.2.2.2.length ∧ (((c.2.2.2.length : Nat) : Int) ≤ m ∨ c.2.2.2.length = 1) ∧ ∀ d ∈ c.2.2.2, 0 ≤ d ∧ d < b) (fun c => 101 - c.2.2.2.length)
    ((_, _), (_, 0, [(if n < 0 then -n else n).fmod b])) (by k_asm) (by k_asm) trivial (by walk_at "one") ?_ ?_
  · refine ⟨by show 0 ≤ (if n < 0 then -n else n); split <;> omega, .cons _ _ .nil, Nat.le_refl _, Or.inr rfl, fun d hd => ?_⟩
    obtain rfl := List.mem_singleton.mp hd
    exact ⟨Int.fmod_nonneg_of_pos _ (by omega), Int.fmod_lt_of_pos _ (by omega)⟩
  · rintro c u h tk _ ⟨h0, hI, h1, h2, h3⟩ F N
    have hlen := hI.length
    rw [Array.length_toList] at hlen
    walk_at "S"
    · refine ksw_end (c' := ((_, _), (_, _, c.2.2.2 ++ [(c.1.1.fdiv b).fmod b]))) (by k_asm) (by k_asm) (fun p hp => hp) trivial (by walk_at "one") ?_ ⟨?_, ?_, ?_, ?_, ?_⟩ ?_
      · intro z h2 h3
        have h4 := h2 _ (.head _)
        simp only [kstB, if_neg h4, h3, Bool.false_eq_true, if_false]
      · exact Int.fdiv_nonneg h0 (by omega)
      · rw [Array.toList_push]; exact hI.append (.cons _ _ .nil)
      · rw [List.length_append]; omega
      · refine Or.inl ?_
        show ((List.length _ : Nat) : Int) ≤ m
        rw [List.length_append, List.length_singleton]; omega
      · intro d hd
        rcases List.mem_append.mp hd with hd | hd
        · exact h3 d hd
        · obtain rfl := List.mem_singleton.mp hd
          exact ⟨Int.fmod_nonneg_of_pos _ (by omega), Int.fmod_lt_of_pos _ (by omega)⟩
      · show 101 - List.length _ < _
        rw [List.length_append, List.length_singleton]; omega
    · exact ret _ _ _ _ _ c.2.2.2 (Fr.keep (by k_asm)) (News.fresh (by k_asm) (.head _)) (News.get (by k_asm) (.head _)) hI h1 h2 h3
    · exact ret _ _ _ _ _ c.2.2.2 (Fr.keep (by k_asm)) (News.fresh (by k_asm) (.head _)) (News.get (by k_asm) (.head _)) hI h1 h2 h3
end Mine
end
section
open PySem PySem.W PySem.Calls PyProof.Rows
set_option maxRecDepth 100000
set_option linter.unusedVariables false
namespace Mine
open LCg

local macro_rules | `(tactic| walk_at "binaryOp LShift int int") => `(tactic| (refine lshift_int_small (by decide) (by decide) (bits_and25 _) ?_))
local macro_rules | `(tactic| walk_at "stop") => `(tactic| first
  | (with_reducible show wpAny _ _ (exec (Stmt.For _ _ _ _ _) _) _ _ _)
  | (with_reducible show wpAny _ _ (exec (Stmt.Assign _ (Expr.ListComp _ _ _ _) _) _) _ _ _)
  | (with_reducible show wpAny _ _ (exec (Stmt.While _ _ _ _) _) _ _ _)
  | (with_reducible show wpAny _ _ (eval (Expr.ListComp _ _ _ _) _) _ _ _)
  | (with_reducible show wpAny _ _ (eval (Expr.GeneratorExp _ _ _ _) _) _ _ _)
  | (with_reducible show wpAny _ _ (call (Value.builtin "any") _) _ _ _)
  | (with_reducible show wpAny _ _ (call (Value.builtin "all") _) _ _ _)
  | (with_reducible show wpAny _ _ (pyIter _) _ _ _))
local macro_rules | `(tactic| walk_at "S") => `(tactic| repeat' (first
  | (k_unfold; (try dsimp only))
  | ((with_reducible show Frag.In _ _ ∧ _); walk1)
  | (fail_if_success (k_end; skip)); (fail_if_success walk_at "stop"); first | walk1 | (dsimp only; walk1)))
local macro_rules | `(tactic| walk_at "one") => `(tactic| exact List.forall_mem_cons.mpr ⟨rfl, List.forall_mem_nil _⟩)
local macro_rules | `(tactic| walk_at "others") => `(tactic| (intro z h1 h2 h3; have h4 := h2 _ (.head _); simp only [kstB, if_neg h1, if_neg h4, h3, Bool.false_eq_true, if_false]))
local macro_rules | `(tactic| walk_at "len") => `(tactic| ((try simp only [List.length_append, List.length_cons, List.length_nil, List.length_map, expandZ_len, checkZ_len, rangeKs_length] at *); omega))
local macro_rules | `(tactic| walk_at "binaryOp Add ref ref") => `(tactic| (k_here; k_dflt (refine' addInts ?F ?N ?l ?b ?i ?j ?z ?_; (case F => k_asm); (case N => k_asm); (case l => walk_at "alist"); (case b => walk_at "alist"); (case i => first | assumption | l_ints); (case j => first | assumption | l_ints); (case z => walk_at "len"); intro D' arr' k' h' F' N' hI' o1'; (try simp only [LCg.Off1, and_true] at o1'))))
local macro_rules | `(tactic| walk_at "room") => `(tactic| (dsimp only [AA]; omega))
local macro_rules | `(tactic| walk_at "top") => `(tactic| exact Top.keeps (by assumption) (Fr.keep (by k_asm)))
local macro_rules | `(tactic| walk_at "alist") => `(tactic| first | (with_reducible assumption) | exact isList_in (by k_asm) (by k_mem) | (refine Heap.IsList.at (h := _) (by assumption) (fun o e => Fr.keep (by k_asm) _ o e)))
local macro_rules | `(tactic| walk_at "call ref") => `(tactic| (k_here; k_dflt (refine' expand_spec ?X ?T ?d ?x ?_; (case X => k_in); (case T => walk_at "top"); (case d => walk_at "room"); (case x => first | assumption | omega); intro l' arr' k' h' tk' hg' hn' ho' hI'; have hb' := backL (by k_asm) (by k_asm) hg' hn' ho'; obtain ⟨F', N', o1'⟩ := hb'; (try simp only [LCg.Off1, and_true] at o1'))))
local macro_rules | `(tactic| walk_at "call ref") => `(tactic| (k_here; k_dflt (refine' poly_spec ?X ?T ?d ?l ?i ?_; (case X => k_in); (case T => walk_at "top"); (case d => walk_at "room"); (case l => walk_at "alist"); (case i => assumption); intro t' h' tk' hg'; have hb' := backI (by k_asm) (by k_asm) hg'; obtain ⟨F', N'⟩ := hb')))
local macro_rules | `(tactic| walk_at "call ref") => `(tactic| (k_here; k_dflt (refine' create_spec ?X ?T ?d ?x ?l ?i ?n ?_; (case X => k_in); (case T => walk_at "top"); (case d => walk_at "room"); (case x => first | assumption | omega); (case l => walk_at "alist"); (case i => assumption); (case n => walk_at "len"); intro l' arr' k' h' tk' hg' hn' ho' hI'; have hb' := backL (by k_asm) (by k_asm) hg' hn' ho'; obtain ⟨F', N', o1'⟩ := hb'; (try simp only [LCg.Off1, and_true] at o1'))))
local macro_rules | `(tactic| walk_at "call ref") => `(tactic| (k_here; k_dflt (refine' verify_spec ?X ?T ?d ?x ?l ?i ?n ?_; (case X => k_in); (case T => walk_at "top"); (case d => walk_at "room"); (case x => first | assumption | omega); (case l => walk_at "alist"); (case i => assumption); (case n => walk_at "len"); intro h' tk' hg'; have hb' := backI (by k_asm) (by k_asm) hg'; obtain ⟨F', N'⟩ := hb')))
local macro_rules | `(tactic| walk_at "slen") => `(tactic| ((try simp only [PySem.Str.length_append, len_one, len_one2, PySem.Str.length, Array.size_append, List.size_toArray, List.length_map, List.length_append, checkZ_len] at *); rw [sizeLine_eq]; omega))
local macro_rules | `(tactic| walk_at "binaryOp Add str str") => `(tactic| (k_dflt (refine' PyProof.Rows.add_str ?_ ?z; (case z => walk_at "slen"); intro t' tk')))
local macro_rules | `(tactic| walk_at "subscriptTail Name Name str int") => `(tactic| (k_dflt (refine item_str (x := CH) (fitsSsize_of (N := 9223372036854775808) (by omega) (by omega) (Int.le_refl _)) (by rw [ch_len]; omega) (by rw [ch_len]; omega) ?_; intro _)))
local macro_rules | `(tactic| walk_at "eval Name") => `(tactic| (k_here; (with_reducible show wpAny _ _ (eval (Expr.Name _ _) (genEnv _ _ _ _ _ _)) _ _ _); k_dflt (first
  | (refine nameG_L (by k_asm) (by assumption) ?_)
  | (refine nameG_K (by k_asm) (by k_asm) (by k_asm) (by rfl) (by k_is) ?_)
  | (refine nameG_B (by k_asm) (by k_asm) (by k_asm) (by rfl) (by k_is) (by boot_by_name) (by decide) ?_))))
local macro_rules | `(tactic| walk_at "call builtin:len") => `(tactic| (k_here; (with_reducible show wpAny _ _ (call (Value.builtin "len") [Value.ref _]) _ _ _); k_dflt (refine' PyProof.Rows.len_list ?l ?z ?_; (case l => walk_at "alist"); (case z => walk_at "len"))))

theorem byIter_len (k : Nat) (n : Int) : (byIter k n).1.length = 2 ^ k := by
  induction k with
  | zero => rfl
  | succ k ih => show (_ ++ List.map _ _).length = _; rw [List.length_append, List.length_map, ih, Nat.pow_succ]; omega
theorem xstep_pos {n : Int} (h : 15 < n) (hb : n < 32) : 0 ≤ Builtin.bitXor (n * 2) 41 ∧ Builtin.bitXor (n * 2) 41 < 32 := by
  have H : ∀ k : Nat, k < 32 → 15 < k → 0 ≤ Builtin.bitXor ((k : Int) * 2) 41 ∧ Builtin.bitXor ((k : Int) * 2) 41 < 32 := by decide +kernel
  obtain ⟨k, rfl⟩ := Int.eq_ofNat_of_zero_le (by omega : 0 ≤ n)
  exact H k (by omega) (by omega)
theorem xstep_neg {n : Int} (h0 : 0 ≤ n) (h : ¬ 15 < n) (hb : n < 32) : 0 ≤ Builtin.bitXor (n * 2) 0 ∧ Builtin.bitXor (n * 2) 0 < 32 := by
  have H : ∀ k : Nat, k < 16 → 0 ≤ Builtin.bitXor ((k : Int) * 2) 0 ∧ Builtin.bitXor ((k : Int) * 2) 0 < 32 := by decide +kernel
  obtain ⟨k, rfl⟩ := Int.eq_ofNat_of_zero_le h0
  exact H k (by omega)
set_option maxHeartbeats 4000000 in
theorem by_spec {w : World} {dp un : Nat} {fr : Option (List Env)} {gd : Option (List Code)} {E : Value → Shared → Prop} {s : Shared} {p : Program} {loose : List Str} {mean : ExcName → Option Value} {mg mb : Str → Option Value} {Q : Value → Shared → Prop}
    {n : Int} {tn : Tok}
    (X : (Mine.hd.heap_39 w.params).In s.heap) (T : Top p loose mean mg mb s.heap) (hd : dp + 4 < recursionLimit) (hn0 : 0 ≤ n) (hn : n < 32)
    (ret : ∀ l arr k h' tk', Grow s h' → s.heap.get? l = none → h'.get? l = some (W.listOf arr k) → IntsAre arr.toList (byZ n) → Q (.ref l) { s with heap := h', toks := tk' }) :
    wpAny (model PySem.Challenge.rw_oo0007_02.row.prog w) (AA dp un fr gd) (call (.ref 81) [.int n tn]) Q E s := by
  revert X; k_fill; intro X
  refine enterKC (binds := [("number", .int n tn)]) X T (by show dp < _; omega) (by k_is) (by k_is) (BindsTo.of_eq rfl) (by rfl) (by decide +kernel) ?_
  intro h₁ tk cells F N Y
  k_cells Y
  walk_at "S"
  refine ksw_while (h₀ := s.heap) (σ := (Addr × Array Value × Nat) × (Int × Tok × Obj) × Nat) (fun c => [(c.1.1, W.listOf c.1.2.1 c.1.2.2), (s.heap.objs.size + 1, c.2.1.2.2)]) (fun c => [("table", .ref c.1.1)])
    (fun c => c.2.1.2.2.data = .cell (some (.int c.2.1.1 c.2.1.2.1)) ∧ @Ne Nat c.1.1 (s.heap.objs.size + 1)) []
    (fun c => c.2.2 ≤ 5 ∧ IntsAre c.1.2.1.toList (byIter c.2.2 n).1 ∧ c.2.1.1 = (byIter c.2.2 n).2 ∧ 0 ≤ c.2.1.1 ∧ c.2.1.1 < 32) (fun c => 5 - c.2.2)
    ((_, _, _), (n, tn, _), 0) (by k_asm) (by k_asm) ⟨by assumption, ?_⟩ (by walk_at "one") ⟨Nat.zero_le 5, .cons 0 _ .nil, rfl, hn0, hn⟩ ?_
  · exact Nat.ne_of_gt (by with_reducible assumption)
  · rintro ⟨⟨D, arr, k⟩, ⟨n', t', o⟩, i⟩ u h tk ⟨hd, hne⟩ ⟨h5, hI, hn', hb0, hb⟩ F N
    have hlen := hI.length
    rw [Array.length_toList, byIter_len] at hlen
    have h32 : arr.size ≤ 32 := by rw [hlen]; exact Nat.pow_le_pow_right (by decide) h5
    dsimp only at hd hne h5 hI hn' hb0 hb F N hlen
    walk_at "S"
    · have i5 : i < 5 := by
        rcases Nat.lt_or_ge i 5 with h | h
        · exact h
        · have : (2:Nat) ^ 5 ≤ 2 ^ i := Nat.pow_le_pow_right (by decide) h
          omega
      have h16 : (2:Nat) ^ i ≤ 2 ^ 4 := Nat.pow_le_pow_right (by decide) (by omega)
      generalize hq : (2:Nat) ^ i = q at *
      refine ListComp_U (F₀ := by k_asm) (by with_unfolding_all rfl) (by decide) (by rfl) (by decide) (by rfl) ?_
      walk_at "S"
      refine CompSrc.ledger (by rfl) (by k_asm) (by k_asm) (by k_mem) (by rw [sizeLine_eq]; omega) ?_
      intro g
      refine compPure (fun j y => ∃ t, y = .int (((byIter i n).1.map (fun e => Builtin.bitXor e n')).getD j 0) t) (.inr ⟨_, .head _, rfl, _, rfl⟩) ?_ ?_
      · intro j ys v I oI C oC D' m₂ h tk E' hj hv hC hm F N
        obtain ⟨e, t, rfl, he⟩ := hI.at j v (by simpa using hv)
        walk_at "S"
        refine ⟨?_, _, _, rfl, by k_asm, by k_asm⟩
        have e2 : ((byIter i n).1.map (fun e => Builtin.bitXor e n')).getD j 0 = Builtin.bitXor e n' := by simp only [List.getD, List.getElem?_map, he, Option.map_some, Option.getD_some]
        rw [e2]
        exact ⟨_, rfl⟩
      · intro ys hl hR
        have hI2 := intsAre_of (ns := (byIter i n).1.map (fun e => Builtin.bitXor e n')) (by rw [hl, List.length_map, byIter_len, hlen, hq]) hR
        have hl2 := hI2.length
        rw [List.length_map, byIter_len, hq] at hl2
        have hlb := byIter_len i n
        rw [hq] at hlb
        clear hR
        walk_at "FinE"
        walk_at "S"
        · have hx := xstep_pos (by with_reducible assumption) hb
          refine ksw_end (c' := ((_, _, _), (Builtin.bitXor (n' * 2) 41, _, _), i + 1)) (by k_asm) (by k_asm) (List.forall_mem_cons.mpr ⟨by k_mem, List.forall_mem_cons.mpr ⟨by k_mem, List.forall_mem_nil _⟩⟩) ⟨by assumption, ?_⟩ (by walk_at "one") ?_ ⟨i5, ?_, ?_, hx.1, hx.2⟩ ?_
          · exact Ne.symm (And.right (And.right (by with_reducible assumption : (_ ≠ _) ∧ (_ ≠ _) ∧ s.heap.objs.size + 1 ≠ _)))
          · intro z h2 h3
            have h4 := h2 _ (.head _)
            simp only [kstB, if_neg h4, List.contains_nil, Bool.false_eq_true, if_false]
          · show IntsAre _ ((byIter i n).1 ++ (byIter i n).1.map (fun e => Builtin.bitXor e (byIter i n).2))
            rw [← hn']; assumption
          · show _ = Builtin.bitXor ((byIter i n).2 * 2) (if (byIter i n).2 > 15 then 41 else 0)
            rw [← hn', if_pos (by with_reducible assumption)]
          · show 5 - (i + 1) < 5 - i
            omega
        · have hx := xstep_neg hb0 (by with_reducible assumption) hb
          refine ksw_end (c' := ((_, _, _), (Builtin.bitXor (n' * 2) 0, _, _), i + 1)) (by k_asm) (by k_asm) (List.forall_mem_cons.mpr ⟨by k_mem, List.forall_mem_cons.mpr ⟨by k_mem, List.forall_mem_nil _⟩⟩) ⟨by assumption, ?_⟩ (by walk_at "one") ?_ ⟨i5, ?_, ?_, hx.1, hx.2⟩ ?_
          · exact Ne.symm (And.right (And.right (by with_reducible assumption : (_ ≠ _) ∧ (_ ≠ _) ∧ s.heap.objs.size + 1 ≠ _)))
          · intro z h2 h3
            have h4 := h2 _ (.head _)
            simp only [kstB, if_neg h4, List.contains_nil, Bool.false_eq_true, if_false]
          · show IntsAre _ ((byIter i n).1 ++ (byIter i n).1.map (fun e => Builtin.bitXor e (byIter i n).2))
            rw [← hn']; assumption
          · show _ = Builtin.bitXor ((byIter i n).2 * 2) (if (byIter i n).2 > 15 then 41 else 0)
            rw [← hn', if_neg (by with_reducible assumption)]
          · show 5 - (i + 1) < 5 - i
            omega
    · have i5 : i = 5 := by
        rcases Nat.lt_or_ge i 5 with h | h
        · exfalso
          have : (2:Nat) ^ i ≤ 2 ^ 4 := Nat.pow_le_pow_right (by decide) (by omega)
          omega
        · omega
      subst i5
      exact ret _ _ _ _ _ (Fr.keep (by k_asm)) (News.fresh (by k_asm) (.head _)) (News.get (by k_asm) (.head _)) hI
end Mine
end
section
open PySem PySem.W PySem.Calls PyProof.Rows
set_option maxRecDepth 100000
set_option linter.unusedVariables false
namespace Mine
open LCg
/-- what holds between two turns -/
def StJ {σ : Type} (Led : σ → List (Addr × Obj)) (ps : σ → List (Str × Value)) (stored : List Str) (x : Str) (m₀ : Str → Option Value) (P : Nat → σ → Prop) (i : Nat) (m : Str → Option Value) (nx : List (Addr × Obj)) : Prop :=
  ∃ c, nx = Led c ∧ (∀ p ∈ ps c, m p.1 = some p.2) ∧ (∀ z, z ≠ x → (∀ p ∈ ps c, z ≠ p.1) → stored.contains z = false → m z = m₀ z) ∧ P i c
def stM (stored : List Str) (ps : List (Str × Value)) (m₀ u : Str → Option Value) : Str → Option Value := kstB (fun z => if stored.contains z then u z else m₀ z) ps
theorem stM_eq {σ : Type} {Led : σ → List (Addr × Obj)} {ps : σ → List (Str × Value)} {stored : List Str} {x : Str} {m₀ m : Str → Option Value} {c : σ} (hk : ∀ p ∈ ps c, m p.1 = some p.2) (hr : ∀ z, z ≠ x → (∀ p ∈ ps c, z ≠ p.1) → stored.contains z = false → m z = m₀ z) {z : Str} (hz : z ≠ x) :
    kstB (fun z => if stored.contains z then m z else m₀ z) (ps c) z = m z := by
  refine kstB_eq hk fun hn => ?_
  show (if stored.contains z = true then m z else m₀ z) = m z
  cases h3 : stored.contains z with
  | true => rfl
  | false => simp only [Bool.false_eq_true, if_false]; exact (hr z hz hn h3).symm
theorem stM_v {σ : Type} {ps : σ → List (Str × Value)} {stored : List Str} {x : Str} {m₀ m : Str → Option Value} {c : σ} {v : Option Value} (hk : ∀ p ∈ ps c, m p.1 = some p.2) (hr : ∀ z, z ≠ x → (∀ p ∈ ps c, z ≠ p.1) → stored.contains z = false → m z = m₀ z) :
    (fun y => if y = x then v else m y) = (fun y => if y = x then v else kstB (fun z => if stored.contains z then m z else m₀ z) (ps c) y) := by
  funext y
  by_cases e : y = x
  · rw [if_pos e, if_pos e]
  · rw [if_neg e, if_neg e]; exact (stM_eq (Led := fun _ => []) hk hr e).symm
theorem stM_x {σ : Type} {ps : σ → List (Str × Value)} {stored : List Str} {x : Str} {m₀ m : Str → Option Value} {c : σ} (hk : ∀ p ∈ ps c, m p.1 = some p.2) (hr : ∀ z, z ≠ x → (∀ p ∈ ps c, z ≠ p.1) → stored.contains z = false → m z = m₀ z) :
    m = (fun y => if y = x then m y else kstB (fun z => if stored.contains z then m z else m₀ z) (ps c) y) := by
  funext y
  by_cases e : y = x
  · rw [if_pos e]
  · rw [if_neg e]; exact (stM_eq (Led := fun _ => []) hk hr e).symm
section
variable {prog : Program} {w : World} {A : Around} {E : Value → Shared → Prop} {s : Shared} {env : Env} {h₀ : Heap} {x : Str} {body : List Stmt} {Q : Flow → Shared → Prop}
theorem stList {σ : Type} {ax : Addr} {its : Array Value} {m₀ : Str → Option Value} (G : Shared → Prop) (Led : σ → List (Addr × Obj)) (ps : σ → List (Str × Value)) (stored : List Str) (P : Nat → σ → Prop) (c₀ : σ)
    (hh : A.handled = none) (F : Fr h₀ env.locals s.heap m₀) (N : News h₀ env.locals s.heap (Led c₀)) (hS : ∀ c, SrcAt h₀ ax its (Led c)) (hg : G s) (hG : ∀ s h tk, G s → G { s with heap := h, toks := tk })
    (hk : ∀ p ∈ ps c₀, m₀ p.1 = some p.2) (hp : P 0 c₀)
    (turn : ∀ i v c (u : Str → Option Value) s₂ I oI, its[i]? = some v → P i c → G s₂ → Fr h₀ env.locals s₂.heap (fun y => if y = x then some v else kstB (fun z => if stored.contains z then u z else m₀ z) (ps c) y) →
      News h₀ env.locals s₂.heap ((I, oI) :: Led c) → Off1 I (Led c) →
      wpAny (model prog w) A (execs body env) (TurnEnd h₀ env.locals I oI G (SrcAt h₀ ax its) (StJ Led ps stored x m₀ P (i + 1)) Q) (fun _ _ => False) s₂)
    (done : ∀ c (u : Str → Option Value) s', G s' → P its.size c → Fr h₀ env.locals s'.heap (fun y => if y = x then u y else kstB (fun z => if stored.contains z then u z else m₀ z) (ps c) y) → News h₀ env.locals s'.heap (Led c) → Q .next s') :
    AtList prog w A h₀ env x body Q (.ref ax) s := by
  refine ⟨ax, its, Led c₀, m₀, G, StJ Led ps stored x m₀ P, rfl, hh, F, N, hS c₀, hg, ⟨c₀, rfl, hk, fun _ _ _ _ => rfl, hp⟩, hG, ?_, ?_⟩
  · rintro i v m₁ news₁ s₂ I oI hv ⟨c, rfl, hk', hr', hp'⟩ hg' F' N' off S'
    refine turn i v c m₁ s₂ I oI hv hp' hg' ?_ N' off
    rw [stM_v hk' hr'] at F'
    exact F'
  · rintro s' m' news' hg' F' N' ⟨c, rfl, hk', hr', hp'⟩
    refine done c m' s' hg' hp' ?_ N'
    rw [stM_x hk' hr'] at F'
    exact F'
theorem stRange {σ : Type} {r : Addr} {a b : Int} {t u₀ v₀ : Tok} {n : Nat} {m₀ : Str → Option Value} (G : Shared → Prop) (Led : σ → List (Addr × Obj)) (ps : σ → List (Str × Value)) (stored : List Str) (P : Nat → σ → Prop) (c₀ : σ)
    (hh : A.handled = none) (F : Fr h₀ env.locals s.heap m₀) (N : News h₀ env.locals s.heap (Led c₀)) (hr : IsRange s.heap r a b 1 t u₀ v₀) (hsm : Builtin.Range.small a b 1 = true) (hn : Builtin.Range.rangeSize a b 1 = ((n : Nat) : Int)) (hg : G s) (hG : ∀ s h tk, G s → G { s with heap := h, toks := tk })
    (hk : ∀ p ∈ ps c₀, m₀ p.1 = some p.2) (hp : P 0 c₀)
    (turn : ∀ i t c (u : Str → Option Value) s₂ I oI, i < n → P i c → G s₂ → Fr h₀ env.locals s₂.heap (fun y => if y = x then some (.int (a + (i : Int)) t) else kstB (fun z => if stored.contains z then u z else m₀ z) (ps c) y) →
      News h₀ env.locals s₂.heap ((I, oI) :: Led c) → Off1 I (Led c) →
      wpAny (model prog w) A (execs body env) (TurnEnd h₀ env.locals I oI G (fun _ => True) (StJ Led ps stored x m₀ P (i + 1)) Q) (fun _ _ => False) s₂)
    (done : ∀ c (u : Str → Option Value) s', G s' → P n c → Fr h₀ env.locals s'.heap (fun y => if y = x then u y else kstB (fun z => if stored.contains z then u z else m₀ z) (ps c) y) → News h₀ env.locals s'.heap (Led c) → Q .next s') :
    AtRange prog w A h₀ env x body Q (.ref r) s := by
  refine ⟨r, a, b, t, u₀, v₀, n, Led c₀, m₀, G, StJ Led ps stored x m₀ P, rfl, hh, F, N, hr, hsm, hn, hg, ⟨c₀, rfl, hk, fun _ _ _ _ => rfl, hp⟩, hG, ?_, ?_⟩
  · rintro i t m₁ news₁ s₂ I oI hv ⟨c, rfl, hk', hr', hp'⟩ hg' F' N' off
    refine turn i t c m₁ s₂ I oI hv hp' hg' ?_ N' off
    rw [stM_v hk' hr'] at F'
    exact F'
  · rintro s' m' news' hg' F' N' ⟨c, rfl, hk', hr', hp'⟩
    refine done c m' s' hg' hp' ?_ N'
    rw [stM_x hk' hr'] at F'
    exact F'
theorem stEnd {σ : Type} {L I : Addr} {oI : Obj} {G : Shared → Prop} {S : List (Addr × Obj) → Prop} {Led : σ → List (Addr × Obj)} {ps : σ → List (Str × Value)} {stored : List Str} {m₀ m' : Str → Option Value} {P : Nat → σ → Prop} {i : Nat} {news' : List (Addr × Obj)} {s₂ : Shared} (c' : σ)
    (F : Fr h₀ L s₂.heap m') (N : News h₀ L s₂.heap news') (hn : ∀ p ∈ (I, oI) :: Led c', p ∈ news') (off : Off1 I (Led c')) (hS : S (Led c')) (hg : G s₂) (hk : ∀ p ∈ ps c', m' p.1 = some p.2)
    (hr : ∀ z, z ≠ x → (∀ p ∈ ps c', z ≠ p.1) → stored.contains z = false → m' z = m₀ z) (hp : P i c') :
    TurnEnd h₀ L I oI G S (StJ Led ps stored x m₀ P i) Q .next s₂ :=
  ⟨hg, m', Led c', F, fun p hp => N p (hn p hp), off, hS, c', rfl, hk, hr, hp⟩
end

/-- decode's state, seen from the caller's frame -/
theorem backD {h₀ : Heap} {L : Addr} {m : Str → Option Value} {s : Shared} {pre : List (Addr × Obj)} {ps ps' : Array Value} {h' : Heap} (F : Fr h₀ L s.heap m) (N : News h₀ L s.heap (pre ++ [(45, tabObj ps)])) (hc : ∀ p ∈ pre, p.2.cls ≠ .none)
    (hk : ∀ b o, b ≠ 45 → s.heap.get? b = some o → h'.get? b = some o) (h46 : h'.get? 45 = some (tabObj ps')) :
    Fr h₀ L h' m ∧ News h₀ L h' (pre ++ [(45, tabObj ps')]) ∧ ∀ l o, (hideAll s.heap [45]).get? l = none → h'.get? l = some o → o.cls ≠ .none → News h₀ L h' ((l, o) :: pre ++ [(45, tabObj ps')]) ∧ (∀ p ∈ pre, p.1 ≠ l) ∧ 45 ≠ l := by
  have hT := N (45, tabObj ps) (List.mem_append_right _ (.head _))
  have hne : ∀ b o, h₀.get? b = some o → b ≠ 45 := fun b o e q => by rw [q, hT.2.2] at e; cases e
  have hL : L ≠ 45 := hT.2.1.symm
  have F' : Fr h₀ L h' m := by
    refine ⟨?_, fun b o e => hk b o (hne b o e) (F.keep b o e), F.above⟩
    obtain ⟨oL, es, ep, q, r⟩ := F.ns
    exact ⟨oL, es, ep, hk _ _ hL q, r⟩
  have hp46 : ∀ p ∈ pre, p.1 ≠ 45 := fun p hp q => by
    have h1 := N p (List.mem_append_left _ hp)
    have h2 := h1.1
    rw [q, hT.1] at h2
    exact hc p hp (by rw [← Option.some.inj h2])
  have N' : News h₀ L h' (pre ++ [(45, tabObj ps')]) := fun p hp => by
    rcases List.mem_append.mp hp with hp' | hp'
    · have h1 := N p (List.mem_append_left _ hp')
      exact ⟨hk _ _ (hp46 p hp') h1.1, h1.2⟩
    · rw [List.mem_singleton.mp hp']; exact ⟨h46, hT.2⟩
  refine ⟨F', N', fun l o hl ho hco => ?_⟩
  have l46 : 45 ≠ l := fun q => by
    rw [← q, h46] at ho
    exact hco (by rw [← Option.some.inj ho])
  have lS : s.heap.get? l = none := by
    cases q : s.heap.get? l with
    | none => rfl
    | some o' =>
      rw [hideAll_get _ q (by simpa using Ne.symm l46)] at hl
      cases hl
  refine ⟨fun p hp => ?_, fun p hp q => ?_, l46⟩
  · rcases List.mem_cons.mp hp with rfl | hp
    · refine ⟨ho, fun q => ?_, ?_⟩
      · obtain ⟨oL, es, ep, q2, r⟩ := F.ns
        have q3 : l = L := q
        rw [q3, q2] at lS; cases lS
      · cases q : h₀.get? l with
        | none => rfl
        | some o' => rw [F.keep _ _ q] at lS; cases lS
    · exact N' p hp
  · have h1 := N p (List.mem_append_left _ hp)
    have h2 := h1.1
    rw [q, lS] at h2; cases h2
end Mine
end
section
open PySem PySem.W PySem.Calls PyProof.Rows
set_option maxRecDepth 100000
set_option linter.unusedVariables false
namespace Mine
open LCg
/-- the lists that a comprehension of calls has made, the last one first -/
def ledOf (ls : List (Addr × Array Value × Nat)) (news : List (Addr × Obj)) : List (Addr × Obj) := ls.map (fun e => (e.1, W.listOf e.2.1 e.2.2)) ++ news
section
variable {prog : Program} {w : World} {A : Around} {E : Value → Shared → Prop} {s : Shared} {h₀ : Heap} {L : Addr} {m : Str → Option Value} {env : Env}
theorem compLists {elt : Expr} {x : Str} {scope : Scope} {cl : List (Str × Addr)} {S : List (Addr × Obj) → Prop} {P : Nat → Value → Prop} {Fin : List Value → List (Addr × Obj) → Prop} {n : Nat} {news : List (Addr × Obj)} (spec : Nat → List Int)
    (hS : ∀ ls, S (ledOf ls news))
    (step : ∀ i ls ys v I oI C oC D m₂ h tk (E' : Value → Shared → Prop), i < n → P i v → NsObj oC m₂ → m₂ x = some v → Fr h₀ L h m → News h₀ L h ((I, oI) :: (C, oC) :: (D, lst ys) :: ledOf ls news) →
      wpAny (model prog w) A (eval elt (compEnvC scope cl C env)) (fun y s₂ => ∃ l arr k h' tk', y = .ref l ∧ s₂ = { s with heap := h', toks := tk' } ∧ Fr h₀ L h' m ∧ News h₀ L h' ((l, W.listOf arr k) :: (I, oI) :: (C, oC) :: (D, lst ys) :: ledOf ls news) ∧
        Off1 l ((I, oI) :: (C, oC) :: (D, lst ys) :: ledOf ls news) ∧ IntsAre arr.toList (spec i)) E' { s with heap := h, toks := tk })
    (fin : ∀ ls, ls.length = n → (∀ j e, ls.reverse[j]? = some e → IntsAre e.2.1.toList (spec j)) → Fin (ls.reverse.map fun e => Value.ref e.1) (ledOf ls news)) :
    CompRest prog w A h₀ L m env elt x scope cl s S P Fin n 0 [] news := by
  have H : ∀ k i ls, i + k = n → ls.length = i → (∀ j e, ls.reverse[j]? = some e → IntsAre e.2.1.toList (spec j)) → CompRest prog w A h₀ L m env elt x scope cl s S P Fin k i (ls.reverse.map fun e => Value.ref e.1) (ledOf ls news) := by
    intro k
    induction k with
    | zero => intro i ls hi hl hj; exact CompRest.zero (fin ls (by omega) hj)
    | succ k ih =>
      intro i ls hi hl hj
      refine CompRest.succ fun v I oI C oC D m₂ h tk E' hP hC hx F N o3 ne => ?_
      refine wpAny_mono (step i ls _ v I oI C oC D m₂ h tk E' (by omega) hP hC hx F N) (fun y s₂ hy => ?_) fun _ _ e => e
      obtain ⟨l, arr, k', h', tk', rfl, rfl, F', N', o1, hI⟩ := hy
      refine CompEnd.intro F' N' (ledOf ((l, arr, k') :: ls) news) (fun p hp => ?_) ⟨⟨o1.1.symm, o1.2.1.symm, o1.2.2.1.symm⟩, o3⟩ (hS _) ?_
      · rcases List.mem_cons.mp hp with rfl | hp
        · exact .tail _ (.head _)
        · rcases List.mem_cons.mp hp with rfl | hp
          · exact .tail _ (.tail _ (.head _))
          · rcases List.mem_cons.mp hp with rfl | hp
            · exact .tail _ (.tail _ (.tail _ (.head _)))
            · rcases List.mem_cons.mp hp with rfl | hp
              · exact .head _
              · exact .tail _ (.tail _ (.tail _ (.tail _ hp)))
      · have e : ((ls.reverse.map fun e => Value.ref e.1) ++ [Value.ref l]) = (((l, arr, k') :: ls).reverse.map fun e => Value.ref e.1) := by simp
        rw [e]
        refine ih (i + 1) _ (by omega) (by simp [hl]) fun j e he => ?_
        rw [List.reverse_cons] at he
        by_cases hj' : j < ls.reverse.length
        · rw [List.getElem?_append_left hj'] at he; exact hj j e he
        · rw [List.getElem?_append_right (by omega)] at he
          have h0 : j - ls.reverse.length = 0 := by
            rcases Nat.eq_zero_or_pos (j - ls.reverse.length) with e | e
            · exact e
            · rw [List.getElem?_eq_none (by rw [List.length_singleton]; exact e)] at he; cases he
          rw [h0] at he
          obtain rfl : (l, arr, k') = e := by simpa using he
          have : j = i := by rw [List.length_reverse] at *; omega
          rw [this]; exact hI
  exact H n 0 [] (by omega) rfl (fun j e h => nomatch h)
end
theorem six {α : Type} : ∀ {ls : List α}, ls.length = 6 → ∃ a b c d e f, ls = [a, b, c, d, e, f]
  | [a, b, c, d, e, f], _ => ⟨a, b, c, d, e, f, rfl⟩
end Mine
end
section
open PySem PySem.W PySem.Calls PyProof.Rows
set_option maxRecDepth 100000
set_option linter.unusedVariables false
namespace Mine
open LCg
/-- the text of a def, as the heap says it -/
def FnAt (K : Frag) (f : Addr) (name : Str) (body : List Stmt) (scope : Scope) (cdv : Value) : Prop :=
  ∃ oc od params dV kV doc pm an ct osl, K.lookup f = some ⟨oc, od, .func (fnOf name name params body scope dV kV doc pm an cdv ct), osl⟩
theorem FnAt.mk {K : Frag} {f : Addr} {name : Str} {body : List Stmt} {scope : Scope} {cdv oc : Value} {od : Option Addr} {params : Arguments} {dV kV doc pm : Value} {an : Option Addr} {ct : Value} {osl : Array (Option Value)}
    (h : K.lookup f = some ⟨oc, od, .func (fnOf name name params body scope dV kV doc pm an cdv ct), osl⟩) : FnAt K f name body scope cdv := ⟨_, _, _, _, _, _, _, _, _, _, h⟩
theorem FnAt.inj {K : Frag} {f : Addr} {n n' : Str} {b b' : List Stmt} {sc sc' : Scope} {c c' : Value} (x : FnAt K f n b sc c) (y : FnAt K f n' b' sc' c') : n = n' ∧ b = b' ∧ sc = sc' ∧ c = c' := by
  obtain ⟨_, _, _, _, _, _, _, _, _, _, h⟩ := x
  obtain ⟨_, _, _, _, _, _, _, _, _, _, h'⟩ := y
  rw [h] at h'
  have e := congrArg (fun o => o.map fun z => z.data) h'
  have e2 := Data.func.inj (Option.some.inj e)
  exact ⟨congrArg FuncData.name e2, FuncBody.stmts.inj (congrArg FuncData.body e2), congrArg FuncData.scope e2, congrArg FuncData.code e2⟩
/-- the names of the frame, told anew -/
theorem frTold {h₀ h : Heap} {L : Addr} {m : Str → Option Value} (ps : List (Str × Value)) (F : Fr h₀ L h m) (hk : ∀ p ∈ ps, m p.1 = some p.2) : Fr h₀ L h (kstB m ps) := by
  have e : kstB m ps = m := by
    funext y
    exact kstB_eq hk fun _ => rfl
  rw [e]; exact F
end Mine
end
section
open PySem PySem.W PySem.Calls PyProof.Rows PySem.Spec
set_option maxRecDepth 100000
set_option linter.unusedVariables false
namespace Mine
def okD (x : PySem.Str) (rs : List Int) : PyData := .tuple [.str x, .list (rs.map .int)]
def noD : PyData := .tuple [.none, .none]
theorem eqv_ints : ∀ rs : List Int, PyData.eqvAll (rs.map .int) (rs.map .int) = true
  | [] => rfl
  | a :: r => by simp only [List.map_cons, PyData.eqvAll, PyData.eqv, beq_self_eq_true, Bool.true_and]; exact eqv_ints r
theorem eqv_ok (x : PySem.Str) (rs : List Int) : PyData.eqv (okD x rs) (okD x rs) = true := by
  simp only [okD, PyData.eqv, PyData.eqvAll, beq_self_eq_true, Bool.true_and, Bool.and_true, eqv_ints]
theorem eqv_no : PyData.eqv noD noD = true := rfl
theorem eqv_two {a b : PyData} (ha : PyData.eqv a a = true) (hb : PyData.eqv b b = true) : PyData.eqv (.list [a, b]) (.list [a, b]) = true := by
  simp only [PyData.eqv, PyData.eqvAll, ha, hb, Bool.and_true]
theorem okD_lay {x : PySem.Str} {rs : List Int} (h : ∀ c ∈ x.cps, c ≤ 126) : (okD x rs).canLay0 = true ∧ (okD x rs).depth = 2 := by
  constructor
  · simp only [okD, PyData.canLay0, PyData.canLayAll0, ke_canLayAll0, Bool.and_true]
    unfold PyData.strOk
    rw [Array.all_eq_true']
    intro c hc
    have := h c hc
    exact decide_eq_true (by omega)
  · simp only [okD, PyData.depth, PyData.depthAll, ke_depthAll]; rfl
theorem noD_lay : noD.canLay0 = true ∧ noD.depth = 1 := ⟨rfl, rfl⟩
theorem shaped_one {a : PyData} (ha : a.canLay0 = true ∧ a.depth ≤ 2) : SeqAt.shaped a = true := by
  unfold SeqAt.shaped
  rw [ha.1, decide_eq_true (by omega)]; rfl
theorem shaped_two {a b : PyData} (ha : a.canLay0 = true ∧ a.depth ≤ 2) (hb : b.canLay0 = true ∧ b.depth ≤ 2) : SeqAt.shaped (.list [a, b]) = true := by
  unfold SeqAt.shaped
  simp only [PyData.canLay0, PyData.canLayAll0, ha.1, hb.1, Bool.true_and, PyData.depth, PyData.depthAll]
  exact decide_eq_true (by omega)
theorem readsInts {h : Heap} : ∀ {vs : List Value} {ns : List Int}, IntsAre vs ns → ReadsAll h vs (ns.map .int) []
  | _, _, .nil => .nil
  | _, _, .cons n t r => .cons (.int n t) (readsInts r)
theorem readOk {h : Heap} {l dl : Addr} {x : PySem.Str} {t : Tok} {k k' : Nat} {arr : Array Value} {rs : List Int} (h1 : h.get? l = some { cls := .type "tuple", data := .seq #[.str x t, .ref dl] k }) (h2 : h.get? dl = some (W.listOf arr k')) (hi : IntsAre arr.toList rs) : Reads h (.ref l) (okD x rs) [dl] :=
  reads_tuple_at h1 rfl rfl (.cons (.str x t) (.cons (reads_list_at h2 rfl rfl (readsInts hi)) .nil))
theorem readNo {h : Heap} {l : Addr} {k : Nat} (h1 : h.get? l = some { cls := .type "tuple", data := .seq #[.none, .none] k }) : Reads h (.ref l) noD [] :=
  reads_tuple_at h1 rfl rfl (.cons .none (.cons .none .nil))
theorem readTwo {h : Heap} {l : Addr} {k : Nat} {a b : Value} {da db : PyData} {as bs : List Addr} (h1 : h.get? l = some { cls := .type "list", data := .seq #[a, b] k }) (ha : Reads h a da as) (hb : Reads h b db bs) : ∃ cs, Reads h (.ref l) (.list [da, db]) cs :=
  ⟨_, reads_list_at h1 rfl rfl (.cons ha (.cons hb .nil))⟩
end Mine
end
section
open PySem PySem.W PySem.Calls PyProof.Rows
set_option maxRecDepth 100000
set_option linter.unusedVariables false
namespace Mine
theorem xor_bits : ∀ (k x y : Nat), x ≤ k → x + y = (x ^^^ y) + 2 * (x &&& y) := by
  intro k
  induction k with
  | zero => intro x y h; obtain rfl : x = 0 := by omega
            simp
  | succ k ih =>
    intro x y h
    by_cases hx : x = 0
    · subst hx; simp
    have h1 := ih (x / 2) (y / 2) (by omega)
    have e1 : (x ^^^ y) / 2 = (x / 2) ^^^ (y / 2) := Nat.xor_div_two_pow (n := 1)
    have e2 : (x &&& y) / 2 = (x / 2) &&& (y / 2) := Nat.and_div_two_pow (n := 1)
    have e3 : (x ^^^ y) % 2 = (x % 2) ^^^ (y % 2) := Nat.xor_mod_two_pow (n := 1)
    have e4 : (x &&& y) % 2 = (x % 2) &&& (y % 2) := Nat.and_mod_two_pow (n := 1)
    have hx2 : x % 2 = 0 ∨ x % 2 = 1 := by omega
    have hy2 : y % 2 = 0 ∨ y % 2 = 1 := by omega
    rcases hx2 with hx2 | hx2 <;> rcases hy2 with hy2 | hy2 <;> rw [hx2, hy2] at e3 e4 <;> simp only [Nat.zero_xor, Nat.xor_zero, Nat.xor_self, Nat.zero_and, Nat.and_zero, Nat.and_self] at e3 e4 <;> omega
theorem bx (a b : Nat) : Builtin.bitXor (a : Int) (b : Int) = ((a ^^^ b : Nat) : Int) := by
  rw [bitXor_and, bitAnd_pp (by omega) (by omega)]
  have h := xor_bits a a b (Nat.le_refl _)
  simp only [Int.toNat_natCast]
  omega
theorem xor32 (A B a b : Nat) (ha : a < 32) (hb : b < 32) : (A * 32 + a) ^^^ (B * 32 + b) = (A ^^^ B) * 32 + (a ^^^ b) := by
  have e1 : ((A * 32 + a) ^^^ (B * 32 + b)) / 32 = ((A * 32 + a) / 32) ^^^ ((B * 32 + b) / 32) := Nat.xor_div_two_pow (n := 5)
  have e3 : ((A * 32 + a) ^^^ (B * 32 + b)) % 32 = ((A * 32 + a) % 32) ^^^ ((B * 32 + b) % 32) := Nat.xor_mod_two_pow (n := 5)
  have h1 : (A * 32 + a) / 32 = A := by omega
  have h2 : (B * 32 + b) / 32 = B := by omega
  have h3 : (A * 32 + a) % 32 = a := by omega
  have h4 : (B * 32 + b) % 32 = b := by omega
  rw [h1, h2] at e1
  rw [h3, h4] at e3
  omega
theorem x32 {a b : Nat} (ha : a < 32) (hb : b < 32) : a ^^^ b < 32 := Nat.xor_lt_two_pow (n := 5) ha hb
abbrev N6 := Nat × Nat × Nat × Nat × Nat × Nat
def packN (s : N6) : Nat := ((((s.1 * 32 + s.2.1) * 32 + s.2.2.1) * 32 + s.2.2.2.1) * 32 + s.2.2.2.2.1) * 32 + s.2.2.2.2.2
def okN (s : N6) : Prop := s.1 < 32 ∧ s.2.1 < 32 ∧ s.2.2.1 < 32 ∧ s.2.2.2.1 < 32 ∧ s.2.2.2.2.1 < 32 ∧ s.2.2.2.2.2 < 32
def tN (c e : Nat) : Nat := (tabZ (c : Int) (e : Int)).toNat
theorem tN_lt {c : Nat} (hc : c < 32) (e : Nat) : tN c e < 32 := by
  have h := low_tab (c := (c : Int)) ⟨by omega, by omega⟩ (e : Int)
  obtain ⟨h0, h1⟩ := h
  unfold tN; omega
theorem tN_eq {c : Nat} (hc : c < 32) (e : Nat) : tabZ (c : Int) (e : Int) = (tN c e : Int) := by
  have h := low_tab (c := (c : Int)) ⟨by omega, by omega⟩ (e : Int)
  obtain ⟨h0, h1⟩ := h
  unfold tN; omega
def xorV (s t : N6) : N6 := (s.1 ^^^ t.1, s.2.1 ^^^ t.2.1, s.2.2.1 ^^^ t.2.2.1, s.2.2.2.1 ^^^ t.2.2.2.1, s.2.2.2.2.1 ^^^ t.2.2.2.2.1, s.2.2.2.2.2 ^^^ t.2.2.2.2.2)
def feed (u : Nat) : N6 := (tN 29 u, tN 22 u, tN 20 u, tN 21 u, tN 29 u, tN 18 u)
def fwdN (s : N6) (n : Nat) : N6 := xorV (s.2.1, s.2.2.1, s.2.2.2.1, s.2.2.2.2.1, s.2.2.2.2.2, n) (feed s.1)
theorem ok_xor {s t : N6} (hs : okN s) (ht : okN t) : okN (xorV s t) := by
  obtain ⟨a1, a2, a3, a4, a5, a6⟩ := hs
  obtain ⟨b1, b2, b3, b4, b5, b6⟩ := ht
  exact ⟨x32 a1 b1, x32 a2 b2, x32 a3 b3, x32 a4 b4, x32 a5 b5, x32 a6 b6⟩
theorem ok_feed (u : Nat) : okN (feed u) := ⟨tN_lt (by decide) u, tN_lt (by decide) u, tN_lt (by decide) u, tN_lt (by decide) u, tN_lt (by decide) u, tN_lt (by decide) u⟩
theorem ok_fwd {s : N6} {n : Nat} (hs : okN s) (hn : n < 32) : okN (fwdN s n) := ok_xor ⟨hs.2.1, hs.2.2.1, hs.2.2.2.1, hs.2.2.2.2.1, hs.2.2.2.2.2, hn⟩ (ok_feed _)
theorem pack_xor {s t : N6} (hs : okN s) (ht : okN t) : packN s ^^^ packN t = packN (xorV s t) := by
  obtain ⟨a1, a2, a3, a4, a5, a6⟩ := hs
  obtain ⟨b1, b2, b3, b4, b5, b6⟩ := ht
  unfold packN xorV
  rw [xor32 _ _ _ _ a6 b6, xor32 _ _ _ _ a5 b5, xor32 _ _ _ _ a4 b4, xor32 _ _ _ _ a3 b3, xor32 _ _ _ _ a2 b2]
theorem pack_inj {s t : N6} (hs : okN s) (ht : okN t) (h : packN s = packN t) : s = t := by
  obtain ⟨s1, s2, s3, s4, s5, s6⟩ := s
  obtain ⟨t1, t2, t3, t4, t5, t6⟩ := t
  obtain ⟨a1, a2, a3, a4, a5, a6⟩ := hs
  obtain ⟨b1, b2, b3, b4, b5, b6⟩ := ht
  unfold packN at h
  dsimp only at *
  have e6 : s6 = t6 := by omega
  have e5 : s5 = t5 := by omega
  have e4 : s4 = t4 := by omega
  have e3 : s3 = t3 := by omega
  have e2 : s2 = t2 := by omega
  have e1 : s1 = t1 := by omega
  rw [e1, e2, e3, e4, e5, e6]
def gN (u : Nat) (i : Int) : Nat := if Builtin.bitAnd ((u : Int).fdiv (2 ^ i.toNat)) 1 ≠ 0 then (genZ i).toNat else 0
theorem inZ_N (u c : Nat) (i : Int) : inZ (u : Int) (c : Int) i = ((c ^^^ gN u i : Nat) : Int) := by
  unfold inZ gN
  split
  · have hg : genZ i = ((genZ i).toNat : Int) := by unfold genZ; split <;> (try rfl); split <;> (try rfl); split <;> (try rfl); split <;> rfl
    rw [hg, bx]; rfl
  · rw [show (0 : Int) = ((0 : Nat) : Int) from rfl, bx]
theorem gen_feed : ∀ u : Nat, u < 32 → gN u 0 ^^^ (gN u 1 ^^^ (gN u 2 ^^^ (gN u 3 ^^^ gN u 4))) = packN (feed u) := by decide +kernel
theorem step_N {s : N6} {n : Nat} (hs : okN s) (hn : n < 32) : stepZ (packN s : Int) (n : Int) = (packN (fwdN s n) : Int) := by
  obtain ⟨u, v, w, x, y, z⟩ := s
  have hs' := hs
  obtain ⟨a1, a2, a3, a4, a5, a6⟩ := hs
  dsimp only at a1 a2 a3 a4 a5 a6
  have e1 : ((packN (u, v, w, x, y, z) : Nat) : Int).fdiv (2 ^ Int.toNat 25) = (u : Int) := by
    rw [Int.fdiv_eq_ediv_of_nonneg _ (by decide)]
    have : (2 : Int) ^ Int.toNat 25 = 33554432 := by decide
    rw [this]; unfold packN; dsimp only; omega
  have e2 : Builtin.bitAnd ((packN (u, v, w, x, y, z) : Nat) : Int) 33554431 * 2 ^ Int.toNat 5 = ((packN (v, w, x, y, z, 0) : Nat) : Int) := by
    rw [bitAnd_pp (by omega) (by decide)]
    have h : (packN (u, v, w, x, y, z)) &&& 33554431 = packN (u, v, w, x, y, z) % 33554432 := Nat.and_two_pow_sub_one_eq_mod _ 25
    have h2 : (2 : Int) ^ Int.toNat 5 = 32 := by decide
    rw [Int.toNat_natCast, show (33554431 : Int).toNat = 33554431 from rfl, h, h2]
    unfold packN; dsimp only; omega
  have e3 : packN (v, w, x, y, z, 0) ^^^ n = packN (v, w, x, y, z, n) := by
    have h := xor32 ((((v * 32 + w) * 32 + x) * 32 + y) * 32 + z) 0 0 n (by decide) hn
    simp only [Nat.zero_mul, Nat.zero_add, Nat.xor_zero, Nat.zero_xor] at h
    exact h
  unfold stepZ
  rw [e1, e2, bx, e3]
  simp only [List.foldl_cons, List.foldl_nil, inZ_N]
  simp only [Nat.xor_assoc]
  rw [gen_feed u a1, pack_xor ⟨a2, a3, a4, a5, a6, hn⟩ (ok_feed u)]
  rfl
def runN (s : N6) (ns : List Nat) : N6 := ns.foldl fwdN s
theorem ok_run : ∀ {ns : List Nat} {s : N6}, okN s → (∀ n ∈ ns, n < 32) → okN (runN s ns)
  | [], _, h, _ => h
  | n :: r, s, h, hn => ok_run (ns := r) (ok_fwd h (hn n (.head _))) fun m hm => hn m (.tail _ hm)
theorem run_step : ∀ {ns : List Nat} {s : N6}, okN s → (∀ n ∈ ns, n < 32) → (ns.map fun n : Nat => (n : Int)).foldl stepZ (packN s : Int) = (packN (runN s ns) : Int)
  | [], _, _, _ => rfl
  | n :: r, s, h, hn => by
    rw [List.map_cons, List.foldl_cons, step_N h (hn n (.head _)), run_step (ok_fwd h (hn n (.head _))) fun m hm => hn m (.tail _ hm)]
    rfl
def oneN : N6 := (0, 0, 0, 0, 0, 1)
theorem ok_one : okN oneN := by unfold okN oneN; decide
theorem poly_N {ns : List Nat} (h : ∀ n ∈ ns, n < 32) : polyZ (ns.map fun n : Nat => (n : Int)) = (packN (runN oneN ns) : Int) := by
  rw [← run_step ok_one h]; rfl
def natsOf (ns : List Int) : List Nat := ns.map Int.toNat
theorem natsOf_cast {ns : List Int} (h : ∀ n ∈ ns, 0 ≤ n ∧ n < 32) : (natsOf ns).map (fun n : Nat => (n : Int)) = ns := by
  unfold natsOf
  rw [List.map_map]
  conv => rhs; rw [← List.map_id ns]
  refine List.map_congr_left fun n hn => ?_
  have := h n hn
  show ((n.toNat : Nat) : Int) = n
  omega
theorem natsOf_lt {ns : List Int} (h : ∀ n ∈ ns, 0 ≤ n ∧ n < 32) : ∀ n ∈ natsOf ns, n < 32 := by
  intro n hn
  obtain ⟨m, hm, rfl⟩ := List.mem_map.mp hn
  have := h m hm
  omega
theorem poly_one {ns : List Int} (h : ∀ n ∈ ns, 0 ≤ n ∧ n < 32) : polyZ ns = 1 ↔ runN oneN (natsOf ns) = oneN := by
  have e : polyZ ns = (packN (runN oneN (natsOf ns)) : Int) := by
    rw [← poly_N (natsOf_lt h), natsOf_cast h]
  rw [e]
  constructor
  · intro h1
    refine pack_inj (ok_run ok_one (natsOf_lt h)) ok_one ?_
    have : packN oneN = 1 := by decide
    omega
  · intro h1; rw [h1]; rfl
end Mine
end
section
open PySem PySem.W PySem.Calls PyProof.Rows
set_option maxRecDepth 100000
set_option linter.unusedVariables false
namespace Mine
theorem natsOf_app (a b : List Int) : natsOf (a ++ b) = natsOf a ++ natsOf b := List.map_append
theorem run_app (s : N6) (a b : List Nat) : runN s (a ++ b) = runN (runN s a) b := List.foldl_append
theorem hi_N (c : Nat) : hiZ c = ((c / 32 : Nat) : Int) := by
  unfold hiZ
  rw [Int.fdiv_eq_ediv_of_nonneg _ (by decide)]
  have : (2 : Int) ^ Int.toNat 5 = 32 := by decide
  rw [this]; omega
theorem lo_N (c : Nat) : loZ c = ((c % 32 : Nat) : Int) := by
  unfold loZ
  rw [bitAnd_pp (by omega) (by decide)]
  have h : c &&& 31 = c % 32 := Nat.and_two_pow_sub_one_eq_mod _ 5
  rw [Int.toNat_natCast, show (31 : Int).toNat = 31 from rfl, h]
theorem expand_low {x : Str} (h : ∀ c ∈ x.cps.toList, c ≤ 126) : ∀ n ∈ expandZ x, 0 ≤ n ∧ n < 32 := by
  intro n hn
  unfold expandZ at hn
  rcases List.mem_append.mp hn with hn | hn
  · rcases List.mem_append.mp hn with hn | hn
    · obtain ⟨c, hc, rfl⟩ := List.mem_map.mp hn
      have := h c hc
      rw [hi_N]; omega
    · rw [List.mem_singleton.mp hn]; decide
  · obtain ⟨c, hc, rfl⟩ := List.mem_map.mp hn
    rw [lo_N]; omega
theorem expand_N (x : Str) : natsOf (expandZ x) = x.cps.toList.map (· / 32) ++ [0] ++ x.cps.toList.map (· % 32) := by
  unfold expandZ
  rw [natsOf_app, natsOf_app]
  congr 1
  · congr 1
    · unfold natsOf; rw [List.map_map]; refine List.map_congr_left fun c _ => ?_
      show (hiZ c).toNat = _
      rw [hi_N]; rfl
  · unfold natsOf; rw [List.map_map]; refine List.map_congr_left fun c _ => ?_
    show (loZ c).toNat = _
    rw [lo_N]; rfl
theorem fwd_add (s : N6) (d2 d3 d4 d5 d6 n : Nat) : fwdN (xorV s (0, d2, d3, d4, d5, d6)) n = xorV (fwdN s 0) (d2, d3, d4, d5, d6, n) := by
  obtain ⟨u, v, w, x, y, z⟩ := s
  unfold fwdN xorV
  dsimp only
  simp only [Nat.xor_zero, Nat.zero_xor]
  have h : ∀ a b c : Nat, a ^^^ b ^^^ c = a ^^^ c ^^^ b := fun a b c => by rw [Nat.xor_assoc, Nat.xor_comm b c, ← Nat.xor_assoc]
  rw [h v, h w, h x, h y, h z, Nat.xor_comm n]
theorem xorV_zero (s : N6) : xorV s (0, 0, 0, 0, 0, 0) = s := by
  obtain ⟨u, v, w, x, y, z⟩ := s
  unfold xorV; simp only [Nat.xor_zero]
theorem run_six (s : N6) (a b c d e f : Nat) : runN s [a, b, c, d, e, f] = xorV (runN s [0, 0, 0, 0, 0, 0]) (a, b, c, d, e, f) := by
  show fwdN (fwdN (fwdN (fwdN (fwdN (fwdN s a) b) c) d) e) f = xorV (fwdN (fwdN (fwdN (fwdN (fwdN (fwdN s 0) 0) 0) 0) 0) 0) (a, b, c, d, e, f)
  rw [← fwd_add _ a b c d e f, ← fwd_add _ 0 a b c d e, ← fwd_add _ 0 0 a b c d, ← fwd_add _ 0 0 0 a b c, ← fwd_add _ 0 0 0 0 a b, ← fwd_add _ 0 0 0 0 0 a, xorV_zero]
theorem xorV_self (s t : N6) : xorV s (xorV s t) = t := by
  obtain ⟨u, v, w, x, y, z⟩ := s
  obtain ⟨a, b, c, d, e, f⟩ := t
  unfold xorV
  dsimp only
  simp only [← Nat.xor_assoc, Nat.xor_self, Nat.zero_xor]
theorem dig_N {t : N6} (h : okN t) : (List.range 6).map (digZ (packN t : Int)) = [t.1, t.2.1, t.2.2.1, t.2.2.2.1, t.2.2.2.2.1, t.2.2.2.2.2].map fun n : Nat => (n : Int) := by
  obtain ⟨u, v, w, x, y, z⟩ := t
  obtain ⟨a1, a2, a3, a4, a5, a6⟩ := h
  dsimp only at a1 a2 a3 a4 a5 a6
  have key : ∀ (i k : Nat), (2 : Int) ^ (5 * (5 - (0 + (i : Int)))).toNat = (k : Int) → 0 < k → digZ (packN (u, v, w, x, y, z) : Int) i = ((packN (u, v, w, x, y, z) / k % 32 : Nat) : Int) := by
    intro i k hk h0
    unfold digZ
    rw [hk, Int.fdiv_eq_ediv_of_nonneg _ (by omega), ← Int.natCast_ediv, bitAnd_pp (Int.natCast_nonneg _) (by decide)]
    have h : (packN (u, v, w, x, y, z) / k) &&& 31 = (packN (u, v, w, x, y, z) / k) % 32 := Nat.and_two_pow_sub_one_eq_mod _ 5
    rw [Int.toNat_natCast, show (31 : Int).toNat = 31 from rfl, h]
  show [_, _, _, _, _, _] = [_, _, _, _, _, _]
  rw [key 0 33554432 (by decide) (by decide), key 1 1048576 (by decide) (by decide), key 2 32768 (by decide) (by decide), key 3 1024 (by decide) (by decide), key 4 32 (by decide) (by decide), key 5 1 (by decide) (by decide)]
  unfold packN
  dsimp only
  congr 1
  · omega
  congr 1
  · omega
  congr 1
  · omega
  congr 1
  · omega
  congr 1
  · omega
  congr 1
  omega
theorem check_N {x : Str} {rs : List Int} (hx : ∀ c ∈ x.cps.toList, c ≤ 126) (hr : ∀ n ∈ rs, 0 ≤ n ∧ n < 32) : polyZ (expandZ x ++ (rs ++ checkZ x rs)) = 1 := by
  have hE := expand_low hx
  have hER : ∀ n ∈ expandZ x ++ rs, 0 ≤ n ∧ n < 32 := fun n hn => (List.mem_append.mp hn).elim (hE n) (hr n)
  have h6 : ∀ n ∈ expandZ x ++ rs ++ [0, 0, 0, 0, 0, 0], 0 ≤ n ∧ n < 32 := fun n hn => (List.mem_append.mp hn).elim (hER n) (fun h => (show ∀ n ∈ ([0, 0, 0, 0, 0, 0] : List Int), 0 ≤ n ∧ n < 32 by decide) n h)
  have e1 : polyZ (expandZ x ++ rs ++ [0, 0, 0, 0, 0, 0]) = (packN (runN oneN (natsOf (expandZ x ++ rs ++ [0, 0, 0, 0, 0, 0]))) : Int) := by
    rw [← poly_N (natsOf_lt h6), natsOf_cast h6]
  have hok := ok_run ok_one (natsOf_lt h6)
  rw [natsOf_app, run_app] at hok e1
  generalize hS : runN oneN (natsOf (expandZ x ++ rs)) = S at hok e1
  have ez : natsOf [0, 0, 0, 0, 0, 0] = [0, 0, 0, 0, 0, 0] := rfl
  rw [ez] at hok e1
  have e2 : Builtin.bitXor (polyZ (expandZ x ++ rs ++ [0, 0, 0, 0, 0, 0])) 1 = (packN (xorV (runN S [0, 0, 0, 0, 0, 0]) oneN) : Int) := by
    rw [e1, ← pack_xor hok ok_one, ← bx]; rfl
  rw [← List.append_assoc]
  have hlow : ∀ n ∈ expandZ x ++ rs ++ checkZ x rs, 0 ≤ n ∧ n < 32 := fun n hn => (List.mem_append.mp hn).elim (hER n) (checkZ_bound x rs n)
  rw [poly_one hlow, natsOf_app, run_app, hS]
  have e4 : ∀ l : List Nat, natsOf (l.map fun n : Nat => (n : Int)) = l := fun l => by
    unfold natsOf; rw [List.map_map]; exact (List.map_congr_left fun n _ => rfl).trans (List.map_id l)
  unfold checkZ
  rw [e2, dig_N (ok_xor hok ok_one), e4, run_six]
  exact xorV_self _ _
end Mine
end
section
open PySem PySem.W PySem.Calls PyProof.Rows
set_option maxRecDepth 100000
set_option linter.unusedVariables false
namespace Mine
def powL : List Int := [1, 2, 4, 8, 16, 9, 18, 13, 26, 29, 19, 15, 30, 21, 3, 6, 12, 24, 25, 27, 31, 23, 7, 14, 28, 17, 11, 22, 5, 10, 20]
def logL : List Int := [0, 0, 1, 14, 2, 28, 15, 22, 3, 5, 29, 26, 16, 7, 23, 11, 4, 25, 6, 10, 30, 13, 27, 21, 17, 18, 8, 19, 24, 9, 12, 20]
def timesZ (a b : Int) : Int := if a = 0 ∨ b = 0 then 0 else powL.getD ((logL.getD a.toNat 0 + logL.getD b.toNat 0).fmod 31).toNat 0
/-- one turn of the law's run -/
def fwdZ (s : List Int) (n : Int) : List Int :=
  [Builtin.bitXor (tabZ 29 (s.getD 0 0)) (s.getD 1 0), Builtin.bitXor (tabZ 22 (s.getD 0 0)) (s.getD 2 0), Builtin.bitXor (tabZ 20 (s.getD 0 0)) (s.getD 3 0), Builtin.bitXor (tabZ 21 (s.getD 0 0)) (s.getD 4 0), Builtin.bitXor (tabZ 29 (s.getD 0 0)) (s.getD 5 0), Builtin.bitXor (tabZ 18 (s.getD 0 0)) n]
theorem low_getD {s : List Int} (h : ∀ n ∈ s, low n) (i : Nat) : low (s.getD i 0) := by
  rcases Nat.lt_or_ge i s.length with h' | h'
  · rw [List.getD, List.getElem?_eq_getElem h']; exact h _ (List.getElem_mem h')
  · rw [List.getD, List.getElem?_eq_none h']; exact ⟨Int.le_refl _, by decide⟩
theorem low_fwd {s : List Int} {n : Int} (h : ∀ n ∈ s, low n) (hn : low n) : ∀ m ∈ fwdZ s n, low m := by
  intro m hm
  have g := fun i => low_getD h i
  have c : ∀ k : Int, low k → ∀ i j, low (Builtin.bitXor (tabZ k (s.getD i 0)) (s.getD j 0)) := fun k hk i j => low_xor (low_tab hk _) (g j)
  have hl : ∀ k : Int, low k → low (Builtin.bitXor (tabZ k (s.getD 0 0)) n) := fun k hk => low_xor (low_tab hk _) hn
  simp only [fwdZ, List.mem_cons, List.not_mem_nil, or_false] at hm
  rcases hm with rfl | rfl | rfl | rfl | rfl | rfl
  · exact c 29 (by decide) 0 1
  · exact c 22 (by decide) 0 2
  · exact c 20 (by decide) 0 3
  · exact c 21 (by decide) 0 4
  · exact c 29 (by decide) 0 5
  · exact hl 18 (by decide)
theorem low_fold : ∀ {vs s : List Int}, (∀ n ∈ s, low n) → (∀ n ∈ vs, low n) → ∀ m ∈ vs.foldl fwdZ s, low m
  | [], _, h, _ => h
  | v :: r, s, h, hv => low_fold (vs := r) (low_fwd h (hv v (.head _))) fun m hm => hv m (.tail _ hm)
end Mine
end
section
open PySem PySem.W PySem.Calls PyProof.Rows
set_option maxRecDepth 100000
set_option linter.unusedVariables false
namespace Mine
open LCg
structure NameIs (x : Str) (m : Int) : Prop where
  size : ((x.cps.size : Nat) : Int) = m
  signs : ∀ c ∈ x.cps, 33 ≤ c ∧ c ≤ 126 ∧ ¬ (65 ≤ c ∧ c ≤ 90)
theorem NameIs.ex {x : Str} {m : Int} (h : NameIs x m) : ∃ z, z = x ∧ NameIs z m := ⟨x, rfl, h⟩
theorem text_head1 (x : Str) (ns : List Int) : Txt.slice (textOf x ns) none (some ((x.cps.size : Int) + 1)) = x ++ PySem.Str.ofString "1" := by
  have h : ((x.cps.size : Int) + 1) = ((x.cps.size + 1 : Nat) : Int) := by omega
  rw [h, slice_upto _ _ (by simp [textOf])]
  have e : PySem.Str.ofString "1" = ⟨#[49]⟩ := by decide +kernel
  rw [e]
  refine Str.ext' ?_
  rw [Str.cps_append, text_cps]
  have h2 : (x.cps.toList ++ 49 :: ns.map signN).take (x.cps.size + 1) = x.cps.toList ++ [49] := by
    rw [List.take_append, List.take_of_length_le (by simp)]; simp
  rw [h2]
  simp only [← Array.toList_inj]
  simp
structure RowIs (arr : Array Value) (rs : List Int) : Prop where
  vals : IntsAre arr.toList rs
  few : rs.length ≤ 10
  low : ∀ n ∈ rs, 0 ≤ n ∧ n < 32
theorem news_swap {h₀ h : Heap} {L : Addr} {a b : Addr × Obj} {r : List (Addr × Obj)} (N : News h₀ L h (a :: b :: r)) : News h₀ L h (b :: a :: r) := fun p hp => N p (by
  rcases List.mem_cons.mp hp with rfl | hp
  · exact .tail _ (.head _)
  · rcases List.mem_cons.mp hp with rfl | hp
    · exact .head _
    · exact .tail _ (.tail _ hp))
theorem cutAt {M : Model} {A : Around} {st : Stmt} {env : Env} {Q : Flow → Shared → Prop} {E : Value → Shared → Prop} {s : Shared} (R : Flow → Shared → Prop) (h : wpAny M A (exec st env) R E s) (k : ∀ f s', R f s' → Q f s') : wpAny M A (exec st env) Q E s := wpAny_mono h k (fun _ _ e => e)
theorem text_tl (x : Str) (ns : List Int) : x ++ PySem.Str.ofString "1" ++ ⟨(ns.map signN).toArray⟩ = textOf x ns := by
  rw [← text_is, join_signs]
theorem news_two {h₀ h : Heap} {L : Addr} {a b : Addr × Obj} {r : List (Addr × Obj)} (N1 : News h₀ L h (a :: r)) (N2 : News h₀ L h (b :: r)) : News h₀ L h (a :: b :: r) := fun p hp => by
  rcases List.mem_cons.mp hp with rfl | hp
  · exact N1 _ (.head _)
  · exact N2 _ hp
theorem listCls {arr : Array Value} {k : Nat} : (W.listOf arr k).cls ≠ .none := by rintro ⟨⟩
theorem news_sub {h₀ h : Heap} {L : Addr} {a b : List (Addr × Obj)} (N : News h₀ L h a) (hs : ∀ p ∈ b, p ∈ a) : News h₀ L h b := fun p hp => N p (hs p hp)
theorem enterKCH {prog : Program} {w : World} {A : Around} {E : Value → Shared → Prop} {s : Shared} {K : Frag} {p : Program} {loose : List Str} {mean : ExcName → Option Value} {mg mb : Str → Option Value} {Q : Value → Shared → Prop}
    {name : Str} {params : Arguments} {body : List Stmt} {scope : Scope} {dV kV doc pm cdv ct oc : Value} {an od : Option Addr} {osl : Array (Option Value)} {f P : Addr} {args : List Value} {binds : List (Str × Value)} {ps : Array Value}
    (X : K.In s.heap) (T : Top p loose mean mg mb s.heap) (hP : s.heap.get? P = some (tabObj ps)) (hroom : A.depth < recursionLimit)
    (ho : K.lookup f = some ⟨oc, od, .func (fnOf name name params body scope dV kV doc pm an cdv ct), osl⟩) (hcd : codeIn K cdv name = true)
    (hbind : BindsTo s (fnOf name name params body scope dV kV doc pm an cdv ct) ⟨args, []⟩ binds) (hkind : (binds.all fun y => scope.names.lookup y.1 == some .local || scope.names.lookup y.1 == some .cell) = true)
    (hnd : ((cellsFrom 0 scope.names []).map (·.1)).Nodup)
    (h : ∀ h₁ tk cells, Fr (hideAll s.heap [P]) s.heap.objs.size h₁ (bindL (envOfC name scope s.heap.objs.size f cdv).kindOf binds fun _ => none) → News (hideAll s.heap [P]) s.heap.objs.size h₁ (cells ++ [(P, tabObj ps)]) →
      CellsAre (bindC (envOfC name scope s.heap.objs.size f cdv).kindOf binds fun _ => none) (cellsFrom (s.heap.objs.size + 1) scope.names []) cells →
      wpAny (model prog w) (A.deeper (envOfC name scope s.heap.objs.size f cdv)) (execs body (envOfC name scope s.heap.objs.size f cdv))
        (fun fl s' => Q (match fl with | .ret v => v | _ => .none) s') (fun _ _ => False) { s with heap := h₁, toks := tk })
    (hco : scope.isCoroutine = false := by rfl) (hgen : scope.isGenerator = false := by rfl) (hk : scope.kind = .function := by rfl) :
    wpAny (model prog w) A (call (.ref f) args) Q E s := by
  refine enterKC X T hroom ho hcd hbind hkind hnd (fun h₁ tk cells F N Y => ?_) hco hgen hk
  refine h h₁ tk cells ⟨F.ns, fun b o e => F.keep b o (of_hideAll _ e), Nat.le_trans (Nat.le_of_eq (hideAll_size _ _)) F.above⟩ (fun q hq => ?_) Y
  rcases List.mem_append.mp hq with hq | hq
  · have hN := N q hq
    refine ⟨hN.1, hN.2.1, ?_⟩
    cases g : (hideAll s.heap [P]).get? q.1 with
    | none => rfl
    | some o => have := of_hideAll _ g; rw [hN.2.2] at this; cases this
  · rw [List.mem_singleton.mp hq]
    exact ⟨F.keep _ _ hP, Nat.ne_of_lt (Heap.lt_size hP), hideAll_none _ (.head _)⟩
theorem int_item {prog : Program} {w : World} {A : Around} {E : Value → Shared → Prop} {s : Shared} {value slice : Expr} {l : Addr} {arr : Array Value} {ns : List Int} {k : Int} {u : Tok} {Q : Value → Shared → Prop} (hl : s.heap.IsList l arr) (hi : IntsAre arr.toList ns) (hz : ns.length ≤ 1000000) (h0 : 0 ≤ k) (h1 : k < ns.length) (h : ∀ t, Q (.int (ns.getD k.toNat 0) t) s)
    (hs : subscripted slice false (.ref l) (.int k u) = operate [.ref l, .int k u] (getItem (.ref l) (.int k u)) := by with_unfolding_all rfl) (hg : ∀ r, letTemporaryGo value (.ref l) r = pure () := by intro _; with_unfolding_all rfl) :
    wpAny (model prog w) A (subscriptTail value slice (.ref l) (.int k u)) Q E s := by
  have hlt : k.toNat < ns.length := by omega
  have hlen := hi.length
  have hv : arr.toList[k.toNat]? = some (arr.toList[k.toNat]'(by rw [hlen]; exact hlt)) := List.getElem?_eq_getElem _
  obtain ⟨n, t, e, hn⟩ := hi.at k.toNat _ hv
  refine item_list (x := .int (ns.getD k.toNat 0) t) hl h0 (by rw [Array.length_toList] at hlen; omega) ?_ (h t) hs hg
  rw [← Array.getElem?_toList, hv, e]
  rw [List.getD, hn]; rfl
theorem sliceFrom {prog : Program} {w : World} {A : Around} {E : Value → Shared → Prop} {s : Shared} {h₀ : Heap} {L l : Addr} {m : Str → Option Value} {news : List (Addr × Obj)} {value slice : PySem.Expr} {arr : Array Value} {ns : List Int} {a : Int} {u : Tok} {Q : Value → Shared → Prop}
    (F : Fr h₀ L s.heap m) (N : News h₀ L s.heap news) (hl : s.heap.IsList l arr) (hi : IntsAre arr.toList ns) (hz : ns.length ≤ 1000) (h0 : 0 ≤ a)
    (h : ∀ D arr2 h', Fr h₀ L h' m → News h₀ L h' ((D, W.listOf arr2 0) :: news) → (∀ p ∈ news, p.1 < D) → IntsAre arr2.toList (ns.drop a.toNat) → Q (.ref D) { s with heap := h' })
    (hs : subscripted slice false (.ref l) (.ref s.heap.objs.size) = operate [.ref s.heap.objs.size, .ref l] (getItem (.ref l) (.ref s.heap.objs.size)) := by with_unfolding_all rfl) (ht : ∀ r, letTemporaryGo value (.ref l) r = pure () := by intro _; with_unfolding_all rfl) :
    wpAny (model prog w) A (subscriptTail value slice (.ref l) (.ref s.heap.objs.size)) Q E { s with heap := s.heap.push { cls := .type "slice", data := .fields #[.int a u, .none, .none] } } := by
  have hz2 : arr.toList.toArray.size ≤ sizeLine := by rw [sizeLine_eq, List.size_toArray, hi.length]; omega
  have hl2 : s.heap.IsList l arr.toList.toArray := by rw [Array.toArray_toList]; exact hl
  exact kmk_slice_ints (lo := some a) (hi := none) F N hl2 (IsPart.int _ _) IsPart.none hi (kmk_from hi h0) rfl (fun D ws h' F' N' l1 hI _ _ => h D ws.toArray h' F' N' l1 hI) hs ht hz2
theorem sliceTo {prog : Program} {w : World} {A : Around} {E : Value → Shared → Prop} {s : Shared} {h₀ : Heap} {L l : Addr} {m : Str → Option Value} {news : List (Addr × Obj)} {value slice : PySem.Expr} {arr : Array Value} {ns : List Int} {a : Int} {u : Tok} {Q : Value → Shared → Prop}
    (F : Fr h₀ L s.heap m) (N : News h₀ L s.heap news) (hl : s.heap.IsList l arr) (hi : IntsAre arr.toList ns) (hz : ns.length ≤ 1000) (h0 : 0 ≤ a)
    (h : ∀ D arr2 h', Fr h₀ L h' m → News h₀ L h' ((D, W.listOf arr2 0) :: news) → (∀ p ∈ news, p.1 < D) → IntsAre arr2.toList (ns.take a.toNat) → Q (.ref D) { s with heap := h' })
    (hs : subscripted slice false (.ref l) (.ref s.heap.objs.size) = operate [.ref s.heap.objs.size, .ref l] (getItem (.ref l) (.ref s.heap.objs.size)) := by with_unfolding_all rfl) (ht : ∀ r, letTemporaryGo value (.ref l) r = pure () := by intro _; with_unfolding_all rfl) :
    wpAny (model prog w) A (subscriptTail value slice (.ref l) (.ref s.heap.objs.size)) Q E { s with heap := s.heap.push { cls := .type "slice", data := .fields #[.none, .int a u, .none] } } := by
  have hz2 : arr.toList.toArray.size ≤ sizeLine := by rw [sizeLine_eq, List.size_toArray, hi.length]; omega
  have hl2 : s.heap.IsList l arr.toList.toArray := by rw [Array.toArray_toList]; exact hl
  exact kmk_slice_ints (lo := none) (hi := some a) F N hl2 IsPart.none (IsPart.int _ _) hi (kmk_upto hi h0) rfl (fun D ws h' F' N' l1 hI _ _ => h D ws.toArray h' F' N' l1 hI) hs ht hz2
theorem newsNe {h₀ h : Heap} {L a c : Addr} {o oc : Obj} {news : List (Addr × Obj)} {v : Option Value} (N : News h₀ L h news) (h1 : (a, o) ∈ news) (h2 : (c, oc) ∈ news) (hc : oc.data = .cell v) (ho : ∀ v, o.data ≠ .cell v) : a ≠ c := fun e => by
  have e1 := (N _ h1).1
  have e2 := (N _ h2).1
  rw [e] at e1
  have e3 := Option.some.inj (e1.symm.trans e2)
  exact ho v ((congrArg Obj.data e3).trans hc)
theorem backD2 {h₀ : Heap} {L : Addr} {m : Str → Option Value} {s : Shared} {pre : List (Addr × Obj)} {ps ps' : Array Value} {h' : Heap} (F : Fr h₀ L s.heap m) (N : News h₀ L s.heap (pre ++ [(45, tabObj ps)])) (hc : ∀ p ∈ pre, ∀ qs, p.2 ≠ tabObj qs)
    (hk : ∀ b o, b ≠ 45 → s.heap.get? b = some o → h'.get? b = some o) (h46 : h'.get? 45 = some (tabObj ps')) :
    Fr h₀ L h' m ∧ News h₀ L h' (pre ++ [(45, tabObj ps')]) ∧ ∀ l o, (hideAll s.heap [45]).get? l = none → h'.get? l = some o → (∀ qs, o ≠ tabObj qs) → News h₀ L h' ((l, o) :: pre ++ [(45, tabObj ps')]) ∧ (∀ p ∈ pre, p.1 ≠ l) ∧ 45 ≠ l := by
  have hT := N (45, tabObj ps) (List.mem_append_right _ (.head _))
  have hne : ∀ b o, h₀.get? b = some o → b ≠ 45 := fun b o e q => by rw [q, hT.2.2] at e; cases e
  have hL : L ≠ 45 := hT.2.1.symm
  have F' : Fr h₀ L h' m := by
    refine ⟨?_, fun b o e => hk b o (hne b o e) (F.keep b o e), F.above⟩
    obtain ⟨oL, es, ep, q, r⟩ := F.ns
    exact ⟨oL, es, ep, hk _ _ hL q, r⟩
  have hp46 : ∀ p ∈ pre, p.1 ≠ 45 := fun p hp q => by
    have h1 := N p (List.mem_append_left _ hp)
    have h2 := h1.1
    rw [q, hT.1] at h2
    exact hc p hp _ (Option.some.inj h2).symm
  have N' : News h₀ L h' (pre ++ [(45, tabObj ps')]) := fun p hp => by
    rcases List.mem_append.mp hp with hp' | hp'
    · have h1 := N p (List.mem_append_left _ hp')
      exact ⟨hk _ _ (hp46 p hp') h1.1, h1.2⟩
    · rw [List.mem_singleton.mp hp']; exact ⟨h46, hT.2⟩
  refine ⟨F', N', fun l o hl ho hco => ?_⟩
  have l46 : 45 ≠ l := fun q => by
    rw [← q, h46] at ho
    exact hco _ (Option.some.inj ho).symm
  have lS : s.heap.get? l = none := by
    cases q : s.heap.get? l with
    | none => rfl
    | some o' =>
      rw [hideAll_get _ q (by simpa using Ne.symm l46)] at hl
      cases hl
  refine ⟨fun p hp => ?_, fun p hp q => ?_, l46⟩
  · rcases List.mem_cons.mp hp with rfl | hp
    · refine ⟨ho, fun q => ?_, ?_⟩
      · obtain ⟨oL, es, ep, q2, r⟩ := F.ns
        have q3 : l = L := q
        rw [q3, q2] at lS; cases lS
      · cases q : h₀.get? l with
        | none => rfl
        | some o' => rw [F.keep _ _ q] at lS; cases lS
    · exact N' p hp
  · have h1 := N p (List.mem_append_left _ hp)
    have h2 := h1.1
    rw [q, lS] at h2; cases h2
theorem notTab {o : Obj} {v : Option Value} (h : o.data = .cell v) : ∀ qs, o ≠ tabObj qs := fun qs e => by rw [e] at h; cases h
theorem listTab {arr : Array Value} {k : Nat} : ∀ qs, W.listOf arr k ≠ tabObj qs := fun qs e => by cases e
end Mine
end
section
open PySem PySem.W PySem.Calls PyProof.Rows
set_option maxRecDepth 100000
set_option linter.unusedVariables false
namespace Mine
open LCg



theorem join_chs (cs : List Nat) : Txt.join (PySem.Str.ofString "") (cs.map fun c => (⟨#[c]⟩ : Str)) = ⟨cs.toArray⟩ := by
  have e : PySem.Str.ofString "" = ⟨#[]⟩ := by decide +kernel
  unfold Txt.join
  rw [StrLaws.glued_eq_join, e]
  refine Str.ext' ?_
  rw [join_cps]
  simp only [List.flatMap_map]
  congr 1
  induction cs with
  | nil => rfl
  | cons n r ih => simp [List.flatMap_cons, ih]
theorem joinOk_chs {cs : List Nat} (h : cs.length ≤ 5000) : JoinOk (PySem.Str.ofString "") (cs.map fun c => (⟨#[c]⟩ : Str)) = true := by
  unfold JoinOk
  rw [Bool.not_eq_true']
  refine StrLaws.joinFits (B := 1) (fun y hy => ?_) ?_
  · obtain ⟨n, _, rfl⟩ := List.mem_map.mp hy
    exact Nat.le_refl _
  · have e : (PySem.Str.ofString "").length = 0 := by decide +kernel
    rw [e, List.length_map]; omega
def nameC (k : Int) : Nat := if k < 32 then (33 + k).toNat else (59 + k).toNat
theorem nameC_ok {k : Int} (h : 0 ≤ k ∧ k < 68) : 33 ≤ nameC k ∧ nameC k ≤ 126 ∧ ¬ (65 ≤ nameC k ∧ nameC k ≤ 90) := by
  unfold nameC; split <;> omega
def chS (c : Nat) : Str := ⟨#[c]⟩
end Mine
end
section
open PySem PySem.W PySem.Calls PyProof.Rows
set_option maxRecDepth 100000
set_option linter.unusedVariables false
namespace Mine
/-- tables as figures -/
def figN (t a : Nat) : Nat := (t >>> (5 * a)) % 32
def f29 : Nat := 490666822443433241968069428975687820984440016800
def f22 : Nat := 585616458388304494339072272070229963731668408000
def f20 : Nat := 1255730981427269304972362873906137542315259627136
def f21 : Nat := 207288332701245938678122513219360819104824626848
def f18 : Nat := 538368610772363848808735075454348178753328232000
def fLog : Nat := 931001199420549403946829020058309183778805187584
def fPow : Nat := 1324436154505198174422809361114512118005851547709725122957190730508510170910152696808035586113
theorem fig29 : ∀ a : Nat, a < 32 → tN 29 a = figN f29 a := by decide +kernel
theorem fig22 : ∀ a : Nat, a < 32 → tN 22 a = figN f22 a := by decide +kernel
theorem fig20 : ∀ a : Nat, a < 32 → tN 20 a = figN f20 a := by decide +kernel
theorem fig21 : ∀ a : Nat, a < 32 → tN 21 a = figN f21 a := by decide +kernel
theorem fig18 : ∀ a : Nat, a < 32 → tN 18 a = figN f18 a := by decide +kernel
def feedB (a : Nat) : N6 := (figN f29 a, figN f22 a, figN f20 a, figN f21 a, figN f29 a, figN f18 a)
theorem feed_B {a : Nat} (h : a < 32) : feed a = feedB a := by
  unfold feed feedB
  rw [fig29 a h, fig22 a h, fig20 a h, fig21 a h, fig18 a h]
def eqV (s t : N6) : Bool := s.1 == t.1 && (s.2.1 == t.2.1 && (s.2.2.1 == t.2.2.1 && (s.2.2.2.1 == t.2.2.2.1 && (s.2.2.2.2.1 == t.2.2.2.2.1 && s.2.2.2.2.2 == t.2.2.2.2.2))))
theorem eqV_iff {s t : N6} : eqV s t = true ↔ s = t := by
  obtain ⟨u, v, w, x, y, z⟩ := s
  obtain ⟨a, b, c, d, e, f⟩ := t
  simp only [eqV, Bool.and_eq_true, beq_iff_eq, Prod.mk.injEq]
theorem feedB_xor' : ∀ a : Nat, a < 32 → ∀ b : Nat, b < 32 → eqV (feedB (a ^^^ b)) (xorV (feedB a) (feedB b)) = true := by decide +kernel
theorem feedB_xor (a : Nat) (ha : a < 32) (b : Nat) (hb : b < 32) : feedB (a ^^^ b) = xorV (feedB a) (feedB b) := eqV_iff.mp (feedB_xor' a ha b hb)
def zeroB (s : N6) : N6 := xorV (s.2.1, s.2.2.1, s.2.2.2.1, s.2.2.2.2.1, s.2.2.2.2.2, 0) (feedB s.1)
def zerosB : Nat → N6 → N6
  | 0, s => s
  | k + 1, s => zeroB (zerosB k s)
theorem zero_B {s : N6} (h : okN s) : fwdN s 0 = zeroB s := by
  unfold fwdN zeroB
  rw [feed_B h.1]
theorem ok_zeros {s : N6} (h : okN s) : ∀ k, okN (zerosB k s)
  | 0 => h
  | k + 1 => by
    show okN (zeroB (zerosB k s))
    rw [← zero_B (ok_zeros h k)]
    exact ok_fwd (ok_zeros h k) (by decide)
theorem run_zeros {s : N6} (h : okN s) : ∀ k, runN s (List.replicate k 0) = zerosB k s
  | 0 => rfl
  | k + 1 => by
    rw [List.replicate_succ', run_app, run_zeros h k]
    show fwdN (zerosB k s) 0 = zeroB (zerosB k s)
    exact zero_B (ok_zeros h k)
def mulB (a b : Nat) : Nat := if a = 0 then 0 else if b = 0 then 0 else figN fPow (figN fLog a + figN fLog b)
theorem times_B : ∀ a : Nat, a < 32 → ∀ b : Nat, b < 32 → timesZ (a : Int) (b : Int) = ((mulB a b : Nat) : Int) := by decide +kernel
def mulV (c : Nat) (v : N6) : N6 := (mulB c v.1, mulB c v.2.1, mulB c v.2.2.1, mulB c v.2.2.2.1, mulB c v.2.2.2.2.1, mulB c v.2.2.2.2.2)
def invB (a : Nat) : Nat := figN fPow (31 - figN fLog a)
def headN (v : N6) : Nat := if v.1 ≠ 0 then v.1 else if v.2.1 ≠ 0 then v.2.1 else if v.2.2.1 ≠ 0 then v.2.2.1 else if v.2.2.2.1 ≠ 0 then v.2.2.2.1 else if v.2.2.2.2.1 ≠ 0 then v.2.2.2.2.1 else v.2.2.2.2.2
def nfN (v : N6) : N6 := mulV (invB (headN v)) v
/-- x to the m and the next power of x, taken together -/
def pairW (m : Nat) : N6 := zerosB m (0, 0, 0, 0, 1, 1)
def zeroV : N6 := (0, 0, 0, 0, 0, 0)
theorem pair_mul' : ∀ m : Nat, m < 13 → ∀ e : Nat, e < 32 → eqV (zerosB m (0, 0, 0, 0, e, e)) (mulV e (pairW m)) = true := by decide +kernel
theorem pair_mul (m : Nat) (hm : m < 13) (e : Nat) (he : e < 32) : zerosB m (0, 0, 0, 0, e, e) = mulV e (pairW m) := eqV_iff.mp (pair_mul' m hm e he)
theorem pair_is' : ∀ m : Nat, m < 13 → eqV (xorV (zerosB m (0, 0, 0, 0, 0, 1)) (zerosB (m + 1) (0, 0, 0, 0, 0, 1))) (pairW m) = true := by decide +kernel
theorem pair_is (m : Nat) (hm : m < 13) : xorV (zerosB m (0, 0, 0, 0, 0, 1)) (zerosB (m + 1) (0, 0, 0, 0, 0, 1)) = pairW m := eqV_iff.mp (pair_is' m hm)
theorem pair_nf' : ∀ m : Nat, m < 13 → ∀ e : Nat, e < 32 → e ≠ 0 → eqV (nfN (mulV e (pairW m))) (nfN (pairW m)) = true := by decide +kernel
theorem pair_nf (m : Nat) (hm : m < 13) (e : Nat) (he : e < 32) (h0 : e ≠ 0) : nfN (mulV e (pairW m)) = nfN (pairW m) := eqV_iff.mp (pair_nf' m hm e he h0)
theorem pair_one' : ∀ m : Nat, m < 13 → ∀ k : Nat, k < 13 → eqV (nfN (pairW m)) (nfN (pairW k)) = true → m = k := by decide +kernel
theorem pair_one (m : Nat) (hm : m < 13) (k : Nat) (hk : k < 13) (h : nfN (pairW m) = nfN (pairW k)) : m = k := pair_one' m hm k hk (eqV_iff.mpr h)
theorem pair_some' : ∀ m : Nat, m < 13 → ∀ e : Nat, e < 32 → e ≠ 0 → eqV (mulV e (pairW m)) zeroV = false := by decide +kernel
theorem pair_some (m : Nat) (hm : m < 13) (e : Nat) (he : e < 32) (h0 : e ≠ 0) : mulV e (pairW m) ≠ zeroV := fun h => by
  have := pair_some' m hm e he h0
  rw [eqV_iff.mpr h] at this; cases this
theorem mul_zero (v : N6) : mulV 0 v = zeroV := rfl
theorem pair_fits {m k t e : Nat} (hm : m < 13) (hk : k < 13) (ht : t < 32) (he : e < 32) (h0 : t ≠ 0) (h : mulV t (pairW k) = mulV e (pairW m)) : k = m ∧ e ≠ 0 := by
  have e0 : e ≠ 0 := by
    rintro rfl
    exact pair_some k hk t ht h0 h
  refine ⟨pair_one k hk m hm ?_, e0⟩
  rw [← pair_nf k hk t ht h0, h, pair_nf m hm e he e0]
theorem low_pair : ∀ m : Nat, m < 13 → okN (pairW m) := fun m hm => ok_zeros (by unfold okN; decide) m
theorem mulB_lt (a b : Nat) : mulB a b < 32 := by
  unfold mulB figN
  split
  · decide
  · split
    · decide
    · exact Nat.mod_lt _ (by decide)
theorem ok_mul (c : Nat) (v : N6) : okN (mulV c v) := ⟨mulB_lt _ _, mulB_lt _ _, mulB_lt _ _, mulB_lt _ _, mulB_lt _ _, mulB_lt _ _⟩
theorem fwd_xor {s t : N6} (hs : okN s) (ht : okN t) (n : Nat) : fwdN (xorV s t) n = xorV (fwdN s n) (fwdN t 0) := by
  have h1 := hs.1
  have h2 := ht.1
  have hf : feed (s.1 ^^^ t.1) = xorV (feed s.1) (feed t.1) := by rw [feed_B (x32 h1 h2), feed_B h1, feed_B h2, feedB_xor _ h1 _ h2]
  unfold fwdN
  show xorV _ (feed (s.1 ^^^ t.1)) = _
  rw [hf]
  unfold xorV
  dsimp only
  have h : ∀ a b c d : Nat, (a ^^^ b) ^^^ (c ^^^ d) = (a ^^^ c) ^^^ (b ^^^ d) := fun a b c d => by
    rw [Nat.xor_assoc, ← Nat.xor_assoc b c d, Nat.xor_comm b c, Nat.xor_assoc c b d, ← Nat.xor_assoc]
  simp only [h, Nat.xor_zero]
  congr 5
  rw [h, Nat.xor_zero]
theorem run_xor : ∀ {zs : List Nat} {s t : N6}, okN s → okN t → (∀ n ∈ zs, n < 32) → runN (xorV s t) zs = xorV (runN s zs) (zerosB zs.length t)
  | [], _, _, _, _, _ => rfl
  | n :: r, s, t, hs, ht, hz => by
    show runN (fwdN (xorV s t) n) r = xorV (runN (fwdN s n) r) _
    rw [fwd_xor hs ht, run_xor (ok_fwd hs (hz n (.head _))) (ok_fwd ht (by decide)) fun m hm => hz m (.tail _ hm)]
    congr 1
    rw [zero_B ht]
    have : ∀ k (t : N6), zerosB k (zeroB t) = zerosB (k + 1) t := by
      intro k
      induction k with
      | zero => intro t; rfl
      | succ k ih => intro t; show zeroB (zerosB k (zeroB t)) = _; rw [ih]; rfl
    exact this _ _
theorem fwd_at (s : N6) (n : Nat) : fwdN s n = xorV (fwdN s 0) (0, 0, 0, 0, 0, n) := by
  have h := fwd_add s 0 0 0 0 0 n
  rw [xorV_zero] at h
  exact h
theorem fwd_two (s : N6) (a b : Nat) : fwdN (fwdN s a) b = xorV (fwdN (fwdN s 0) 0) (0, 0, 0, 0, a, b) := by
  rw [fwd_at s a, fwd_add]
theorem xorV_assoc (s t u : N6) : xorV (xorV s t) u = xorV s (xorV t u) := by
  unfold xorV; simp only [Nat.xor_assoc]
theorem fwd_swap (s : N6) (a b : Nat) : fwdN (fwdN s b) a = xorV (fwdN (fwdN s a) b) (0, 0, 0, 0, a ^^^ b, a ^^^ b) := by
  rw [fwd_two s b a, fwd_two s a b, xorV_assoc]
  refine congrArg (xorV _) ?_
  show (0, 0, 0, 0, b, a) = (0 ^^^ 0, 0 ^^^ 0, 0 ^^^ 0, 0 ^^^ 0, a ^^^ (a ^^^ b), b ^^^ (a ^^^ b))
  have e1 : a ^^^ (a ^^^ b) = b := by rw [← Nat.xor_assoc, Nat.xor_self, Nat.zero_xor]
  have e2 : b ^^^ (a ^^^ b) = a := by rw [Nat.xor_comm a b, ← Nat.xor_assoc, Nat.xor_self, Nat.zero_xor]
  rw [e1, e2]; rfl
theorem run_swap {s : N6} {pre post : List Nat} {a b : Nat} (hs : okN s) (hp : ∀ n ∈ pre, n < 32) (hq : ∀ n ∈ post, n < 32) (ha : a < 32) (hb : b < 32) :
    runN s (pre ++ [b, a] ++ post) = xorV (runN s (pre ++ [a, b] ++ post)) (zerosB post.length (0, 0, 0, 0, a ^^^ b, a ^^^ b)) := by
  have h := ok_run hs hp
  rw [run_app, run_app, run_app, run_app]
  show runN (fwdN (fwdN _ b) a) post = xorV (runN (fwdN (fwdN _ a) b) post) _
  rw [fwd_swap]
  have hx := x32 ha hb
  exact run_xor (ok_fwd (ok_fwd h ha) hb) ⟨Nat.zero_lt_succ _, Nat.zero_lt_succ _, Nat.zero_lt_succ _, Nat.zero_lt_succ _, hx, hx⟩ hq
end Mine
end
section
open PySem PySem.W PySem.Calls PyProof.Rows
set_option maxRecDepth 100000
set_option linter.unusedVariables false
namespace Mine
def castV (v : N6) : List Int := [(v.1 : Int), (v.2.1 : Int), (v.2.2.1 : Int), (v.2.2.2.1 : Int), (v.2.2.2.2.1 : Int), (v.2.2.2.2.2 : Int)]
def lowZ : Nat → List Int
  | 0 => [0, 0, 0, 0, 0, 1]
  | k + 1 => fwdZ (lowZ k) 0
theorem fwd_cast {v : N6} (n : Nat) : fwdZ (castV v) (n : Int) = castV (fwdN v n) := by
  obtain ⟨u, v, w, x, y, z⟩ := v
  have e : ∀ c a b : Nat, c < 32 → Builtin.bitXor (tabZ (c : Int) (a : Int)) (b : Int) = ((b ^^^ tN c a : Nat) : Int) := fun c a b hc => by
    rw [tN_eq hc, bx, Nat.xor_comm]
  show [Builtin.bitXor (tabZ ((29 : Nat) : Int) (u : Int)) (v : Int), Builtin.bitXor (tabZ ((22 : Nat) : Int) (u : Int)) (w : Int), Builtin.bitXor (tabZ ((20 : Nat) : Int) (u : Int)) (x : Int), Builtin.bitXor (tabZ ((21 : Nat) : Int) (u : Int)) (y : Int), Builtin.bitXor (tabZ ((29 : Nat) : Int) (u : Int)) (z : Int), Builtin.bitXor (tabZ ((18 : Nat) : Int) (u : Int)) (n : Int)] = _
  rw [e 29 u v (by decide), e 22 u w (by decide), e 20 u x (by decide), e 21 u y (by decide), e 29 u z (by decide), e 18 u n (by decide)]
  rfl
theorem low_is : ∀ k, lowZ k = castV (zerosB k oneN)
  | 0 => rfl
  | k + 1 => by
    show fwdZ (lowZ k) 0 = castV (zeroB (zerosB k oneN))
    rw [low_is k, ← zero_B (ok_zeros ok_one k)]
    exact fwd_cast 0
theorem low_lowZ (k : Nat) : ∀ n ∈ lowZ k, low n := by
  rw [low_is]
  have h := ok_zeros ok_one k
  generalize zerosB k oneN = v at h
  obtain ⟨u, v, w, x, y, z⟩ := v
  obtain ⟨a1, a2, a3, a4, a5, a6⟩ := h
  dsimp only at a1 a2 a3 a4 a5 a6
  intro n hn
  simp only [castV, List.mem_cons, List.not_mem_nil, or_false] at hn
  unfold low
  omega
theorem lowZ_len (k : Nat) : (lowZ k).length = 6 := by rw [low_is]; rfl
theorem lowZ_six (k : Nat) : lowZ k = [(lowZ k).getD 0 0, (lowZ k).getD 1 0, (lowZ k).getD 2 0, (lowZ k).getD 3 0, (lowZ k).getD 4 0, (lowZ k).getD 5 0] := by
  rw [low_is]; rfl
def turnZ (t : Int) (k : Nat) : List Int := (List.range 6).map fun j => timesZ t (Builtin.bitXor ((lowZ k).getD j 0) ((lowZ (k + 1)).getD j 0))
theorem turn_is {t k : Nat} (ht : t < 32) (hk : k < 13) : turnZ (t : Int) k = castV (mulV t (pairW k)) := by
  have h := pair_is k hk
  have h1 := ok_zeros ok_one k
  have h2 := ok_zeros ok_one (k + 1)
  unfold turnZ
  rw [low_is, low_is]
  unfold oneN at *
  rw [← h]
  generalize zerosB k (0, 0, 0, 0, 0, 1) = v at h1 h
  generalize zerosB (k + 1) (0, 0, 0, 0, 0, 1) = v' at h2 h
  obtain ⟨a, b, c, d, e, f⟩ := v
  obtain ⟨a', b', c', d', e', f'⟩ := v'
  obtain ⟨g1, g2, g3, g4, g5, g6⟩ := h1
  obtain ⟨k1, k2, k3, k4, k5, k6⟩ := h2
  dsimp only at g1 g2 g3 g4 g5 g6 k1 k2 k3 k4 k5 k6
  have key : ∀ p q : Nat, p < 32 → q < 32 → timesZ (t : Int) (Builtin.bitXor (p : Int) (q : Int)) = ((mulB t (p ^^^ q) : Nat) : Int) := fun p q hp hq => by
    rw [bx, times_B t ht _ (x32 hp hq)]
  show [timesZ (t : Int) (Builtin.bitXor (a : Int) (a' : Int)), timesZ (t : Int) (Builtin.bitXor (b : Int) (b' : Int)), timesZ (t : Int) (Builtin.bitXor (c : Int) (c' : Int)), timesZ (t : Int) (Builtin.bitXor (d : Int) (d' : Int)), timesZ (t : Int) (Builtin.bitXor (e : Int) (e' : Int)), timesZ (t : Int) (Builtin.bitXor (f : Int) (f' : Int))] = _
  rw [key a a' g1 k1, key b b' g2 k2, key c c' g3 k3, key d d' g4 k4, key e e' g5 k5, key f f' g6 k6]
  rfl
theorem castV_inj {s t : N6} (h : castV s = castV t) : s = t := by
  obtain ⟨u, v, w, x, y, z⟩ := s
  obtain ⟨a, b, c, d, e, f⟩ := t
  simp only [castV, List.cons.injEq, and_true] at h
  simp only [Prod.mk.injEq]
  omega
/-- two neighbours exchanged -/
def swapZ (cs : List Int) (p : Nat) : List Int := cs.take p ++ [cs.getD (p + 1) 0, cs.getD p 0] ++ cs.drop (p + 2)
def diffN (cs : List Int) (p : Nat) : Nat := (cs.getD p 0).toNat ^^^ (cs.getD (p + 1) 0).toNat
theorem list_at {cs : List Int} {p : Nat} (h : p + 2 ≤ cs.length) : cs = cs.take p ++ [cs.getD p 0, cs.getD (p + 1) 0] ++ cs.drop (p + 2) := by
  have e1 : cs.drop p = cs.getD p 0 :: cs.drop (p + 1) := by
    rw [List.drop_eq_getElem_cons (by omega), List.getD, List.getElem?_eq_getElem (by omega)]; rfl
  have e2 : cs.drop (p + 1) = cs.getD (p + 1) 0 :: cs.drop (p + 2) := by
    rw [List.drop_eq_getElem_cons (by omega), List.getD, List.getElem?_eq_getElem (by omega)]; rfl
  conv => lhs; rw [← List.take_append_drop p cs, e1, e2]
  simp only [List.append_assoc, List.cons_append, List.nil_append]
theorem swap_len {cs : List Int} {p : Nat} (h : p + 2 ≤ cs.length) : (swapZ cs p).length = cs.length := by
  unfold swapZ
  simp only [List.length_append, List.length_take, List.length_drop, List.length_cons, List.length_nil]
  omega
theorem swap_mem {cs : List Int} {p : Nat} (h : p + 2 ≤ cs.length) {P : Int → Prop} (hp : ∀ n ∈ cs, P n) : ∀ n ∈ swapZ cs p, P n := by
  have g : ∀ i, i < cs.length → P (cs.getD i 0) := fun i hi => by
    rw [List.getD, List.getElem?_eq_getElem hi]; exact hp _ (List.getElem_mem hi)
  intro n hn
  unfold swapZ at hn
  simp only [List.mem_append, List.mem_cons, List.not_mem_nil, or_false] at hn
  rcases hn with (hn | rfl | rfl) | hn
  · exact hp _ (List.mem_of_mem_take hn)
  · exact g _ (by omega)
  · exact g _ (by omega)
  · exact hp _ (List.mem_of_mem_drop hn)
theorem diff_lt {cs : List Int} (h : ∀ n ∈ cs, 0 ≤ n ∧ n < 32) (p : Nat) : diffN cs p < 32 := by
  have g : ∀ i, (cs.getD i 0).toNat < 32 := fun i => by
    rcases Nat.lt_or_ge i cs.length with hi | hi
    · rw [List.getD, List.getElem?_eq_getElem hi]
      have := h _ (List.getElem_mem hi)
      show (cs[i]).toNat < 32
      omega
    · rw [List.getD, List.getElem?_eq_none hi]; decide
  exact x32 (g _) (g _)
theorem swap_told {x : Str} {cs : List Int} {p : Nat} (hx : ∀ c ∈ x.cps.toList, c ≤ 126) (hb : ∀ n ∈ cs, 0 ≤ n ∧ n < 32) (hp : p + 2 ≤ cs.length) (hn : cs.length ≤ 14) (h1 : polyZ (expandZ x ++ cs) = 1) :
    polyZ (expandZ x ++ swapZ cs p) = (packN (xorV oneN (mulV (diffN cs p) (pairW (cs.length - 2 - p)))) : Int) := by
  have hE := expand_low hx
  have hs := swap_mem hp hb
  have l1 : ∀ n ∈ expandZ x ++ cs, 0 ≤ n ∧ n < 32 := fun n hn => (List.mem_append.mp hn).elim (hE n) (hb n)
  have l2 : ∀ n ∈ expandZ x ++ swapZ cs p, 0 ≤ n ∧ n < 32 := fun n hn => (List.mem_append.mp hn).elim (hE n) (hs n)
  have r1 := (poly_one l1).mp h1
  have e2 : polyZ (expandZ x ++ swapZ cs p) = (packN (runN oneN (natsOf (expandZ x ++ swapZ cs p))) : Int) := by
    rw [← poly_N (natsOf_lt l2), natsOf_cast l2]
  rw [e2]
  rw [natsOf_app, run_app] at r1 ⊢
  have hst := ok_run ok_one (natsOf_lt hE)
  generalize runN oneN (natsOf (expandZ x)) = S at *
  have g : ∀ i, i < cs.length → (cs.getD i 0).toNat < 32 := fun i hi => by
    have := hb (cs.getD i 0) (by rw [List.getD, List.getElem?_eq_getElem hi]; exact List.getElem_mem hi)
    omega
  have ec : natsOf cs = natsOf (cs.take p) ++ [(cs.getD p 0).toNat, (cs.getD (p + 1) 0).toNat] ++ natsOf (cs.drop (p + 2)) := by
    conv => lhs; rw [list_at hp]
    rw [natsOf_app, natsOf_app]; rfl
  have es : natsOf (swapZ cs p) = natsOf (cs.take p) ++ [(cs.getD (p + 1) 0).toNat, (cs.getD p 0).toNat] ++ natsOf (cs.drop (p + 2)) := by
    unfold swapZ
    rw [natsOf_app, natsOf_app]; rfl
  have hlen : (natsOf (cs.drop (p + 2))).length = cs.length - 2 - p := by
    unfold natsOf; rw [List.length_map, List.length_drop]; omega
  rw [es, run_swap hst (natsOf_lt fun n hn => hb n (List.mem_of_mem_take hn)) (natsOf_lt fun n hn => hb n (List.mem_of_mem_drop hn)) (g p (by omega)) (g (p + 1) (by omega)), ← ec, r1, hlen]
  rw [show (cs.getD p 0).toNat ^^^ (cs.getD (p + 1) 0).toNat = diffN cs p from rfl, pair_mul _ (by omega) _ (diff_lt hb p)]
theorem xor_eq {a b : Nat} (h : a ^^^ b = 0) : a = b := by
  have h2 : a ^^^ (a ^^^ b) = a := by rw [h, Nat.xor_zero]
  rw [← Nat.xor_assoc, Nat.xor_self, Nat.zero_xor] at h2
  exact h2.symm
theorem diff_zero {cs : List Int} {p : Nat} (hb : ∀ n ∈ cs, 0 ≤ n ∧ n < 32) (hp : p + 2 ≤ cs.length) : diffN cs p = 0 ↔ swapZ cs p = cs := by
  have g : ∀ i, i < cs.length → 0 ≤ cs.getD i 0 := fun i hi =>
    (hb (cs.getD i 0) (by rw [List.getD, List.getElem?_eq_getElem hi]; exact List.getElem_mem hi)).1
  have g1 := g p (by omega)
  have g2 := g (p + 1) (by omega)
  constructor
  · intro h
    have h' : (cs.getD p 0).toNat = (cs.getD (p + 1) 0).toNat := xor_eq h
    have e : cs.getD p 0 = cs.getD (p + 1) 0 := by omega
    unfold swapZ
    conv => rhs; rw [list_at hp]
    rw [e]
  · intro h
    have h2 : swapZ cs p = cs.take p ++ [cs.getD p 0, cs.getD (p + 1) 0] ++ cs.drop (p + 2) := h.trans (list_at hp)
    unfold swapZ at h2
    have h3 := List.append_cancel_left (List.append_cancel_right h2)
    have h4 : cs.getD (p + 1) 0 = cs.getD p 0 := (List.cons.inj h3).1
    unfold diffN
    rw [h4, Nat.xor_self]
end Mine
end
section
open PySem PySem.W PySem.Calls PyProof.Rows
set_option maxRecDepth 100000
set_option linter.unusedVariables false
namespace Mine
def dueV (cs : List Int) (p : Nat) : N6 := mulV (diffN cs p) (pairW (cs.length - 2 - p))
theorem ok_due (cs : List Int) (p : Nat) : okN (dueV cs p) := ok_mul _ _
theorem xor_one_one (v : N6) : xorV (xorV oneN v) oneN = v := by
  obtain ⟨a, b, c, d, e, f⟩ := v
  unfold xorV oneN
  simp only [Nat.zero_xor, Nat.xor_zero]
  rw [Nat.xor_comm 1 f, Nat.xor_assoc, Nat.xor_self, Nat.xor_zero]
theorem told_pack {x : Str} {cs : List Int} {p : Nat} (hx : ∀ c ∈ x.cps.toList, c ≤ 126) (hb : ∀ n ∈ cs, 0 ≤ n ∧ n < 32) (hp : p + 2 ≤ cs.length) (hn : cs.length ≤ 14) (h1 : polyZ (expandZ x ++ cs) = 1) :
    Builtin.bitXor (polyZ (expandZ x ++ swapZ cs p)) 1 = (packN (dueV cs p) : Int) := by
  rw [swap_told hx hb hp hn h1]
  have e : Builtin.bitXor (packN (xorV oneN (dueV cs p)) : Int) ((packN oneN : Nat) : Int) = (packN (dueV cs p) : Int) := by
    rw [bx, pack_xor (ok_xor ok_one (ok_due cs p)) ok_one, xor_one_one]
  exact e
theorem pack_lt {v : N6} (h : okN v) : (packN v : Int) < 1073741824 := by
  obtain ⟨a, b, c, d, e, f⟩ := v
  obtain ⟨a1, a2, a3, a4, a5, a6⟩ := h
  dsimp only at a1 a2 a3 a4 a5 a6
  unfold packN; dsimp only; omega
theorem swap_one {x : Str} {cs : List Int} {p : Nat} (hx : ∀ c ∈ x.cps.toList, c ≤ 126) (hb : ∀ n ∈ cs, 0 ≤ n ∧ n < 32) (hp : p + 2 ≤ cs.length) (hn : cs.length ≤ 14) (h1 : polyZ (expandZ x ++ cs) = 1) :
    polyZ (expandZ x ++ swapZ cs p) = 1 ↔ swapZ cs p = cs := by
  constructor
  · intro h
    have h2 := told_pack hx hb hp hn h1
    rw [h] at h2
    have h3 : packN (dueV cs p) = 0 := by
      have : Builtin.bitXor 1 1 = 0 := by decide
      omega
    have h4 : dueV cs p = zeroV := pack_inj (ok_due cs p) (by unfold okN zeroV; decide) h3
    rw [← diff_zero hb hp]
    exact Decidable.byContradiction fun h0 => pair_some _ (by omega) _ (diff_lt hb p) h0 h4
  · intro h; rw [h]; exact h1
def sixZ (T : Int) : List Int := (List.range 6).map fun i : Nat => (T.fdiv (32 ^ (5 - (0 + (i : Int))).toNat)).fmod 32
theorem six_pack {v : N6} (h : okN v) : sixZ (packN v : Int) = castV v := by
  obtain ⟨a, b, c, d, e, f⟩ := v
  obtain ⟨a1, a2, a3, a4, a5, a6⟩ := h
  dsimp only at a1 a2 a3 a4 a5 a6
  have key : ∀ (i k : Nat), (32 : Int) ^ (5 - (0 + (i : Int))).toNat = (k : Int) → 0 < k → (((packN (a, b, c, d, e, f) : Nat) : Int).fdiv (32 ^ (5 - (0 + (i : Int))).toNat)).fmod 32 = ((packN (a, b, c, d, e, f) / k % 32 : Nat) : Int) := by
    intro i k hk h0
    rw [hk, Int.fdiv_eq_ediv_of_nonneg _ (by omega), Int.fmod_eq_emod_of_nonneg _ (by decide)]
    omega
  show [_, _, _, _, _, _] = castV _
  dsimp only
  rw [key 0 33554432 (by decide) (by decide), key 1 1048576 (by decide) (by decide), key 2 32768 (by decide) (by decide), key 3 1024 (by decide) (by decide), key 4 32 (by decide) (by decide), key 5 1 (by decide) (by decide)]
  unfold packN castV
  dsimp only
  congr 1
  · omega
  congr 1
  · omega
  congr 1
  · omega
  congr 1
  · omega
  congr 1
  · omega
  congr 1
  omega
theorem swap_getA {cs : List Int} {p : Nat} (h : p + 2 ≤ cs.length) : (swapZ cs p).getD p 0 = cs.getD (p + 1) 0 := by
  have hl : (cs.take p).length = p := by rw [List.length_take]; omega
  unfold swapZ
  rw [List.append_assoc, List.getD, List.getElem?_append_right (by omega), hl, Nat.sub_self]; rfl
theorem swap_getB {cs : List Int} {p : Nat} (h : p + 2 ≤ cs.length) : (swapZ cs p).getD (p + 1) 0 = cs.getD p 0 := by
  have hl : (cs.take p).length = p := by rw [List.length_take]; omega
  unfold swapZ
  rw [List.append_assoc, List.getD, List.getElem?_append_right (by omega), hl, Nat.add_sub_cancel_left]; rfl
def turnOf (cs : List Int) (p i : Nat) : Int := Builtin.bitXor ((swapZ cs p).getD (cs.length - 1 - i) 0) ((swapZ cs p).getD (cs.length - 2 - i) 0)
theorem low_swap {cs : List Int} {p : Nat} (h : p + 2 ≤ cs.length) (hb : ∀ n ∈ cs, 0 ≤ n ∧ n < 32) : ∀ n ∈ swapZ cs p, low n := fun n hn => swap_mem h hb n hn
theorem turn_fits {cs : List Int} {p i : Nat} (hb : ∀ n ∈ cs, 0 ≤ n ∧ n < 32) (hp : p + 2 ≤ cs.length) (hn : cs.length ≤ 14) (hi : i + 1 < cs.length) :
    (turnOf cs p i ≠ 0 ∧ turnZ (turnOf cs p i) i = castV (dueV cs p)) ↔ (i = cs.length - 2 - p ∧ swapZ cs p ≠ cs) := by
  have hl := low_swap hp hb
  have lt : low (turnOf cs p i) := low_xor (low_getD hl _) (low_getD hl _)
  obtain ⟨t, ht, et⟩ := low_nat lt
  rw [et, turn_is ht (by omega)]
  have hz := diff_zero hb hp
  constructor
  · rintro ⟨h0, h1⟩
    have h2 := pair_fits (by omega) (by omega) ht (diff_lt hb p) (by omega) (castV_inj h1)
    exact ⟨h2.1, fun h => h2.2 (hz.mpr h)⟩
  · rintro ⟨rfl, h0⟩
    have e : t = diffN cs p := by
      have h1 : turnOf cs p (cs.length - 2 - p) = ((diffN cs p : Nat) : Int) := by
        unfold turnOf
        rw [show cs.length - 1 - (cs.length - 2 - p) = p + 1 by omega, show cs.length - 2 - (cs.length - 2 - p) = p by omega, swap_getA hp, swap_getB hp]
        have g : ∀ i, i < cs.length → cs.getD i 0 = ((cs.getD i 0).toNat : Int) := fun i hi => by
          have := hb (cs.getD i 0) (by rw [List.getD, List.getElem?_eq_getElem hi]; exact List.getElem_mem hi)
          omega
        rw [g p (by omega), g (p + 1) (by omega), bx]; rfl
      omega
    refine ⟨fun h => h0 (hz.mp (by omega)), ?_⟩
    rw [e]; rfl
theorem signN_inj : ∀ a : Nat, a < 32 → ∀ b : Nat, b < 32 → signN (a : Int) = signN (b : Int) → a = b := by decide +kernel
theorem signs_inj : ∀ {a b : List Int}, (∀ n ∈ a, 0 ≤ n ∧ n < 32) → (∀ n ∈ b, 0 ≤ n ∧ n < 32) → a.map signN = b.map signN → a = b
  | [], [], _, _, _ => rfl
  | [], _ :: _, _, _, h => by cases h
  | _ :: _, [], _, _, h => by cases h
  | x :: r, y :: q, ha, hb, h => by
    have h1 := (List.cons.inj h).1
    have h2 := signs_inj (a := r) (b := q) (fun n hn => ha n (.tail _ hn)) (fun n hn => hb n (.tail _ hn)) (List.cons.inj h).2
    have hx := ha x (.head _)
    have hy := hb y (.head _)
    obtain ⟨i, rfl⟩ := Int.eq_ofNat_of_zero_le hx.1
    obtain ⟨j, rfl⟩ := Int.eq_ofNat_of_zero_le hy.1
    have := signN_inj i (by omega) j (by omega) h1
    rw [this, h2]
def signsT (ns : List Int) : Str := ⟨(ns.map signN).toArray⟩
theorem signsT_len (cs : List Int) : (signsT cs).length = cs.length := by simp [signsT, PySem.Str.length]
theorem signsT_eq {a b : List Int} (ha : ∀ n ∈ a, 0 ≤ n ∧ n < 32) (hb : ∀ n ∈ b, 0 ≤ n ∧ n < 32) : signsT a = signsT b ↔ a = b := by
  constructor
  · intro h
    refine signs_inj ha hb ?_
    have := congrArg (fun s : Str => s.cps.toList) h
    simpa [signsT] using this
  · rintro rfl; rfl
theorem signs_item {cs : List Int} {k : Nat} (h : k < cs.length) : Txt.item (signsT cs) (k : Int) = ⟨#[signN (cs.getD k 0)]⟩ := by
  unfold Txt.item
  have hsz : (signsT cs).length = cs.length := by simp [signsT, PySem.Str.length]
  have e : Txt.charAt (signsT cs) (k : Int) = some (signN (cs.getD k 0)) := by
    unfold Txt.charAt
    have e1 : PySem.seqIndex? (k : Int) (signsT cs).length = some k := by
      unfold PySem.seqIndex?
      rw [hsz]
      split <;> (try split) <;> (try simp) <;> omega
    rw [e1]
    show (signsT cs).cps[k]? = _
    rw [← Array.getElem?_toList]
    show (cs.map signN)[k]? = _
    rw [List.getElem?_map, List.getD, List.getElem?_eq_getElem h]; rfl
  rw [e]; rfl
theorem made_is {cs : List Int} {p : Nat} (h : p + 2 ≤ cs.length) :
    Txt.slice (signsT cs) none (some (p : Int)) ++ Txt.item (signsT cs) ((p : Int) + 1) ++ Txt.item (signsT cs) (p : Int) ++ Txt.slice (signsT cs) (some ((p : Int) + 2)) none = signsT (swapZ cs p) := by
  have hs : (signsT cs).cps.size = cs.length := by simp [signsT]
  rw [slice_upto _ _ (by omega), show ((p : Int) + 2) = ((p + 2 : Nat) : Int) from rfl, slice_from _ _ (by omega), show ((p : Int) + 1) = ((p + 1 : Nat) : Int) from rfl, signs_item (by omega), signs_item (by omega)]
  have e : (signsT cs).cps.toList = cs.map signN := by simp [signsT]
  rw [e]
  refine Str.ext' ?_
  simp only [Str.cps_append, signsT, swapZ, List.map_append, List.map_take, List.map_drop, List.map_cons, List.map_nil]
  simp only [← Array.toList_inj]
  simp
end Mine
end
section
open PySem PySem.W PySem.Calls PyProof.Rows
set_option maxRecDepth 100000
set_option linter.unusedVariables false
namespace Mine
open LCg

local macro_rules | `(tactic| walk_at "binaryOp LShift int int") => `(tactic| (refine lshift_int_small (by decide) (by decide) (bits_and25 _) ?_))
local macro_rules | `(tactic| walk_at "stop") => `(tactic| first
  | (with_reducible show wpAny _ _ (exec (Stmt.For _ _ _ _ _) _) _ _ _)
  | (with_reducible show wpAny _ _ (exec (Stmt.Assign _ (Expr.ListComp _ _ _ _) _) _) _ _ _)
  | (with_reducible show wpAny _ _ (exec (Stmt.While _ _ _ _) _) _ _ _)
  | (with_reducible show wpAny _ _ (eval (Expr.ListComp _ _ _ _) _) _ _ _)
  | (with_reducible show wpAny _ _ (eval (Expr.GeneratorExp _ _ _ _) _) _ _ _)
  | (with_reducible show wpAny _ _ (call (Value.builtin "any") _) _ _ _)
  | (with_reducible show wpAny _ _ (call (Value.builtin "all") _) _ _ _)
  | (with_reducible show wpAny _ _ (pyIter _) _ _ _))
local macro_rules | `(tactic| walk_at "S") => `(tactic| repeat' (first
  | (k_unfold; (try dsimp only))
  | ((with_reducible show Frag.In _ _ ∧ _); walk1)
  | (fail_if_success (k_end; skip)); (fail_if_success walk_at "stop"); first | walk1 | (dsimp only; walk1)))
local macro_rules | `(tactic| walk_at "lits") => `(tactic| first | exact IntsAre.nil | (refine IntsAre.cons _ _ ?_; walk_at "lits"))
local macro_rules | `(tactic| walk_at "one") => `(tactic| exact List.forall_mem_cons.mpr ⟨rfl, List.forall_mem_nil _⟩)
local macro_rules | `(tactic| walk_at "others") => `(tactic| (intro z h1 h2 h3; have h4 := h2 _ (.head _); simp only [kstB, if_neg h1, if_neg h4, h3, Bool.false_eq_true, if_false]))
local macro_rules | `(tactic| walk_at "len") => `(tactic| ((try simp only [List.length_append, List.length_cons, List.length_nil, List.length_map, expandZ_len, checkZ_len, rangeKs_length] at *); omega))
local macro_rules | `(tactic| walk_at "binaryOp Add ref ref") => `(tactic| (k_here; k_dflt (refine' addInts ?F ?N ?l ?b ?i ?j ?z ?_; (case F => k_asm); (case N => k_asm); (case l => walk_at "alist"); (case b => walk_at "alist"); (case i => first | assumption | l_ints); (case j => first | assumption | l_ints); (case z => walk_at "len"); intro D' arr' k' h' F' N' hI' o1'; (try simp only [LCg.Off1, and_true] at o1'))))
local macro_rules | `(tactic| walk_at "room") => `(tactic| (dsimp only [AA]; omega))
local macro_rules | `(tactic| walk_at "top") => `(tactic| exact Top.keeps (by assumption) (Fr.keep (by k_asm)))
local macro_rules | `(tactic| walk_at "alist") => `(tactic| first | (with_reducible assumption) | exact isList_in (by k_asm) (by k_mem) | (refine Heap.IsList.at (h := _) (by assumption) (fun o e => Fr.keep (by k_asm) _ o e)))
local macro_rules | `(tactic| walk_at "call ref") => `(tactic| (k_here; k_dflt (refine' expand_spec ?X ?T ?d ?x ?_; (case X => k_in); (case T => walk_at "top"); (case d => walk_at "room"); (case x => first | assumption | omega); intro l' arr' k' h' tk' hg' hn' ho' hI'; have hb' := backL (by k_asm) (by k_asm) hg' hn' ho'; obtain ⟨F', N', o1'⟩ := hb'; (try simp only [LCg.Off1, and_true] at o1'))))
local macro_rules | `(tactic| walk_at "call ref") => `(tactic| (k_here; k_dflt (refine' poly_spec ?X ?T ?d ?l ?i ?_; (case X => k_in); (case T => walk_at "top"); (case d => walk_at "room"); (case l => walk_at "alist"); (case i => assumption); intro t' h' tk' hg'; have hb' := backI (by k_asm) (by k_asm) hg'; obtain ⟨F', N'⟩ := hb')))
local macro_rules | `(tactic| walk_at "call ref") => `(tactic| (k_here; k_dflt (refine' create_spec ?X ?T ?d ?x ?l ?i ?n ?_; (case X => k_in); (case T => walk_at "top"); (case d => walk_at "room"); (case x => first | assumption | omega); (case l => walk_at "alist"); (case i => assumption); (case n => walk_at "len"); intro l' arr' k' h' tk' hg' hn' ho' hI'; have hb' := backL (by k_asm) (by k_asm) hg' hn' ho'; obtain ⟨F', N', o1'⟩ := hb'; (try simp only [LCg.Off1, and_true] at o1'))))
local macro_rules | `(tactic| walk_at "call ref") => `(tactic| (k_here; k_dflt (refine' verify_spec ?X ?T ?d ?x ?l ?i ?n ?_; (case X => k_in); (case T => walk_at "top"); (case d => walk_at "room"); (case x => first | assumption | omega); (case l => walk_at "alist"); (case i => assumption); (case n => walk_at "len"); intro h' tk' hg'; have hb' := backI (by k_asm) (by k_asm) hg'; obtain ⟨F', N'⟩ := hb')))
local macro_rules | `(tactic| walk_at "slen") => `(tactic| ((try simp only [PySem.Str.length_append, len_one, len_one2, PySem.Str.length, Array.size_append, List.size_toArray, List.length_map, List.length_append, checkZ_len] at *); rw [sizeLine_eq]; omega))
local macro_rules | `(tactic| walk_at "binaryOp Add str str") => `(tactic| (k_dflt (refine' PyProof.Rows.add_str ?_ ?z; (case z => walk_at "slen"); intro t' tk')))
local macro_rules | `(tactic| walk_at "subscriptTail Name Name str int") => `(tactic| (k_dflt (refine item_str (x := CH) (fitsSsize_of (N := 9223372036854775808) (by omega) (by omega) (Int.le_refl _)) (by rw [ch_len]; omega) (by rw [ch_len]; omega) ?_; intro _)))
local macro_rules | `(tactic| walk_at "eval Name") => `(tactic| (k_here; (with_reducible show wpAny _ _ (eval (Expr.Name _ _) (genEnv _ _ _ _ _ _)) _ _ _); k_dflt (first
  | (refine nameG_L (by k_asm) (by assumption) ?_)
  | (refine nameG_K (by k_asm) (by k_asm) (by k_asm) (by rfl) (by k_is) ?_)
  | (refine nameG_B (by k_asm) (by k_asm) (by k_asm) (by rfl) (by k_is) (by boot_by_name) (by decide) ?_))))
local macro_rules | `(tactic| walk_at "call builtin:len") => `(tactic| (k_here; (with_reducible show wpAny _ _ (call (Value.builtin "len") [Value.ref _]) _ _ _); k_dflt (refine' PyProof.Rows.len_list ?l ?z ?_; (case l => walk_at "alist"); (case z => walk_at "len"))))

set_option maxHeartbeats 4000000 in
theorem powers_spec {w : World} {dp un : Nat} {fr : Option (List Env)} {gd : Option (List Code)} {E : Value → Shared → Prop} {s : Shared} {p : Program} {loose : List Str} {mean : ExcName → Option Value} {mg mb : Str → Option Value} {Q : Value → Shared → Prop}
    (X : (Mine.hd.heap_39 w.params).In s.heap) (T : Top p loose mean mg mb s.heap) (hd : dp + 4 < recursionLimit)
    (ret : ∀ l arr k h' tk', Grow s h' → s.heap.get? l = none → h'.get? l = some (W.listOf arr k) → IntsAre arr.toList powL → Q (.ref l) { s with heap := h', toks := tk' }) :
    wpAny (model PySem.Challenge.rw_oo0007_02.row.prog w) (AA dp un fr gd) (call (.ref 55) []) Q E s := by
  revert X; k_fill; intro X
  refine enterK (binds := []) X T (by show dp < _; omega) (by k_is) (by k_is) (BindsTo.of_eq rfl) (locs rfl) ?_
  intro h₁ F N
  walk_at "S"
  exact ret _ _ _ _ _ (Fr.keep (by k_asm)) (News.fresh (by k_asm) (.head _)) (News.get (by k_asm) (.head _)) (by walk_at "lits")
set_option maxHeartbeats 4000000 in
theorem logs_spec {w : World} {dp un : Nat} {fr : Option (List Env)} {gd : Option (List Code)} {E : Value → Shared → Prop} {s : Shared} {p : Program} {loose : List Str} {mean : ExcName → Option Value} {mg mb : Str → Option Value} {Q : Value → Shared → Prop}
    (X : (Mine.hd.heap_39 w.params).In s.heap) (T : Top p loose mean mg mb s.heap) (hd : dp + 4 < recursionLimit)
    (ret : ∀ l arr k h' tk', Grow s h' → s.heap.get? l = none → h'.get? l = some (W.listOf arr k) → IntsAre arr.toList logL → Q (.ref l) { s with heap := h', toks := tk' }) :
    wpAny (model PySem.Challenge.rw_oo0007_02.row.prog w) (AA dp un fr gd) (call (.ref 62) []) Q E s := by
  revert X; k_fill; intro X
  refine enterK (binds := []) X T (by show dp < _; omega) (by k_is) (by k_is) (BindsTo.of_eq rfl) (locs rfl) ?_
  intro h₁ F N
  walk_at "S"
  exact ret _ _ _ _ _ (Fr.keep (by k_asm)) (News.fresh (by k_asm) (.head _)) (News.get (by k_asm) (.head _)) (by walk_at "lits")
end Mine
end
section
open PySem PySem.W PySem.Calls PyProof.Rows
set_option maxRecDepth 100000
set_option linter.unusedVariables false
namespace Mine
open LCg

local macro_rules | `(tactic| walk_at "binaryOp LShift int int") => `(tactic| (refine lshift_int_small (by decide) (by decide) (bits_and25 _) ?_))
local macro_rules | `(tactic| walk_at "stop") => `(tactic| first
  | (with_reducible show wpAny _ _ (exec (Stmt.For _ _ _ _ _) _) _ _ _)
  | (with_reducible show wpAny _ _ (exec (Stmt.Assign _ (Expr.ListComp _ _ _ _) _) _) _ _ _)
  | (with_reducible show wpAny _ _ (exec (Stmt.While _ _ _ _) _) _ _ _)
  | (with_reducible show wpAny _ _ (eval (Expr.ListComp _ _ _ _) _) _ _ _)
  | (with_reducible show wpAny _ _ (eval (Expr.GeneratorExp _ _ _ _) _) _ _ _)
  | (with_reducible show wpAny _ _ (call (Value.builtin "any") _) _ _ _)
  | (with_reducible show wpAny _ _ (call (Value.builtin "all") _) _ _ _)
  | (with_reducible show wpAny _ _ (pyIter _) _ _ _))
local macro_rules | `(tactic| walk_at "S") => `(tactic| repeat' (first
  | (k_unfold; (try dsimp only))
  | ((with_reducible show Frag.In _ _ ∧ _); walk1)
  | (fail_if_success (k_end; skip)); (fail_if_success walk_at "stop"); first | walk1 | (dsimp only; walk1)))
local macro_rules | `(tactic| walk_at "lits") => `(tactic| first | exact IntsAre.nil | (refine IntsAre.cons _ _ ?_; walk_at "lits"))
local macro_rules | `(tactic| walk_at "one") => `(tactic| exact List.forall_mem_cons.mpr ⟨rfl, List.forall_mem_nil _⟩)
local macro_rules | `(tactic| walk_at "others") => `(tactic| (intro z h1 h2 h3; have h4 := h2 _ (.head _); simp only [kstB, if_neg h1, if_neg h4, h3, Bool.false_eq_true, if_false]))
local macro_rules | `(tactic| walk_at "len") => `(tactic| ((try simp only [List.length_append, List.length_cons, List.length_nil, List.length_map, expandZ_len, checkZ_len, rangeKs_length] at *); omega))
local macro_rules | `(tactic| walk_at "binaryOp Add ref ref") => `(tactic| (k_here; k_dflt (refine' addInts ?F ?N ?l ?b ?i ?j ?z ?_; (case F => k_asm); (case N => k_asm); (case l => walk_at "alist"); (case b => walk_at "alist"); (case i => first | assumption | l_ints); (case j => first | assumption | l_ints); (case z => walk_at "len"); intro D' arr' k' h' F' N' hI' o1'; (try simp only [LCg.Off1, and_true] at o1'))))
local macro_rules | `(tactic| walk_at "room") => `(tactic| (dsimp only [AA]; omega))
local macro_rules | `(tactic| walk_at "top") => `(tactic| exact Top.keeps (by assumption) (Fr.keep (by k_asm)))
local macro_rules | `(tactic| walk_at "alist") => `(tactic| first | (with_reducible assumption) | exact isList_in (by k_asm) (by k_mem) | (refine Heap.IsList.at (h := _) (by assumption) (fun o e => Fr.keep (by k_asm) _ o e)))
local macro_rules | `(tactic| walk_at "call ref") => `(tactic| (k_here; k_dflt (refine' expand_spec ?X ?T ?d ?x ?_; (case X => k_in); (case T => walk_at "top"); (case d => walk_at "room"); (case x => first | assumption | omega); intro l' arr' k' h' tk' hg' hn' ho' hI'; have hb' := backL (by k_asm) (by k_asm) hg' hn' ho'; obtain ⟨F', N', o1'⟩ := hb'; (try simp only [LCg.Off1, and_true] at o1'))))
local macro_rules | `(tactic| walk_at "call ref") => `(tactic| (k_here; k_dflt (refine' poly_spec ?X ?T ?d ?l ?i ?_; (case X => k_in); (case T => walk_at "top"); (case d => walk_at "room"); (case l => walk_at "alist"); (case i => assumption); intro t' h' tk' hg'; have hb' := backI (by k_asm) (by k_asm) hg'; obtain ⟨F', N'⟩ := hb')))
local macro_rules | `(tactic| walk_at "call ref") => `(tactic| (k_here; k_dflt (refine' create_spec ?X ?T ?d ?x ?l ?i ?n ?_; (case X => k_in); (case T => walk_at "top"); (case d => walk_at "room"); (case x => first | assumption | omega); (case l => walk_at "alist"); (case i => assumption); (case n => walk_at "len"); intro l' arr' k' h' tk' hg' hn' ho' hI'; have hb' := backL (by k_asm) (by k_asm) hg' hn' ho'; obtain ⟨F', N', o1'⟩ := hb'; (try simp only [LCg.Off1, and_true] at o1'))))
local macro_rules | `(tactic| walk_at "call ref") => `(tactic| (k_here; k_dflt (refine' verify_spec ?X ?T ?d ?x ?l ?i ?n ?_; (case X => k_in); (case T => walk_at "top"); (case d => walk_at "room"); (case x => first | assumption | omega); (case l => walk_at "alist"); (case i => assumption); (case n => walk_at "len"); intro h' tk' hg'; have hb' := backI (by k_asm) (by k_asm) hg'; obtain ⟨F', N'⟩ := hb')))
local macro_rules | `(tactic| walk_at "slen") => `(tactic| ((try simp only [PySem.Str.length_append, len_one, len_one2, PySem.Str.length, Array.size_append, List.size_toArray, List.length_map, List.length_append, checkZ_len] at *); rw [sizeLine_eq]; omega))
local macro_rules | `(tactic| walk_at "binaryOp Add str str") => `(tactic| (k_dflt (refine' PyProof.Rows.add_str ?_ ?z; (case z => walk_at "slen"); intro t' tk')))
local macro_rules | `(tactic| walk_at "subscriptTail Name Name str int") => `(tactic| (k_dflt (refine item_str (x := CH) (fitsSsize_of (N := 9223372036854775808) (by omega) (by omega) (Int.le_refl _)) (by rw [ch_len]; omega) (by rw [ch_len]; omega) ?_; intro _)))
local macro_rules | `(tactic| walk_at "eval Name") => `(tactic| (k_here; (with_reducible show wpAny _ _ (eval (Expr.Name _ _) (genEnv _ _ _ _ _ _)) _ _ _); k_dflt (first
  | (refine nameG_L (by k_asm) (by assumption) ?_)
  | (refine nameG_K (by k_asm) (by k_asm) (by k_asm) (by rfl) (by k_is) ?_)
  | (refine nameG_B (by k_asm) (by k_asm) (by k_asm) (by rfl) (by k_is) (by boot_by_name) (by decide) ?_))))
local macro_rules | `(tactic| walk_at "call builtin:len") => `(tactic| (k_here; (with_reducible show wpAny _ _ (call (Value.builtin "len") [Value.ref _]) _ _ _); k_dflt (refine' PyProof.Rows.len_list ?l ?z ?_; (case l => walk_at "alist"); (case z => walk_at "len"))))

local macro_rules | `(tactic| walk_at "call ref") => `(tactic| (k_here; k_dflt (refine' powers_spec ?X ?T ?d ?_; (case X => k_in); (case T => walk_at "top"); (case d => walk_at "room"); intro l' arr' k' h' tk' hg' hn' ho' hI'; have hb' := backL (by k_asm) (by k_asm) hg' hn' ho'; obtain ⟨F', N', o1'⟩ := hb'; (try simp only [LCg.Off1, and_true] at o1'))))
local macro_rules | `(tactic| walk_at "call ref") => `(tactic| (k_here; k_dflt (refine' logs_spec ?X ?T ?d ?_; (case X => k_in); (case T => walk_at "top"); (case d => walk_at "room"); intro l' arr' k' h' tk' hg' hn' ho' hI'; have hb' := backL (by k_asm) (by k_asm) hg' hn' ho'; obtain ⟨F', N', o1'⟩ := hb'; (try simp only [LCg.Off1, and_true] at o1'))))
set_option maxHeartbeats 4000000 in
theorem times_spec {w : World} {dp un : Nat} {fr : Option (List Env)} {gd : Option (List Code)} {E : Value → Shared → Prop} {s : Shared} {p : Program} {loose : List Str} {mean : ExcName → Option Value} {mg mb : Str → Option Value} {Q : Value → Shared → Prop}
    {a b : Int} {ta tb : Tok}
    (X : (Mine.hd.heap_39 w.params).In s.heap) (T : Top p loose mean mg mb s.heap) (hd : dp + 8 < recursionLimit) (ha : low a) (hb : low b)
    (ret : ∀ t h' tk', Grow s h' → Q (.int (timesZ a b) t) { s with heap := h', toks := tk' }) :
    wpAny (model PySem.Challenge.rw_oo0007_02.row.prog w) (AA dp un fr gd) (call (.ref 88) [.int a ta, .int b tb]) Q E s := by
  revert X; k_fill; intro X
  refine enterK (binds := [("one", .int a ta), ("other", .int b tb)]) X T (by show dp < _; omega) (by k_is) (by k_is) (BindsTo.of_eq rfl) (locs rfl) ?_
  intro h₁ F N
  obtain ⟨a0, a1⟩ := ha
  obtain ⟨b0, b1⟩ := hb
  have hll : logL.length = 32 := by decide
  have hpl : powL.length = 31 := by decide
  walk_at "S"
  · have e : timesZ a b = 0 := if_pos (Or.inl (by assumption))
    rw [e] at ret; exact ret _ _ _ (Fr.keep (by k_asm))
  · have e : timesZ a b = 0 := if_pos (Or.inr (by assumption))
    rw [e] at ret; exact ret _ _ _ (Fr.keep (by k_asm))
  · have e : timesZ a b = _ := if_neg (fun h => h.elim (by assumption) (by assumption))
    rw [e] at ret; exact ret _ _ _ (Fr.keep (by k_asm))
end Mine
end
section
open PySem PySem.W PySem.Calls PyProof.Rows
set_option maxRecDepth 100000
set_option linter.unusedVariables false
namespace Mine
open LCg

local macro_rules | `(tactic| walk_at "binaryOp LShift int int") => `(tactic| (refine lshift_int_small (by decide) (by decide) (bits_and25 _) ?_))
local macro_rules | `(tactic| walk_at "stop") => `(tactic| first
  | (with_reducible show wpAny _ _ (exec (Stmt.For _ _ _ _ _) _) _ _ _)
  | (with_reducible show wpAny _ _ (exec (Stmt.Assign _ (Expr.ListComp _ _ _ _) _) _) _ _ _)
  | (with_reducible show wpAny _ _ (exec (Stmt.While _ _ _ _) _) _ _ _)
  | (with_reducible show wpAny _ _ (eval (Expr.ListComp _ _ _ _) _) _ _ _)
  | (with_reducible show wpAny _ _ (eval (Expr.GeneratorExp _ _ _ _) _) _ _ _)
  | (with_reducible show wpAny _ _ (call (Value.builtin "any") _) _ _ _)
  | (with_reducible show wpAny _ _ (call (Value.builtin "all") _) _ _ _)
  | (with_reducible show wpAny _ _ (pyIter _) _ _ _))
local macro_rules | `(tactic| walk_at "S") => `(tactic| repeat' (first
  | (k_unfold; (try dsimp only))
  | ((with_reducible show Frag.In _ _ ∧ _); walk1)
  | (fail_if_success (k_end; skip)); (fail_if_success walk_at "stop"); first | walk1 | (dsimp only; walk1)))
local macro_rules | `(tactic| walk_at "lits") => `(tactic| first | exact IntsAre.nil | (refine IntsAre.cons _ _ ?_; walk_at "lits"))
local macro_rules | `(tactic| walk_at "one") => `(tactic| exact List.forall_mem_cons.mpr ⟨rfl, List.forall_mem_nil _⟩)
local macro_rules | `(tactic| walk_at "others") => `(tactic| (intro z h1 h2 h3; have h4 := h2 _ (.head _); simp only [kstB, if_neg h1, if_neg h4, h3, Bool.false_eq_true, if_false]))
local macro_rules | `(tactic| walk_at "len") => `(tactic| ((try simp only [List.length_append, List.length_cons, List.length_nil, List.length_map, expandZ_len, checkZ_len, rangeKs_length] at *); omega))
local macro_rules | `(tactic| walk_at "binaryOp Add ref ref") => `(tactic| (k_here; k_dflt (refine' addInts ?F ?N ?l ?b ?i ?j ?z ?_; (case F => k_asm); (case N => k_asm); (case l => walk_at "alist"); (case b => walk_at "alist"); (case i => first | assumption | l_ints); (case j => first | assumption | l_ints); (case z => walk_at "len"); intro D' arr' k' h' F' N' hI' o1'; (try simp only [LCg.Off1, and_true] at o1'))))
local macro_rules | `(tactic| walk_at "room") => `(tactic| (dsimp only [AA]; omega))
local macro_rules | `(tactic| walk_at "top") => `(tactic| exact Top.keeps (by assumption) (Fr.keep (by k_asm)))
local macro_rules | `(tactic| walk_at "alist") => `(tactic| first | (with_reducible assumption) | exact isList_in (by k_asm) (by k_mem) | (refine Heap.IsList.at (h := _) (by assumption) (fun o e => Fr.keep (by k_asm) _ o e)))
local macro_rules | `(tactic| walk_at "call ref") => `(tactic| (k_here; k_dflt (refine' expand_spec ?X ?T ?d ?x ?_; (case X => k_in); (case T => walk_at "top"); (case d => walk_at "room"); (case x => first | assumption | omega); intro l' arr' k' h' tk' hg' hn' ho' hI'; have hb' := backL (by k_asm) (by k_asm) hg' hn' ho'; obtain ⟨F', N', o1'⟩ := hb'; (try simp only [LCg.Off1, and_true] at o1'))))
local macro_rules | `(tactic| walk_at "call ref") => `(tactic| (k_here; k_dflt (refine' poly_spec ?X ?T ?d ?l ?i ?_; (case X => k_in); (case T => walk_at "top"); (case d => walk_at "room"); (case l => walk_at "alist"); (case i => assumption); intro t' h' tk' hg'; have hb' := backI (by k_asm) (by k_asm) hg'; obtain ⟨F', N'⟩ := hb')))
local macro_rules | `(tactic| walk_at "call ref") => `(tactic| (k_here; k_dflt (refine' create_spec ?X ?T ?d ?x ?l ?i ?n ?_; (case X => k_in); (case T => walk_at "top"); (case d => walk_at "room"); (case x => first | assumption | omega); (case l => walk_at "alist"); (case i => assumption); (case n => walk_at "len"); intro l' arr' k' h' tk' hg' hn' ho' hI'; have hb' := backL (by k_asm) (by k_asm) hg' hn' ho'; obtain ⟨F', N', o1'⟩ := hb'; (try simp only [LCg.Off1, and_true] at o1'))))
local macro_rules | `(tactic| walk_at "call ref") => `(tactic| (k_here; k_dflt (refine' verify_spec ?X ?T ?d ?x ?l ?i ?n ?_; (case X => k_in); (case T => walk_at "top"); (case d => walk_at "room"); (case x => first | assumption | omega); (case l => walk_at "alist"); (case i => assumption); (case n => walk_at "len"); intro h' tk' hg'; have hb' := backI (by k_asm) (by k_asm) hg'; obtain ⟨F', N'⟩ := hb')))
local macro_rules | `(tactic| walk_at "slen") => `(tactic| ((try simp only [PySem.Str.length_append, len_one, len_one2, PySem.Str.length, Array.size_append, List.size_toArray, List.length_map, List.length_append, checkZ_len] at *); rw [sizeLine_eq]; omega))
local macro_rules | `(tactic| walk_at "binaryOp Add str str") => `(tactic| (k_dflt (refine' PyProof.Rows.add_str ?_ ?z; (case z => walk_at "slen"); intro t' tk')))
local macro_rules | `(tactic| walk_at "subscriptTail Name Name str int") => `(tactic| (k_dflt (refine item_str (x := CH) (fitsSsize_of (N := 9223372036854775808) (by omega) (by omega) (Int.le_refl _)) (by rw [ch_len]; omega) (by rw [ch_len]; omega) ?_; intro _)))
local macro_rules | `(tactic| walk_at "eval Name") => `(tactic| (k_here; (with_reducible show wpAny _ _ (eval (Expr.Name _ _) (genEnv _ _ _ _ _ _)) _ _ _); k_dflt (first
  | (refine nameG_L (by k_asm) (by assumption) ?_)
  | (refine nameG_K (by k_asm) (by k_asm) (by k_asm) (by rfl) (by k_is) ?_)
  | (refine nameG_B (by k_asm) (by k_asm) (by k_asm) (by rfl) (by k_is) (by boot_by_name) (by decide) ?_))))
local macro_rules | `(tactic| walk_at "call builtin:len") => `(tactic| (k_here; (with_reducible show wpAny _ _ (call (Value.builtin "len") [Value.ref _]) _ _ _); k_dflt (refine' PyProof.Rows.len_list ?l ?z ?_; (case l => walk_at "alist"); (case z => walk_at "len"))))

local macro_rules | `(tactic| walk_at "call ref") => `(tactic| (k_here; k_dflt (refine' powers_spec ?X ?T ?d ?_; (case X => k_in); (case T => walk_at "top"); (case d => walk_at "room"); intro l' arr' k' h' tk' hg' hn' ho' hI'; have hb' := backL (by k_asm) (by k_asm) hg' hn' ho'; obtain ⟨F', N', o1'⟩ := hb'; (try simp only [LCg.Off1, and_true] at o1'))))
local macro_rules | `(tactic| walk_at "call ref") => `(tactic| (k_here; k_dflt (refine' logs_spec ?X ?T ?d ?_; (case X => k_in); (case T => walk_at "top"); (case d => walk_at "room"); intro l' arr' k' h' tk' hg' hn' ho' hI'; have hb' := backL (by k_asm) (by k_asm) hg' hn' ho'; obtain ⟨F', N', o1'⟩ := hb'; (try simp only [LCg.Off1, and_true] at o1'))))
local macro_rules | `(tactic| walk_at "mems") => `(tactic| first | exact List.forall_mem_nil _ | exact List.forall_mem_cons.mpr ⟨by k_mem, by walk_at "mems"⟩)
local macro_rules | `(tactic| walk_at "told") => `(tactic| first | exact List.forall_mem_nil _ | exact List.forall_mem_cons.mpr ⟨rfl, by walk_at "told"⟩)
local macro_rules | `(tactic| walk_at "subscriptTail Name Name ref int") => `(tactic| (k_dflt (refine' tab_item ?l ?i ?a ?b ?_; (case l => walk_at "alist"); (case i => with_reducible assumption); (case a => first | with_reducible assumption | omega); (case b => first | with_reducible assumption | omega); intro _)))
local macro_rules | `(tactic| walk_at "subscriptTail Name BinOp ref int") => `(tactic| (k_dflt (refine' tab_item ?l ?i ?a ?b ?_; (case l => walk_at "alist"); (case i => with_reducible assumption); (case a => first | with_reducible assumption | omega); (case b => first | with_reducible assumption | omega); intro _)))

local macro_rules | `(tactic| walk_at "assign Tuple") => `(tactic| (k_here; (with_reducible show wpAny _ _ (assign (Expr.Tuple _ _ _) _ (Value.ref _)) _ _ _); k_dflt (refine' kun_list ?k1 ?k2 ?k3 ?k4 ?k5 ?k6 ?_; (case k1 => k_asm); (case k2 => k_asm); (case k3 => walk_at "alist"); (case k4 => exact rfl); (case k5 => exact rfl); (case k6 => exact rfl); k_whole); intro h' F' N'))
theorem ints6 {vs : List Value} {a b c d e f : Int} (h : IntsAre vs [a, b, c, d, e, f]) : ∃ t1 t2 t3 t4 t5 t6, vs = [.int a t1, .int b t2, .int c t3, .int d t4, .int e t5, .int f t6] := by
  cases h with
  | cons _ t1 h => cases h with
    | cons _ t2 h => cases h with
      | cons _ t3 h => cases h with
        | cons _ t4 h => cases h with
          | cons _ t5 h => cases h with
            | cons _ t6 h => cases h; exact ⟨_, _, _, _, _, _, rfl⟩
set_option maxHeartbeats 4000000 in
theorem run_spec {w : World} {dp un : Nat} {fr : Option (List Env)} {gd : Option (List Code)} {E : Value → Shared → Prop} {s : Shared} {p : Program} {loose : List Str} {mean : ExcName → Option Value} {mg mb : Str → Option Value} {Q : Value → Shared → Prop}
    {sl vl tl a29 a22 a20 a21 a18 : Addr} {sarr va r29 r22 r20 r21 r18 : Array Value} {u v x y z q : Int} {vs : List Int}
    (X : (Mine.hd.heap_39 w.params).In s.heap) (T : Top p loose mean mg mb s.heap) (hd : dp + 8 < recursionLimit)
    (hs : s.heap.IsList sl sarr) (his : IntsAre sarr.toList [u, v, x, y, z, q]) (hv : s.heap.IsList vl va) (hiv : IntsAre va.toList vs) (hlv : ∀ n ∈ vs, low n) (hls : ∀ n ∈ [u, v, x, y, z, q], low n)
    (ht : s.heap.IsList tl #[.ref a29, .ref a22, .ref a20, .ref a21, .ref a18]) (h29 : s.heap.IsList a29 r29) (h22 : s.heap.IsList a22 r22) (h20 : s.heap.IsList a20 r20) (h21 : s.heap.IsList a21 r21) (h18 : s.heap.IsList a18 r18)
    (t29 : IntsAre r29.toList (byZ 29)) (t22 : IntsAre r22.toList (byZ 22)) (t20 : IntsAre r20.toList (byZ 20)) (t21 : IntsAre r21.toList (byZ 21)) (t18 : IntsAre r18.toList (byZ 18))
    (ret : ∀ l arr k h' tk', Grow s h' → s.heap.get? l = none → h'.get? l = some (W.listOf arr k) → IntsAre arr.toList (vs.foldl fwdZ [u, v, x, y, z, q]) → Q (.ref l) { s with heap := h', toks := tk' }) :
    wpAny (model PySem.Challenge.rw_oo0007_02.row.prog w) (AA dp un fr gd) (call (.ref 95) [.ref sl, .ref vl, .ref tl]) Q E s := by
  revert X; k_fill; intro X
  refine enterK (binds := [("state", .ref sl), ("values", .ref vl), ("tables", .ref tl)]) X T (by show dp < _; omega) (by k_is) (by k_is) (BindsTo.of_eq rfl) (locs rfl) ?_
  intro h₁ F N
  obtain ⟨t1, t2, t3, t4, t5, t6, esa⟩ := ints6 his
  obtain rfl : sarr = #[.int u t1, .int v t2, .int x t3, .int y t4, .int z t5, .int q t6] := Array.toList_inj.mp esa
  walk_at "S"
  refine For_list (h₀ := s.heap) (by rfl) (by rfl) ?_
  walk_at "S"
  refine stList (σ := (Int × Tok) × (Int × Tok) × (Int × Tok) × (Int × Tok) × (Int × Tok) × (Int × Tok)) (fun s' => ∃ h tk, s' = { s with heap := h, toks := tk }) (fun _ => [])
    (fun c => [("u", .int c.1.1 c.1.2), ("v", .int c.2.1.1 c.2.1.2), ("w", .int c.2.2.1.1 c.2.2.1.2), ("x", .int c.2.2.2.1.1 c.2.2.2.1.2), ("y", .int c.2.2.2.2.1.1 c.2.2.2.2.1.2), ("z", .int c.2.2.2.2.2.1 c.2.2.2.2.2.2)]) []
    (fun i c => [c.1.1, c.2.1.1, c.2.2.1.1, c.2.2.2.1.1, c.2.2.2.2.1.1, c.2.2.2.2.2.1] = (vs.take i).foldl fwdZ [u, v, x, y, z, q]) ((u, _), (v, _), (x, _), (y, _), (z, _), (q, _))
    (by rfl) (by k_asm) (by k_asm) (fun _ => Or.inl hv) ⟨_, _, rfl⟩ (fun _ _ _ ⟨_, _, e⟩ => by subst e; exact ⟨_, _, rfl⟩) (by walk_at "told") rfl ?_ ?_
  · rintro i v' ⟨⟨zu, uu⟩, ⟨zv, uv⟩, ⟨zw, uw⟩, ⟨zx, ux⟩, ⟨zy, uy⟩, ⟨zz, uz⟩⟩ u' s₂ I oI hi hp ⟨h', tk', rfl⟩ F N off
    dsimp only at hp F N off
    obtain ⟨n, t, rfl, hn⟩ := hiv.at i v' (by rw [← Array.getElem?_toList] at hi; exact hi)
    have hlow := low_fold (vs := vs.take i) hls (fun m hm => hlv m (List.mem_of_mem_take hm))
    rw [← hp] at hlow
    obtain ⟨b1, b1'⟩ := hlow zu (.head _)
    walk_at "S"
    refine stEnd ((_, _), (_, _), (_, _), (_, _), (_, _), (_, _)) (by k_asm) (by k_asm) ?_ (by first | exact off | trivial) (Or.inl hv) ⟨_, _, rfl⟩ (by walk_at "told") ?_ ?_
    · walk_at "mems"
    · intro z h1 h2 h3
      have g1 := h2 _ (.head _)
      have g2 := h2 _ (.tail _ (.head _))
      have g3 := h2 _ (.tail _ (.tail _ (.head _)))
      have g4 := h2 _ (.tail _ (.tail _ (.tail _ (.head _))))
      have g5 := h2 _ (.tail _ (.tail _ (.tail _ (.tail _ (.head _)))))
      have g6 := h2 _ (.tail _ (.tail _ (.tail _ (.tail _ (.tail _ (.head _))))))
      dsimp only at g1 g2 g3 g4 g5 g6
      simp only [kstB, if_neg h1, if_neg g1, if_neg g2, if_neg g3, if_neg g4, if_neg g5, if_neg g6, h3, Bool.false_eq_true, if_false]
    · rw [List.take_add_one, hn, List.foldl_append, ← hp]; rfl
  · rintro ⟨⟨zu, uu⟩, ⟨zv, uv⟩, ⟨zw, uw⟩, ⟨zx, ux⟩, ⟨zy, uy⟩, ⟨zz, uz⟩⟩ u' s' ⟨h', tk', rfl⟩ hp F N
    dsimp only at hp F N
    have hlen := hiv.length
    rw [Array.length_toList] at hlen
    rw [List.take_of_length_le (by omega)] at hp
    rw [← hp] at ret
    walk_at "S"
    exact ret _ _ _ _ _ (Fr.keep (by k_asm)) (News.fresh (by k_asm) (.head _)) (News.get (by k_asm) (.head _)) (by walk_at "lits")
end Mine
end
section
open PySem PySem.W PySem.Calls PyProof.Rows
set_option maxRecDepth 100000
set_option linter.unusedVariables false
namespace Mine
open LCg
local macro_rules | `(tactic| walk_at "binaryOp LShift int int") => `(tactic| (refine lshift_int_small (by decide) (by decide) (bits_and25 _) ?_))
local macro_rules | `(tactic| walk_at "stop") => `(tactic| first
  | (with_reducible show wpAny _ _ (exec (Stmt.For _ _ _ _ _) _) _ _ _)
  | (with_reducible show wpAny _ _ (exec (Stmt.Assign _ (Expr.ListComp _ _ _ _) _) _) _ _ _)
  | (with_reducible show wpAny _ _ (exec (Stmt.While _ _ _ _) _) _ _ _)
  | (with_reducible show wpAny _ _ (eval (Expr.ListComp _ _ _ _) _) _ _ _)
  | (with_reducible show wpAny _ _ (eval (Expr.GeneratorExp _ _ _ _) _) _ _ _)
  | (with_reducible show wpAny _ _ (call (Value.builtin "any") _) _ _ _)
  | (with_reducible show wpAny _ _ (call (Value.builtin "all") _) _ _ _)
  | (with_reducible show wpAny _ _ (pyIter _) _ _ _))
local macro_rules | `(tactic| walk_at "S") => `(tactic| repeat' (first
  | (k_unfold; (try dsimp only))
  | ((with_reducible show Frag.In _ _ ∧ _); walk1)
  | (fail_if_success (k_end; skip)); (fail_if_success walk_at "stop"); first | walk1 | (dsimp only; walk1)))
local macro_rules | `(tactic| walk_at "S2") => `(tactic| repeat' (first
  | (k_unfold; (try dsimp only))
  | ((with_reducible show Frag.In _ _ ∧ _); walk1)
  | (fail_if_success (k_end; skip)); (fail_if_success walk_at "stop"); (fail_if_success (with_reducible show wpAny _ _ (compareOp _ (Value.ref _) (Value.ref _)) _ _ _)); first | walk1 | (dsimp only; walk1)))
local macro_rules | `(tactic| walk_at "S4") => `(tactic| repeat' (first
  | (k_unfold; (try dsimp only))
  | ((with_reducible show Frag.In _ _ ∧ _); walk1)
  | (fail_if_success (k_end; skip)); (fail_if_success walk_at "stop"); (fail_if_success (with_reducible show wpAny _ _ (execs (Stmt.For _ _ _ _ _ :: _) _) _ _ _)); first | walk1 | (dsimp only; walk1)))
local macro_rules | `(tactic| walk_at "S6") => `(tactic| repeat' (first
  | (k_unfold; (try dsimp only))
  | ((with_reducible show Frag.In _ _ ∧ _); walk1)
  | (fail_if_success (k_end; skip)); (fail_if_success walk_at "stop"); (fail_if_success (with_reducible show wpAny _ _ (execs (Stmt.Assign [Expr.Tuple _ _ _] (Expr.ListComp _ _ _ _) _ :: _) _) _ _ _)); first | walk1 | (dsimp only; walk1)))
local macro_rules | `(tactic| walk_at "one") => `(tactic| exact List.forall_mem_cons.mpr ⟨rfl, List.forall_mem_nil _⟩)
local macro_rules | `(tactic| walk_at "others") => `(tactic| (intro z h1 h2 h3; have h4 := h2 _ (.head _); simp only [kstB, if_neg h1, if_neg h4, h3, Bool.false_eq_true, if_false]))
local macro_rules | `(tactic| walk_at "len") => `(tactic| ((try simp only [List.length_append, List.length_cons, List.length_nil, List.length_map, expandZ_len, checkZ_len, rangeKs_length] at *); omega))
local macro_rules | `(tactic| walk_at "binaryOp Add ref ref") => `(tactic| (k_here; k_dflt (refine' addInts ?F ?N ?l ?b ?i ?j ?z ?_; (case F => k_asm); (case N => k_asm); (case l => walk_at "alist"); (case b => walk_at "alist"); (case i => first | assumption | l_ints); (case j => first | assumption | l_ints); (case z => walk_at "len"); intro D' arr' k' h' F' N' hI' o1'; (try simp only [LCg.Off1, and_true] at o1'))))
local macro_rules | `(tactic| walk_at "room") => `(tactic| (dsimp only [AA]; omega))
local macro_rules | `(tactic| walk_at "top") => `(tactic| exact Top.keeps (by assumption) (Fr.keep (by k_asm)))
local macro_rules | `(tactic| walk_at "alist") => `(tactic| first | (with_reducible assumption) | exact isList_in (by k_asm) (by k_mem) | (refine Heap.IsList.at (h := _) (by assumption) (fun o e => Fr.keep (by k_asm) _ o e)))
local macro_rules | `(tactic| walk_at "call ref") => `(tactic| (k_here; k_dflt (refine' expand_spec ?X ?T ?d ?x ?_; (case X => k_in); (case T => walk_at "top"); (case d => walk_at "room"); (case x => first | assumption | omega); intro l' arr' k' h' tk' hg' hn' ho' hI'; have hb' := backL (by k_asm) (by k_asm) hg' hn' ho'; obtain ⟨F', N', o1'⟩ := hb'; (try simp only [LCg.Off1, and_true] at o1'))))
local macro_rules | `(tactic| walk_at "call ref") => `(tactic| (k_here; k_dflt (refine' poly_spec ?X ?T ?d ?l ?i ?_; (case X => k_in); (case T => walk_at "top"); (case d => walk_at "room"); (case l => walk_at "alist"); (case i => assumption); intro t' h' tk' hg'; have hb' := backI (by k_asm) (by k_asm) hg'; obtain ⟨F', N'⟩ := hb')))
local macro_rules | `(tactic| walk_at "call ref") => `(tactic| (k_here; k_dflt (refine' create_spec ?X ?T ?d ?x ?l ?i ?n ?_; (case X => k_in); (case T => walk_at "top"); (case d => walk_at "room"); (case x => first | assumption | omega); (case l => walk_at "alist"); (case i => assumption); (case n => walk_at "len"); intro l' arr' k' h' tk' hg' hn' ho' hI'; have hb' := backL (by k_asm) (by k_asm) hg' hn' ho'; obtain ⟨F', N', o1'⟩ := hb'; (try simp only [LCg.Off1, and_true] at o1'))))
local macro_rules | `(tactic| walk_at "call ref") => `(tactic| (k_here; k_dflt (refine' verify_spec ?X ?T ?d ?x ?l ?i ?n ?_; (case X => k_in); (case T => walk_at "top"); (case d => walk_at "room"); (case x => first | assumption | omega); (case l => walk_at "alist"); (case i => assumption); (case n => walk_at "len"); intro h' tk' hg'; have hb' := backI (by k_asm) (by k_asm) hg'; obtain ⟨F', N'⟩ := hb')))
local macro_rules | `(tactic| walk_at "slen") => `(tactic| ((try simp only [PySem.Str.length_append, Str.cps_append, len_one, len_one2, PySem.Str.length, Array.size_append, List.size_toArray, List.length_map, List.length_append, checkZ_len] at *); rw [sizeLine_eq]; omega))
local macro_rules | `(tactic| walk_at "binaryOp Add str str") => `(tactic| (k_dflt (refine' PyProof.Rows.add_str ?_ ?z; (case z => walk_at "slen"); intro t' tk')))
local macro_rules | `(tactic| walk_at "subscriptTail Name Name str int") => `(tactic| (k_dflt (refine item_str (x := CH) (fitsSsize_of (N := 9223372036854775808) (by omega) (by omega) (Int.le_refl _)) (by rw [ch_len]; omega) (by rw [ch_len]; omega) ?_; intro _)))
local macro_rules | `(tactic| walk_at "eval Name") => `(tactic| (k_here; (with_reducible show wpAny _ _ (eval (Expr.Name _ _) (genEnv _ _ _ _ _ _)) _ _ _); k_dflt (first
  | (refine nameG_L (by k_asm) (by assumption) ?_)
  | (refine nameG_K (by k_asm) (by k_asm) (by k_asm) (by rfl) (by k_is) ?_)
  | (refine nameG_B (by k_asm) (by k_asm) (by k_asm) (by rfl) (by k_is) (by boot_by_name) (by decide) ?_))))
local macro_rules | `(tactic| walk_at "call builtin:len") => `(tactic| (k_here; (with_reducible show wpAny _ _ (call (Value.builtin "len") [Value.ref _]) _ _ _); k_dflt (refine' PyProof.Rows.len_list ?l ?z ?_; (case l => walk_at "alist"); (case z => walk_at "len"))))

local macro_rules | `(tactic| walk_at "call ref") => `(tactic| (k_here; k_dflt (refine' digits_spec ?X ?T ?d ?b0 ?b1 ?m ?_; (case X => k_in); (case T => walk_at "top"); (case d => walk_at "room"); (case b0 => omega); (case b1 => omega); (case m => omega); intro l' arr' k' h' tk' ds' hg' hn' ho' hI' hd1' hd2' hd3'; have hb' := backL (by k_asm) (by k_asm) hg' hn' ho'; obtain ⟨F', N', o1'⟩ := hb'; (try simp only [LCg.Off1, and_true] at o1'))))

local macro_rules | `(tactic| walk_at "mems") => `(tactic| first | exact List.forall_mem_nil _ | exact List.forall_mem_cons.mpr ⟨by k_mem, by walk_at "mems"⟩)
local macro_rules | `(tactic| walk_at "told") => `(tactic| first | exact List.forall_mem_nil _ | exact List.forall_mem_cons.mpr ⟨rfl, by walk_at "told"⟩)
local macro_rules | `(tactic| walk_at "S3") => `(tactic| repeat' (first
  | (k_unfold; (try dsimp only))
  | ((with_reducible show Frag.In _ _ ∧ _); walk1)
  | (fail_if_success (k_end; skip)); (fail_if_success walk_at "stop"); (fail_if_success (with_reducible show wpAny _ _ (execs (Stmt.If _ _ _ _ :: _) _) _ _ _)); first | walk1 | (dsimp only; walk1)))
local macro_rules | `(tactic| walk_at "clss") => `(tactic| (repeat' (first | exact List.forall_mem_nil _ | refine List.forall_mem_cons.mpr ⟨by rintro ⟨⟩, ?_⟩)))
local macro_rules | `(tactic| walk_at "rds") => `(tactic| first | exact ReadsAll.nil | exact ReadsAll.cons (by walk_at "rd") (by walk_at "rds"))
local macro_rules | `(tactic| walk_at "rd") => `(tactic| first
  | exact Reads.none
  | exact Reads.str _ _
  | exact reads_list_at (News.get (by k_asm) (by k_mem)) rfl rfl (readsInts (by assumption))
  | exact reads_list_at (News.get (by k_asm) (by k_mem)) rfl rfl (by walk_at "rds")
  | exact reads_tuple_at (News.get (by k_asm) (by k_mem)) rfl rfl (by walk_at "rds"))
local macro_rules | `(tactic| walk_at "call ref") => `(tactic| (k_here; k_dflt (refine' at_spec ?X ?T ?d ?l ?i ?n ?k ?_; (case X => k_in); (case T => walk_at "top"); (case d => walk_at "room"); (case l => walk_at "alist"); (case i => assumption); (case n => omega); (case k => omega); intro t' h' tk' hg'; have hb' := backI (by k_asm) (by k_asm) hg'; obtain ⟨F', N'⟩ := hb')))
local macro_rules | `(tactic| walk_at "call ref") => `(tactic| (k_here; k_dflt (refine' encode_spec ?X ?T ?d ?x ?l ?i ?n ?b ?_; (case X => k_in); (case T => walk_at "top"); (case d => walk_at "room"); (case x => first | assumption | omega); (case l => walk_at "alist"); (case i => assumption); (case n => omega); (case b => assumption); intro t' h' tk' hg'; have hb' := backI (by k_asm) (by k_asm) hg'; obtain ⟨F', N'⟩ := hb')))
local macro_rules | `(tactic| walk_at "call builtin:len") => `(tactic| (k_here; (with_reducible show wpAny _ _ (call (Value.builtin "len") [Value.str _ _]) _ _ _); k_dflt (refine PySem.P.len_str (by ((try simp only [PySem.Str.length] at *); omega)) ?_)))
local macro_rules | `(tactic| walk_at "S7") => `(tactic| repeat' (first
  | (k_unfold; (try dsimp only))
  | ((with_reducible show Frag.In _ _ ∧ _); walk1)
  | (fail_if_success (k_end; skip)); (fail_if_success walk_at "stop"); (fail_if_success (with_reducible show wpAny _ _ (execs (Stmt.Assign _ (Expr.BinOp _ _ _ _) _ :: _) _) _ _ _)); first | walk1 | (dsimp only; walk1)))
local macro_rules | `(tactic| walk_at "S8") => `(tactic| repeat' (first
  | (k_unfold; (try dsimp only))
  | ((with_reducible show Frag.In _ _ ∧ _); walk1)
  | (fail_if_success (k_end; skip)); (fail_if_success walk_at "stop"); (fail_if_success (with_reducible show wpAny _ _ (execs (Stmt.Assign [Expr.Name "made" _] (Expr.BinOp _ _ _ _) _ :: _) _) _ _ _)); first | walk1 | (dsimp only; walk1)))
local macro_rules | `(tactic| walk_at "subscriptTail Name Name str int") => `(tactic| (k_dflt (refine item_str (x := signsT _) (fitsSsize_of (N := 9223372036854775808) (by omega) (by omega) (Int.le_refl _)) (by rw [signsT_len]; omega) (by rw [signsT_len]; omega) ?_; intro _)))
local macro_rules | `(tactic| walk_at "subscriptTail Name BinOp str int") => `(tactic| (k_dflt (refine item_str (x := signsT _) (fitsSsize_of (N := 9223372036854775808) (by omega) (by omega) (Int.le_refl _)) (by rw [signsT_len]; omega) (by rw [signsT_len]; omega) ?_; intro _)))
local macro_rules | `(tactic| walk_at "tabs") => `(tactic| (repeat' (first | exact List.forall_mem_nil _ | refine List.forall_mem_cons.mpr ⟨by first | exact listTab | exact notTab (by assumption) | exact (fun _ e => by cases e), ?_⟩)))
local macro_rules | `(tactic| walk_at "S9") => `(tactic| repeat' (first
  | (k_unfold; (try dsimp only))
  | ((with_reducible show Frag.In _ _ ∧ _); walk1)
  | (fail_if_success (k_end; skip)); (fail_if_success walk_at "stop"); (fail_if_success (with_reducible show wpAny _ _ (execs (Stmt.Assign [Expr.Name "told" _] (Expr.BinOp _ _ _ _) _ :: _) _) _ _ _)); first | walk1 | (dsimp only; walk1)))
local macro_rules | `(tactic| walk_at "subscriptTail Name Name ref int") => `(tactic| (k_dflt (refine' int_item ?l ?i ?z ?a ?b ?_; (case l => walk_at "alist"); (case i => with_reducible assumption); (case z => omega); (case a => omega); (case b => omega); intro _)))
local macro_rules | `(tactic| walk_at "subscriptTail Name BinOp ref int") => `(tactic| (k_dflt (refine' int_item ?l ?i ?z ?a ?b ?_; (case l => walk_at "alist"); (case i => with_reducible assumption); (case z => omega); (case a => omega); (case b => omega); intro _)))
local macro_rules | `(tactic| walk_at "subscriptTail Name Slice ref ref") => `(tactic| (k_here; k_dflt (refine' sliceFrom ?F ?N ?l ?i ?z ?a ?_; (case F => k_asm); (case N => k_asm); (case l => walk_at "alist"); (case i => with_reducible assumption); (case z => omega); (case a => omega)); intro D' arr2' h' F' N' l1 hI'))
local macro_rules | `(tactic| walk_at "subscriptTail Name Slice ref ref") => `(tactic| (k_here; k_dflt (refine' sliceTo ?F ?N ?l ?i ?z ?a ?_; (case F => k_asm); (case N => k_asm); (case l => walk_at "alist"); (case i => with_reducible assumption); (case z => omega); (case a => omega)); intro D' arr2' h' F' N' l1 hI'))
local macro_rules | `(tactic| walk_at "S10") => `(tactic| repeat' (first
  | (k_unfold; (try dsimp only))
  | ((with_reducible show Frag.In _ _ ∧ _); walk1)
  | (fail_if_success (k_end; skip)); (fail_if_success walk_at "stop"); (fail_if_success (with_reducible show wpAny _ _ (execs (Stmt.If _ _ _ _ :: _) _) _ _ _)); (fail_if_success (with_reducible show wpAny _ _ (call _ [Value.ref _]) _ _ _)); first | walk1 | (dsimp only; walk1)))
local macro_rules | `(tactic| k_ne) => `(tactic| exact newsNe (by k_asm) (by k_mem) (by k_mem) (by k_asm) (fun _ e => by cases e))
local macro_rules | `(tactic| walk_at "lits") => `(tactic| first | exact IntsAre.nil | (refine IntsAre.cons _ _ ?_; walk_at "lits"))
local macro_rules | `(tactic| k_ne) => `(tactic| (refine neN ?_; (try dsimp only); first | (with_reducible assumption) | exact off1_mem (by k_asm) (_, _) (by k_mem) | exact Ne.symm (off1_mem (by k_asm) (_, _) (by k_mem))))
local macro_rules | `(tactic| walk_at "storeName") => `(tactic| (k_here; (first | (with_reducible show wpAny _ _ (storeName _ (PySem.Str.ofString "upper") _) _ _ _) | (with_reducible show wpAny _ _ (storeName _ (PySem.Str.ofString "lower") _) _ _ _) | (with_reducible show wpAny _ _ (storeName _ (PySem.Str.ofString "turn") _) _ _ _) | (with_reducible show wpAny _ _ (storeName _ (PySem.Str.ofString "told") _) _ _ _)); k_dflt (refine' storeX_C ?F ?N ?c ?U ?d ?_ ?a ?b; (case a => rfl); (case b => rfl); (case F => k_asm); (case N => k_asm); (case c => rfl); (case U => k_updF); (case d => k_asm); k_whole; intro h' o' F' N' d'; (try dsimp only at N'); (try k_sweep))))
local macro_rules | `(tactic| walk_at "S5") => `(tactic| repeat' (first
  | (k_unfold; (try dsimp only))
  | ((with_reducible show Frag.In _ _ ∧ _); walk1)
  | (fail_if_success (k_end; skip)); (fail_if_success walk_at "stop"); (fail_if_success (with_reducible show wpAny _ _ (execs (Stmt.Assign _ (Expr.ListComp _ _ _ _) _ :: _) _) _ _ _)); first | walk1 | (dsimp only; walk1)))
local macro_rules | `(tactic| walk_at "call type:range") => `(tactic| (dsimp only; walk_at "call type:range"))
local macro_rules | `(tactic| walk_at "call ref") => `(tactic| (k_here; k_dflt (refine' times_spec ?X ?T ?d ?a ?b ?_; (case X => k_in); (case T => walk_at "top"); (case d => walk_at "room"); (case a => with_reducible assumption); (case b => with_reducible assumption); intro t' h' tk' hg'; have hb' := backI (by k_asm) (by k_asm) hg'; obtain ⟨F', N'⟩ := hb')))
local macro_rules | `(tactic| walk_at "S11") => `(tactic| repeat' (first
  | (k_unfold; (try dsimp only))
  | ((with_reducible show Frag.In _ _ ∧ _); walk1)
  | (fail_if_success (k_end; skip)); (fail_if_success walk_at "stop"); (fail_if_success (with_reducible show wpAny _ _ (call (Value.ref 95) _) _ _ _)); (fail_if_success (with_reducible show wpAny _ _ (compareOp _ (Value.ref _) (Value.ref _)) _ _ _)); (fail_if_success (with_reducible show wpAny _ _ (execs (Stmt.If _ _ _ _ :: _) _) _ _ _)); first | walk1 | (dsimp only; walk1)))
theorem news_tl {h₀ h : Heap} {L : Addr} {a : Addr × Obj} {r : List (Addr × Obj)} (N : News h₀ L h (a :: r)) : News h₀ L h r := fun p hp => N p (.tail _ hp)
def foundZ (cs : List Int) (p i : Nat) : List Int := if swapZ cs p ≠ cs ∧ cs.length - 2 - p < i then [(p : Int)] else []
theorem intsPush {fa : Array Value} {n k : Int} {t : Tok} {l : List Int} (hl : l = [k]) (h : IntsAre fa.toList []) (e : n = k) : IntsAre (fa.push (.int n t)).toList l := by
  rw [hl, Array.toList_push, ← e]; exact h.append (.cons _ _ .nil)
theorem eqInts {prog : Program} {w : World} {A : Around} {E : Value → Shared → Prop} {s : Shared} {a b : Value} {as bs : List Addr} {xs : List Int} {Q : Value → Shared → Prop} (ra : Reads s.heap a (.list (xs.map .int)) as) (rb : Reads s.heap b (.list (xs.map .int)) bs) (hu : A.units + 64 < cLine) (h : Q (.bool true) s) :
    wpAny (model prog w) A (compareOp .Eq a b) Q E s := by
  have hs : SeqAt.shaped (.list (xs.map .int)) = true := shaped_one ⟨by simp only [PyData.canLay0, ke_canLayAll0], by simp only [PyData.depth, ke_depthAll]; decide⟩
  have he : PyData.eqv (.list (xs.map .int)) (.list (xs.map .int)) = true := by simp only [PyData.eqv, eqv_ints]
  exact eq_dataH ra rb hs hs hu (by rw [he]; exact h)
theorem foundZ_new {cs : List Int} {p i : Nat} (h : i = cs.length - 2 - p) (h2 : swapZ cs p ≠ cs) : foundZ cs p i = [] ∧ foundZ cs p (i + 1) = [(p : Int)] := by
  unfold foundZ
  rw [if_neg (by omega), if_pos ⟨h2, by omega⟩]
  exact ⟨rfl, rfl⟩
theorem foundZ_same {cs : List Int} {p i : Nat} (h : ¬ (i = cs.length - 2 - p ∧ swapZ cs p ≠ cs)) : foundZ cs p (i + 1) = foundZ cs p i := by
  unfold foundZ
  by_cases h2 : swapZ cs p ≠ cs
  · have h3 : i ≠ cs.length - 2 - p := fun e => h ⟨e, h2⟩
    by_cases h4 : cs.length - 2 - p < i
    · rw [if_pos ⟨h2, by omega⟩, if_pos ⟨h2, h4⟩]
    · rw [if_neg (fun x => by have := x.2; omega), if_neg (fun x => h4 x.2)]
  · rw [if_neg (fun x => h2 x.1), if_neg (fun x => h2 x.1)]
set_option maxHeartbeats 40000000 in
theorem partF {w : World} {dp un : Nat} {fr : Option (List Env)} {gd : Option (List Code)} {s : Shared} {p : Program} {loose : List Str} {mean : ExcName → Option Value} {mg mb : Str → Option Value} {Q : Value → Shared → Prop}
    {h₀ h : Heap} {L tk : Nat} {u : Str → Option Value} {name : Str} {body : List Stmt} {scope : Scope} {cdv : Value}
    (ho : FnAt (Mine.hd.heap_39 w.params) 100 name body scope cdv)
    (X : (Mine.hd.heap_39 w.params).In h₀) (T : Top p loose mean mg mb h₀) (C : CodeHd h₀ 47 45) (hG : AllBare s.gens) (hd : dp + 40 < recursionLimit) (hu : un + 1000 < cLine)
    {RL SL TL a18 a21 a20 a22 a29 : Addr} {ra sa r18 r21 r20 r22 r29 : Array Value} {rk sk tk0 pl k18 k21 k20 k22 k29 : Nat} {tt tp tm : Tok} {cs : List Int} {o1 o2 o3 : Obj} {ps : Array Value}
    (hI2 : IntsAre ra.toList (swapZ cs pl)) (hp : pl + 2 ≤ cs.length) (hI6 : IntsAre sa.toList (castV (dueV cs pl)))
    (t29 : IntsAre r29.toList (byZ 29)) (t22 : IntsAre r22.toList (byZ 22)) (t20 : IntsAre r20.toList (byZ 20)) (t21 : IntsAre r21.toList (byZ 21)) (t18 : IntsAre r18.toList (byZ 18))
    (hcb : ∀ n ∈ cs, 0 ≤ n ∧ n < 32) (hc6 : 6 ≤ cs.length) (hc14 : cs.length ≤ 14)
    (d1 : o1.data = .cell none) (d2 : o2.data = .cell none) (d3 : o3.data = .cell none)
    (F : Fr h₀ L h (kstB u [("tail", .str (signsT cs) tt), ("place", .int (pl : Int) tp), ("made", .str (signsT (swapZ cs pl)) tm), ("read", .ref RL), ("six", .ref SL), ("tables", .ref TL)]))
    (N : News h₀ L h [(TL, W.listOf #[.ref a29, .ref a22, .ref a20, .ref a21, .ref a18] tk0), (a18, W.listOf r18 k18), (a21, W.listOf r21 k21), (a20, W.listOf r20 k20), (a22, W.listOf r22 k22), (a29, W.listOf r29 k29), (SL, W.listOf sa sk), (RL, W.listOf ra rk), (L + 1 + 1 + 1 + 1, o1), (L + 1 + 1 + 1, o2), (L + 1 + 1, o3), (45, tabObj ps)])
    (ret : ∀ s' ps, s'.os = s.os → AllBare s'.gens → (∀ b o, h₀.get? b = some o → s'.heap.get? b = some o) → s'.heap.get? 45 = some (tabObj ps) → Q (.bool true) s') :
    wpAny (model PySem.Challenge.rw_oo0007_02.row.prog w) ((AA dp un fr gd).deeper (envOfC name scope L 100 cdv)) (execs (body.drop 17) (envOfC name scope L 100 cdv))
        (fun fl s' => Q (match fl with | .ret v => v | _ => .none) s') (fun _ _ => False) { s with heap := h, toks := tk } := by
  revert ho X; k_fill; intro ho X
  obtain ⟨rfl, rfl, rfl, rfl⟩ := ho.inj (.mk (by k_is))
  clear ho
  simp only [List.drop]
  have hcla := hI2.length
  rw [Array.length_toList] at hcla
  have hsl := swap_len hp
  rw [hsl] at hcla
  have hsb := swap_mem hp hcb
  have hse := signsT_eq hsb hcb
  have kt : IntsAre r29.toList (byZ 29) ∧ IntsAre r22.toList (byZ 22) ∧ IntsAre r20.toList (byZ 20) ∧ IntsAre r21.toList (byZ 21) ∧ IntsAre r18.toList (byZ 18) := ⟨t29, t22, t20, t21, t18⟩
  walk_at "S4"
  rename_i ll₀ _ _ _ o3' d3' FL _ l1b _ F9 N9
  walk_at "S"
  refine For_range (h₀ := h₀) (by rfl) (by rfl) ?_
  walk_at "S11"
  refine stRange (n := cs.length - 1) (σ := (Array Value × Nat) × (Addr × Array Value × Nat) × (Obj × Obj × Obj)) (fun s' => ∃ h tk, s' = { s with heap := h, toks := tk })
    (fun c => [(FL, W.listOf c.1.1 c.1.2), (c.2.1.1, W.listOf c.2.1.2.1 c.2.1.2.2), (TL, W.listOf #[.ref a29, .ref a22, .ref a20, .ref a21, .ref a18] tk0), (a18, W.listOf r18 k18), (a21, W.listOf r21 k21), (a20, W.listOf r20 k20), (a22, W.listOf r22 k22), (a29, W.listOf r29 k29), (SL, W.listOf sa sk), (RL, W.listOf ra rk), (L + 1 + 1 + 1 + 1, c.2.2.1), (L + 1 + 1 + 1, c.2.2.2.1), (L + 1 + 1, c.2.2.2.2), (45, tabObj ps)])
    (fun _ => []) []
    (fun i c => (∃ v, c.2.2.1.data = .cell v) ∧ (∃ v, c.2.2.2.1.data = .cell v) ∧ c.2.2.2.2.data = .cell (some (.ref c.2.1.1)) ∧ IntsAre c.2.1.2.1.toList (lowZ i) ∧ IntsAre c.1.1.toList (foundZ cs pl i) ∧ @Ne Nat c.2.1.1 FL) ((_, _), (ll₀, _, _), (_, _, _))
    (by rfl) (by k_asm) (by k_asm) (by assumption) ?_ ?_ ⟨_, _, rfl⟩ (fun _ _ _ ⟨_, _, e⟩ => by subst e; exact ⟨_, _, rfl⟩) (fun _ h => nomatch h) ⟨⟨_, d1⟩, ⟨_, d2⟩, d3', by walk_at "lits", ?_, ?_⟩ ?_ ?_
  · rw [hcla, show (cs.length : Int) - 1 = ((cs.length - 1 : Nat) : Int) by omega]; exact (small_nat (by omega)).1
  · rw [hcla, show (cs.length : Int) - 1 = ((cs.length - 1 : Nat) : Int) by omega]; exact (small_nat (by omega)).2
  · rw [foundZ, if_neg (by omega)]; exact .nil
  · exact Nat.ne_of_lt l1b.1
  · rintro i t ⟨⟨fa, fk⟩, ⟨ll, la', lk'⟩, ⟨q1, q2, q3⟩⟩ u' s₂ I oI hi ⟨⟨v1, hv1⟩, ⟨v2, hv2⟩, hq3, hlow, hfnd, hne⟩ ⟨h', tk', rfl⟩ F N off
    dsimp only at hv1 hv2 hq3 hlow hfnd hne F N off
    have kl : IntsAre la'.toList (lowZ i) ∧ IntsAre fa.toList (foundZ cs pl i) := ⟨hlow, hfnd⟩
    walk_at "S11"
    refine run_spec (u := (lowZ i).getD 0 0) (v := (lowZ i).getD 1 0) (x := (lowZ i).getD 2 0) (y := (lowZ i).getD 3 0) (z := (lowZ i).getD 4 0) (q := (lowZ i).getD 5 0) (vs := [0]) (by k_in) (by walk_at "top") (by walk_at "room") (by walk_at "alist") (by rw [← lowZ_six]; exact kl.1) (by walk_at "alist") (by walk_at "lits") (by decide) (by rw [← lowZ_six]; exact low_lowZ i) (by walk_at "alist") (by walk_at "alist") (by walk_at "alist") (by walk_at "alist") (by walk_at "alist") (by walk_at "alist") kt.1 kt.2.1 kt.2.2.1 kt.2.2.2.1 kt.2.2.2.2 ?_
    intro ul uarr uk h2 tk2 hg hn ho hIu
    rw [← lowZ_six] at hIu
    replace hIu : IntsAre uarr.toList (lowZ (i + 1)) := hIu
    have ku : IntsAre uarr.toList (lowZ (i + 1)) ∧ True := ⟨hIu, trivial⟩
    have hb := backL (by k_asm) (by k_asm) hg hn ho
    obtain ⟨F', N', o1'⟩ := hb
    have e1 : ((ra.size : Int) - 1 - (0 + (i : Int))).toNat = cs.length - 1 - i := by omega
    have e2 : ((ra.size : Int) - 2 - (0 + (i : Int))).toNat = cs.length - 2 - i := by omega
    walk_at "S11"
    rename_i _ oU dU _ _ _ oT F5 N5 dT
    rw [e1, e2] at dT
    have hfit := turn_fits (p := pl) (i := i) hcb hp hc14 (by omega)
    have hT2 : low (turnOf cs pl i) := low_xor (low_getD (low_swap hp hcb) _) (low_getD (low_swap hp hcb) _)
    change _ = Data.cell (some (Value.int (turnOf cs pl i) _)) at dT
    generalize turnOf cs pl i = T2 at dT hfit hT2
    walk_at "S"
    · refine ListComp_U (F₀ := by k_asm) (by with_unfolding_all rfl) (by decide) (by rfl) (by decide) (by rfl) ?_
      walk_at "S"
      refine CompSrc.range (by rfl) (by k_asm) (by k_asm) (by assumption) (by decide) (n := 6) rfl (by rw [sizeLine_eq]; omega) ?_
      intro g
      refine compPure (fun j y => ∃ t, y = .int ((turnZ T2 i).getD j 0) t) trivial ?_ ?_
      · rintro j ys v I2 oI2 C2 oC2 D2 m₂ h3 tk3 E' hj ⟨t, rfl⟩ hC hm F N
        have hlx : low (Builtin.bitXor ((lowZ i).getD (0 + (j : Int)).toNat 0) ((lowZ (i + 1)).getD (0 + (j : Int)).toNat 0)) := low_xor (low_getD (low_lowZ i) _) (low_getD (low_lowZ (i + 1)) _)
        have hl6 := lowZ_len i
        have hl7 := lowZ_len (i + 1)
        walk_at "S"
        refine ⟨?_, _, _, rfl, by k_asm, by k_asm⟩
        have ej : (0 + (j : Int)).toNat = j := by omega
        rw [turnZ, getD_range hj, ej]
        exact ⟨_, rfl⟩
      · intro ys hl hR
        have hIt := intsAre_of (ns := turnZ T2 i) (by rw [hl]; rfl) hR
        clear hR
        walk_at "FinE"
        walk_at "S"
        · obtain ⟨hi2, hsc⟩ := hfit.mp ⟨by assumption, by assumption⟩
          obtain ⟨hf0, hf1⟩ := foundZ_new hi2 hsc
          rename News _ _ _ _ => N5
          have N6 := news_tl N5
          rename _ ∧ _ => oo
          clear oo N5
          have hfnd := kl.2
          rw [hf0] at hfnd
          have kf : IntsAre fa.toList [] ∧ True := ⟨hfnd, trivial⟩
          have hfl : fa.size = 0 := by have := hfnd.length; rw [Array.length_toList] at this; exact this
          have e3 : (ra.size : Int) - 2 - (0 + (i : Int)) = (pl : Int) := by omega
          rename Fr _ _ _ _ => F6
          rename I < _ ∧ _ => hl1
          refine append_K F6 N6 (.tail (Ne.symm o1'.2.2.1) (.tail (Nat.ne_of_gt hl1.2.1) (.tail (Ne.symm off.1) (.head (List.forall_mem_cons.mpr ⟨hne, List.forall_mem_cons.mpr ⟨Nat.ne_of_lt l1b.2.1, List.forall_mem_cons.mpr ⟨Nat.ne_of_lt l1b.2.2.1, List.forall_mem_cons.mpr ⟨Nat.ne_of_lt l1b.2.2.2.1, List.forall_mem_cons.mpr ⟨Nat.ne_of_lt l1b.2.2.2.2.1, List.forall_mem_cons.mpr ⟨Nat.ne_of_lt l1b.2.2.2.2.2.1, List.forall_mem_cons.mpr ⟨Nat.ne_of_lt l1b.2.2.2.2.2.2.1, List.forall_mem_cons.mpr ⟨Nat.ne_of_lt l1b.2.2.2.2.2.2.2.1, List.forall_mem_cons.mpr ⟨Nat.ne_of_lt l1b.2.2.2.2.2.2.2.2.1, List.forall_mem_cons.mpr ⟨Nat.ne_of_lt l1b.2.2.2.2.2.2.2.2.2.1, List.forall_mem_cons.mpr ⟨Nat.ne_of_lt l1b.2.2.2.2.2.2.2.2.2.2.1, List.forall_mem_cons.mpr ⟨Nat.ne_of_lt l1b.2.2.2.2.2.2.2.2.2.2.2.1, List.forall_mem_cons.mpr ⟨Nat.ne_of_lt l1b.2.2.2.2.2.2.2.2.2.2.2.2, List.forall_mem_nil _⟩⟩⟩⟩⟩⟩⟩⟩⟩⟩⟩⟩⟩))))) ?_ (by rw [hfl, sizeLine_eq]; omega)
          intro h9 F9a N9a
          clear F6 N6
          walk_at "S"
          rename _ = Data.cell (some (Value.ref ul)) => dL
          rename Obj => oL
          refine stEnd ((_, _), (ul, uarr, uk), (oT, oU, oL)) (by k_asm) (by k_asm) (by walk_at "mems") ?_ trivial ⟨_, _, rfl⟩ (fun _ h => nomatch h) ?_ ⟨⟨_, dT⟩, ⟨_, dU⟩, dL, ku.1, ?_, Ne.symm o1'.2.2.1⟩
          · exact ⟨off.1, Ne.symm o1'.2.1, off.2.2⟩
          · intro z h1 h2 h3
            simp only [kstB, if_neg h1, h3, Bool.false_eq_true, if_false]
          · exact intsPush hf1 kf.1 e3
        · rename _ = Data.cell (some (Value.ref ul)) => dL
          rename Obj => oL
          refine stEnd ((_, _), (ul, uarr, uk), (oT, oU, oL)) (by k_asm) (by k_asm) (by walk_at "mems") ?_ trivial ⟨_, _, rfl⟩ (fun _ h => nomatch h) ?_ ⟨⟨_, dT⟩, ⟨_, dU⟩, dL, ku.1, ?_, Ne.symm o1'.2.2.1⟩
          · exact ⟨off.1, Ne.symm o1'.2.1, off.2.2⟩
          · intro z h1 h2 h3
            simp only [kstB, if_neg h1, h3, Bool.false_eq_true, if_false]
          · rw [foundZ_same (fun hh => absurd (hfit.mpr hh).2 (by assumption))]
            exact kl.2
    · rename _ = Data.cell (some (Value.ref ul)) => dL
      rename Obj => oL
      refine stEnd ((_, _), (ul, uarr, uk), (oT, oU, oL)) (by k_asm) (by k_asm) (by walk_at "mems") ?_ trivial ⟨_, _, rfl⟩ (fun _ h => nomatch h) ?_ ⟨⟨_, dT⟩, ⟨_, dU⟩, dL, ku.1, ?_, Ne.symm o1'.2.2.1⟩
      · exact ⟨off.1, Ne.symm o1'.2.1, off.2.2⟩
      · intro z h1 h2 h3
        simp only [kstB, if_neg h1, h3, Bool.false_eq_true, if_false]
      · rw [foundZ_same (fun hh => (hfit.mpr hh).1 (by assumption))]
        exact kl.2
  · rintro ⟨⟨fa, fk⟩, ⟨ll, la', lk'⟩, ⟨q1, q2, q3⟩⟩ u' s' ⟨h', tk', rfl⟩ ⟨_, _, _, _, hfnd, _⟩ F N
    dsimp only at hfnd F N
    have kf : IntsAre fa.toList (foundZ cs pl (cs.length - 1)) ∧ True := ⟨hfnd, trivial⟩
    walk_at "S2"
    · rename (signsT _ == signsT _) = true => hf
      have hs0 : swapZ cs pl = cs := hse.mp (by simpa using hf)
      have hf2 : foundZ cs pl (cs.length - 1) = [] := by unfold foundZ; rw [if_neg (fun x => x.1 hs0)]
      have hfnd := kf.1
      rw [hf2] at hfnd
      refine eqInts (xs := []) (reads_list_at (News.get (by k_asm) (by k_mem)) rfl rfl (readsInts hfnd)) (reads_list_at (News.get (by k_asm) (by k_mem)) rfl rfl (readsInts .nil)) (by first | ke_room | (show un + _ < _; omega)) ?_
      exact ret _ ps rfl hG (Fr.keep (by k_asm)) (News.get (by k_asm) (by k_mem))
    · rename (signsT _ == signsT _) = false => hf
      have hs0 : swapZ cs pl ≠ cs := fun e => by rw [hse.mpr e] at hf; simp at hf
      have hf2 : foundZ cs pl (cs.length - 1) = [(pl : Int)] := by unfold foundZ; rw [if_pos ⟨hs0, by omega⟩]
      have hfnd := kf.1
      rw [hf2] at hfnd
      refine eqInts (xs := [(pl : Int)]) (reads_list_at (News.get (by k_asm) (by k_mem)) rfl rfl (readsInts hfnd)) (reads_list_at (News.get (by k_asm) (by k_mem)) rfl rfl (readsInts (.cons _ _ .nil))) (by first | ke_room | (show un + _ < _; omega)) ?_
      exact ret _ ps rfl hG (Fr.keep (by k_asm)) (News.get (by k_asm) (by k_mem))
end Mine
end
section
open PySem PySem.W PySem.Calls PyProof.Rows
set_option maxRecDepth 100000
set_option linter.unusedVariables false
namespace Mine
open LCg
local macro_rules | `(tactic| walk_at "binaryOp LShift int int") => `(tactic| (refine lshift_int_small (by decide) (by decide) (bits_and25 _) ?_))
local macro_rules | `(tactic| walk_at "stop") => `(tactic| first
  | (with_reducible show wpAny _ _ (exec (Stmt.For _ _ _ _ _) _) _ _ _)
  | (with_reducible show wpAny _ _ (exec (Stmt.Assign _ (Expr.ListComp _ _ _ _) _) _) _ _ _)
  | (with_reducible show wpAny _ _ (exec (Stmt.While _ _ _ _) _) _ _ _)
  | (with_reducible show wpAny _ _ (eval (Expr.ListComp _ _ _ _) _) _ _ _)
  | (with_reducible show wpAny _ _ (eval (Expr.GeneratorExp _ _ _ _) _) _ _ _)
  | (with_reducible show wpAny _ _ (call (Value.builtin "any") _) _ _ _)
  | (with_reducible show wpAny _ _ (call (Value.builtin "all") _) _ _ _)
  | (with_reducible show wpAny _ _ (pyIter _) _ _ _))
local macro_rules | `(tactic| walk_at "S") => `(tactic| repeat' (first
  | (k_unfold; (try dsimp only))
  | ((with_reducible show Frag.In _ _ ∧ _); walk1)
  | (fail_if_success (k_end; skip)); (fail_if_success walk_at "stop"); first | walk1 | (dsimp only; walk1)))
local macro_rules | `(tactic| walk_at "S2") => `(tactic| repeat' (first
  | (k_unfold; (try dsimp only))
  | ((with_reducible show Frag.In _ _ ∧ _); walk1)
  | (fail_if_success (k_end; skip)); (fail_if_success walk_at "stop"); (fail_if_success (with_reducible show wpAny _ _ (compareOp _ (Value.ref _) (Value.ref _)) _ _ _)); first | walk1 | (dsimp only; walk1)))
local macro_rules | `(tactic| walk_at "S4") => `(tactic| repeat' (first
  | (k_unfold; (try dsimp only))
  | ((with_reducible show Frag.In _ _ ∧ _); walk1)
  | (fail_if_success (k_end; skip)); (fail_if_success walk_at "stop"); (fail_if_success (with_reducible show wpAny _ _ (execs (Stmt.For _ _ _ _ _ :: _) _) _ _ _)); first | walk1 | (dsimp only; walk1)))
local macro_rules | `(tactic| walk_at "S6") => `(tactic| repeat' (first
  | (k_unfold; (try dsimp only))
  | ((with_reducible show Frag.In _ _ ∧ _); walk1)
  | (fail_if_success (k_end; skip)); (fail_if_success walk_at "stop"); (fail_if_success (with_reducible show wpAny _ _ (execs (Stmt.Assign [Expr.Tuple _ _ _] (Expr.ListComp _ _ _ _) _ :: _) _) _ _ _)); first | walk1 | (dsimp only; walk1)))
local macro_rules | `(tactic| walk_at "one") => `(tactic| exact List.forall_mem_cons.mpr ⟨rfl, List.forall_mem_nil _⟩)
local macro_rules | `(tactic| walk_at "others") => `(tactic| (intro z h1 h2 h3; have h4 := h2 _ (.head _); simp only [kstB, if_neg h1, if_neg h4, h3, Bool.false_eq_true, if_false]))
local macro_rules | `(tactic| walk_at "len") => `(tactic| ((try simp only [List.length_append, List.length_cons, List.length_nil, List.length_map, expandZ_len, checkZ_len, rangeKs_length] at *); omega))
local macro_rules | `(tactic| walk_at "binaryOp Add ref ref") => `(tactic| (k_here; k_dflt (refine' addInts ?F ?N ?l ?b ?i ?j ?z ?_; (case F => k_asm); (case N => k_asm); (case l => walk_at "alist"); (case b => walk_at "alist"); (case i => first | assumption | l_ints); (case j => first | assumption | l_ints); (case z => walk_at "len"); intro D' arr' k' h' F' N' hI' o1'; (try simp only [LCg.Off1, and_true] at o1'))))
local macro_rules | `(tactic| walk_at "room") => `(tactic| (dsimp only [AA]; omega))
local macro_rules | `(tactic| walk_at "top") => `(tactic| exact Top.keeps (by assumption) (Fr.keep (by k_asm)))
local macro_rules | `(tactic| walk_at "alist") => `(tactic| first | (with_reducible assumption) | exact isList_in (by k_asm) (by k_mem) | (refine Heap.IsList.at (h := _) (by assumption) (fun o e => Fr.keep (by k_asm) _ o e)))
local macro_rules | `(tactic| walk_at "call ref") => `(tactic| (k_here; k_dflt (refine' expand_spec ?X ?T ?d ?x ?_; (case X => k_in); (case T => walk_at "top"); (case d => walk_at "room"); (case x => first | assumption | omega); intro l' arr' k' h' tk' hg' hn' ho' hI'; have hb' := backL (by k_asm) (by k_asm) hg' hn' ho'; obtain ⟨F', N', o1'⟩ := hb'; (try simp only [LCg.Off1, and_true] at o1'))))
local macro_rules | `(tactic| walk_at "call ref") => `(tactic| (k_here; k_dflt (refine' poly_spec ?X ?T ?d ?l ?i ?_; (case X => k_in); (case T => walk_at "top"); (case d => walk_at "room"); (case l => walk_at "alist"); (case i => assumption); intro t' h' tk' hg'; have hb' := backI (by k_asm) (by k_asm) hg'; obtain ⟨F', N'⟩ := hb')))
local macro_rules | `(tactic| walk_at "call ref") => `(tactic| (k_here; k_dflt (refine' create_spec ?X ?T ?d ?x ?l ?i ?n ?_; (case X => k_in); (case T => walk_at "top"); (case d => walk_at "room"); (case x => first | assumption | omega); (case l => walk_at "alist"); (case i => assumption); (case n => walk_at "len"); intro l' arr' k' h' tk' hg' hn' ho' hI'; have hb' := backL (by k_asm) (by k_asm) hg' hn' ho'; obtain ⟨F', N', o1'⟩ := hb'; (try simp only [LCg.Off1, and_true] at o1'))))
local macro_rules | `(tactic| walk_at "call ref") => `(tactic| (k_here; k_dflt (refine' verify_spec ?X ?T ?d ?x ?l ?i ?n ?_; (case X => k_in); (case T => walk_at "top"); (case d => walk_at "room"); (case x => first | assumption | omega); (case l => walk_at "alist"); (case i => assumption); (case n => walk_at "len"); intro h' tk' hg'; have hb' := backI (by k_asm) (by k_asm) hg'; obtain ⟨F', N'⟩ := hb')))
local macro_rules | `(tactic| walk_at "slen") => `(tactic| ((try simp only [PySem.Str.length_append, Str.cps_append, len_one, len_one2, PySem.Str.length, Array.size_append, List.size_toArray, List.length_map, List.length_append, checkZ_len] at *); rw [sizeLine_eq]; omega))
local macro_rules | `(tactic| walk_at "binaryOp Add str str") => `(tactic| (k_dflt (refine' PyProof.Rows.add_str ?_ ?z; (case z => walk_at "slen"); intro t' tk')))
local macro_rules | `(tactic| walk_at "subscriptTail Name Name str int") => `(tactic| (k_dflt (refine item_str (x := CH) (fitsSsize_of (N := 9223372036854775808) (by omega) (by omega) (Int.le_refl _)) (by rw [ch_len]; omega) (by rw [ch_len]; omega) ?_; intro _)))
local macro_rules | `(tactic| walk_at "eval Name") => `(tactic| (k_here; (with_reducible show wpAny _ _ (eval (Expr.Name _ _) (genEnv _ _ _ _ _ _)) _ _ _); k_dflt (first
  | (refine nameG_L (by k_asm) (by assumption) ?_)
  | (refine nameG_K (by k_asm) (by k_asm) (by k_asm) (by rfl) (by k_is) ?_)
  | (refine nameG_B (by k_asm) (by k_asm) (by k_asm) (by rfl) (by k_is) (by boot_by_name) (by decide) ?_))))
local macro_rules | `(tactic| walk_at "call builtin:len") => `(tactic| (k_here; (with_reducible show wpAny _ _ (call (Value.builtin "len") [Value.ref _]) _ _ _); k_dflt (refine' PyProof.Rows.len_list ?l ?z ?_; (case l => walk_at "alist"); (case z => walk_at "len"))))

local macro_rules | `(tactic| walk_at "call ref") => `(tactic| (k_here; k_dflt (refine' digits_spec ?X ?T ?d ?b0 ?b1 ?m ?_; (case X => k_in); (case T => walk_at "top"); (case d => walk_at "room"); (case b0 => omega); (case b1 => omega); (case m => omega); intro l' arr' k' h' tk' ds' hg' hn' ho' hI' hd1' hd2' hd3'; have hb' := backL (by k_asm) (by k_asm) hg' hn' ho'; obtain ⟨F', N', o1'⟩ := hb'; (try simp only [LCg.Off1, and_true] at o1'))))

local macro_rules | `(tactic| walk_at "mems") => `(tactic| first | exact List.forall_mem_nil _ | exact List.forall_mem_cons.mpr ⟨by k_mem, by walk_at "mems"⟩)
local macro_rules | `(tactic| walk_at "told") => `(tactic| first | exact List.forall_mem_nil _ | exact List.forall_mem_cons.mpr ⟨rfl, by walk_at "told"⟩)
local macro_rules | `(tactic| walk_at "S3") => `(tactic| repeat' (first
  | (k_unfold; (try dsimp only))
  | ((with_reducible show Frag.In _ _ ∧ _); walk1)
  | (fail_if_success (k_end; skip)); (fail_if_success walk_at "stop"); (fail_if_success (with_reducible show wpAny _ _ (execs (Stmt.If _ _ _ _ :: _) _) _ _ _)); first | walk1 | (dsimp only; walk1)))
local macro_rules | `(tactic| walk_at "clss") => `(tactic| (repeat' (first | exact List.forall_mem_nil _ | refine List.forall_mem_cons.mpr ⟨by rintro ⟨⟩, ?_⟩)))
local macro_rules | `(tactic| walk_at "rds") => `(tactic| first | exact ReadsAll.nil | exact ReadsAll.cons (by walk_at "rd") (by walk_at "rds"))
local macro_rules | `(tactic| walk_at "rd") => `(tactic| first
  | exact Reads.none
  | exact Reads.str _ _
  | exact reads_list_at (News.get (by k_asm) (by k_mem)) rfl rfl (readsInts (by assumption))
  | exact reads_list_at (News.get (by k_asm) (by k_mem)) rfl rfl (by walk_at "rds")
  | exact reads_tuple_at (News.get (by k_asm) (by k_mem)) rfl rfl (by walk_at "rds"))
local macro_rules | `(tactic| walk_at "call ref") => `(tactic| (k_here; k_dflt (refine' at_spec ?X ?T ?d ?l ?i ?n ?k ?_; (case X => k_in); (case T => walk_at "top"); (case d => walk_at "room"); (case l => walk_at "alist"); (case i => assumption); (case n => omega); (case k => omega); intro t' h' tk' hg'; have hb' := backI (by k_asm) (by k_asm) hg'; obtain ⟨F', N'⟩ := hb')))
local macro_rules | `(tactic| walk_at "call ref") => `(tactic| (k_here; k_dflt (refine' encode_spec ?X ?T ?d ?x ?l ?i ?n ?b ?_; (case X => k_in); (case T => walk_at "top"); (case d => walk_at "room"); (case x => first | assumption | omega); (case l => walk_at "alist"); (case i => assumption); (case n => omega); (case b => assumption); intro t' h' tk' hg'; have hb' := backI (by k_asm) (by k_asm) hg'; obtain ⟨F', N'⟩ := hb')))
local macro_rules | `(tactic| walk_at "call builtin:len") => `(tactic| (k_here; (with_reducible show wpAny _ _ (call (Value.builtin "len") [Value.str _ _]) _ _ _); k_dflt (refine PySem.P.len_str (by ((try simp only [PySem.Str.length] at *); omega)) ?_)))
local macro_rules | `(tactic| walk_at "S7") => `(tactic| repeat' (first
  | (k_unfold; (try dsimp only))
  | ((with_reducible show Frag.In _ _ ∧ _); walk1)
  | (fail_if_success (k_end; skip)); (fail_if_success walk_at "stop"); (fail_if_success (with_reducible show wpAny _ _ (execs (Stmt.Assign _ (Expr.BinOp _ _ _ _) _ :: _) _) _ _ _)); first | walk1 | (dsimp only; walk1)))
local macro_rules | `(tactic| walk_at "S8") => `(tactic| repeat' (first
  | (k_unfold; (try dsimp only))
  | ((with_reducible show Frag.In _ _ ∧ _); walk1)
  | (fail_if_success (k_end; skip)); (fail_if_success walk_at "stop"); (fail_if_success (with_reducible show wpAny _ _ (execs (Stmt.Assign [Expr.Name "made" _] (Expr.BinOp _ _ _ _) _ :: _) _) _ _ _)); first | walk1 | (dsimp only; walk1)))
local macro_rules | `(tactic| walk_at "subscriptTail Name Name str int") => `(tactic| (k_dflt (refine item_str (x := signsT _) (fitsSsize_of (N := 9223372036854775808) (by omega) (by omega) (Int.le_refl _)) (by rw [signsT_len]; omega) (by rw [signsT_len]; omega) ?_; intro _)))
local macro_rules | `(tactic| walk_at "subscriptTail Name BinOp str int") => `(tactic| (k_dflt (refine item_str (x := signsT _) (fitsSsize_of (N := 9223372036854775808) (by omega) (by omega) (Int.le_refl _)) (by rw [signsT_len]; omega) (by rw [signsT_len]; omega) ?_; intro _)))
local macro_rules | `(tactic| walk_at "tabs") => `(tactic| (repeat' (first | exact List.forall_mem_nil _ | refine List.forall_mem_cons.mpr ⟨by first | exact listTab | exact notTab (by assumption) | exact (fun _ e => by cases e), ?_⟩)))
local macro_rules | `(tactic| walk_at "S9") => `(tactic| repeat' (first
  | (k_unfold; (try dsimp only))
  | ((with_reducible show Frag.In _ _ ∧ _); walk1)
  | (fail_if_success (k_end; skip)); (fail_if_success walk_at "stop"); (fail_if_success (with_reducible show wpAny _ _ (execs (Stmt.Assign [Expr.Name "told" _] (Expr.BinOp _ _ _ _) _ :: _) _) _ _ _)); first | walk1 | (dsimp only; walk1)))
local macro_rules | `(tactic| walk_at "subscriptTail Name Name ref int") => `(tactic| (k_dflt (refine' int_item ?l ?i ?z ?a ?b ?_; (case l => walk_at "alist"); (case i => with_reducible assumption); (case z => omega); (case a => omega); (case b => omega); intro _)))
local macro_rules | `(tactic| walk_at "subscriptTail Name BinOp ref int") => `(tactic| (k_dflt (refine' int_item ?l ?i ?z ?a ?b ?_; (case l => walk_at "alist"); (case i => with_reducible assumption); (case z => omega); (case a => omega); (case b => omega); intro _)))
local macro_rules | `(tactic| walk_at "subscriptTail Name Slice ref ref") => `(tactic| (k_here; k_dflt (refine' sliceFrom ?F ?N ?l ?i ?z ?a ?_; (case F => k_asm); (case N => k_asm); (case l => walk_at "alist"); (case i => with_reducible assumption); (case z => omega); (case a => omega)); intro D' arr2' h' F' N' l1 hI'))
local macro_rules | `(tactic| walk_at "subscriptTail Name Slice ref ref") => `(tactic| (k_here; k_dflt (refine' sliceTo ?F ?N ?l ?i ?z ?a ?_; (case F => k_asm); (case N => k_asm); (case l => walk_at "alist"); (case i => with_reducible assumption); (case z => omega); (case a => omega)); intro D' arr2' h' F' N' l1 hI'))
local macro_rules | `(tactic| walk_at "S10") => `(tactic| repeat' (first
  | (k_unfold; (try dsimp only))
  | ((with_reducible show Frag.In _ _ ∧ _); walk1)
  | (fail_if_success (k_end; skip)); (fail_if_success walk_at "stop"); (fail_if_success (with_reducible show wpAny _ _ (execs (Stmt.If _ _ _ _ :: _) _) _ _ _)); (fail_if_success (with_reducible show wpAny _ _ (call _ [Value.ref _]) _ _ _)); first | walk1 | (dsimp only; walk1)))
local macro_rules | `(tactic| k_ne) => `(tactic| exact newsNe (by k_asm) (by k_mem) (by k_mem) (by k_asm) (fun _ e => by cases e))
local macro_rules | `(tactic| walk_at "lits") => `(tactic| first | exact IntsAre.nil | (refine IntsAre.cons _ _ ?_; walk_at "lits"))
local macro_rules | `(tactic| k_ne) => `(tactic| (refine neN ?_; (try dsimp only); first | (with_reducible assumption) | exact off1_mem (by k_asm) (_, _) (by k_mem) | exact Ne.symm (off1_mem (by k_asm) (_, _) (by k_mem))))
local macro_rules | `(tactic| walk_at "storeName") => `(tactic| (k_here; (first | (with_reducible show wpAny _ _ (storeName _ (PySem.Str.ofString "upper") _) _ _ _) | (with_reducible show wpAny _ _ (storeName _ (PySem.Str.ofString "lower") _) _ _ _) | (with_reducible show wpAny _ _ (storeName _ (PySem.Str.ofString "turn") _) _ _ _) | (with_reducible show wpAny _ _ (storeName _ (PySem.Str.ofString "told") _) _ _ _)); k_dflt (refine' storeX_C ?F ?N ?c ?U ?d ?_ ?a ?b; (case a => rfl); (case b => rfl); (case F => k_asm); (case N => k_asm); (case c => rfl); (case U => k_updF); (case d => k_asm); k_whole; intro h' o' F' N' d'; (try dsimp only at N'); (try k_sweep))))
local macro_rules | `(tactic| walk_at "S5") => `(tactic| repeat' (first
  | (k_unfold; (try dsimp only))
  | ((with_reducible show Frag.In _ _ ∧ _); walk1)
  | (fail_if_success (k_end; skip)); (fail_if_success walk_at "stop"); (fail_if_success (with_reducible show wpAny _ _ (execs (Stmt.Assign _ (Expr.ListComp _ _ _ _) _ :: _) _) _ _ _)); first | walk1 | (dsimp only; walk1)))
local macro_rules | `(tactic| walk_at "call type:range") => `(tactic| (dsimp only; walk_at "call type:range"))
theorem five {α : Type} : ∀ {ls : List α}, ls.length = 5 → ∃ a b c d e, ls = [a, b, c, d, e]
  | [a, b, c, d, e], _ => ⟨a, b, c, d, e, rfl⟩
local macro_rules | `(tactic| walk_at "call ref") => `(tactic| (k_here; k_dflt (refine' by_spec ?X ?T ?d ?n0 ?n1 ?_; (case X => k_in); (case T => walk_at "top"); (case d => walk_at "room"); (case n0 => omega); (case n1 => omega); intro l' arr' k' h' tk' hg' hn' ho' hI'; have hb' := backL (by k_asm) (by k_asm) hg' hn' ho'; obtain ⟨F', N', o1'⟩ := hb'; (try simp only [LCg.Off1, and_true] at o1'))))
set_option maxHeartbeats 40000000 in
theorem partS {w : World} {dp un : Nat} {fr : Option (List Env)} {gd : Option (List Code)} {s : Shared} {p : Program} {loose : List Str} {mean : ExcName → Option Value} {mg mb : Str → Option Value} {Q : Value → Shared → Prop}
    {h₀ h : Heap} {L tk : Nat} {u : Str → Option Value} {name : Str} {body : List Stmt} {scope : Scope} {cdv : Value}
    (ho : FnAt (Mine.hd.heap_39 w.params) 100 name body scope cdv)
    (X : (Mine.hd.heap_39 w.params).In h₀) (T : Top p loose mean mg mb h₀) (C : CodeHd h₀ 47 45) (hG : AllBare s.gens) (hd : dp + 40 < recursionLimit) (hu : un + 1000 < cLine)
    {RL : Addr} {ra : Array Value} {rk pl : Nat} {tt tp tm tq : Tok} {cs : List Int} {o1 o2 o3 o4 : Obj} {ps : Array Value}
    (hI2 : IntsAre ra.toList (swapZ cs pl)) (hp : pl + 2 ≤ cs.length)
    (hcb : ∀ n ∈ cs, 0 ≤ n ∧ n < 32) (hc6 : 6 ≤ cs.length) (hc14 : cs.length ≤ 14)
    (d1 : o1.data = .cell none) (d2 : o2.data = .cell none) (d3 : o3.data = .cell none) (d4 : o4.data = .cell (some (.int (packN (dueV cs pl) : Int) tq)))
    (F : Fr h₀ L h (kstB u [("tail", .str (signsT cs) tt), ("place", .int (pl : Int) tp), ("made", .str (signsT (swapZ cs pl)) tm), ("read", .ref RL)]))
    (N : News h₀ L h [(RL, W.listOf ra rk), (L + 1 + 1 + 1 + 1, o1), (L + 1 + 1 + 1, o2), (L + 1 + 1, o3), (L + 1, o4), (45, tabObj ps)])
    (ret : ∀ s' ps, s'.os = s.os → AllBare s'.gens → (∀ b o, h₀.get? b = some o → s'.heap.get? b = some o) → s'.heap.get? 45 = some (tabObj ps) → Q (.bool true) s') :
    wpAny (model PySem.Challenge.rw_oo0007_02.row.prog w) ((AA dp un fr gd).deeper (envOfC name scope L 100 cdv)) (execs (body.drop 15) (envOfC name scope L 100 cdv))
        (fun fl s' => Q (match fl with | .ret v => v | _ => .none) s') (fun _ _ => False) { s with heap := h, toks := tk } := by
  revert ho X; k_fill; intro ho X
  obtain ⟨rfl, rfl, rfl, rfl⟩ := ho.inj (.mk (by k_is))
  clear ho
  simp only [List.drop]
  have hT1 := pack_lt (ok_due cs pl)
  have hT0 : (0 : Int) ≤ (packN (dueV cs pl) : Int) := by omega
  have hsx := six_pack (ok_due cs pl)
  have k2 : IntsAre ra.toList (swapZ cs pl) ∧ True := ⟨hI2, trivial⟩
  generalize hTg : (packN (dueV cs pl) : Int) = T1 at *
  walk_at "S"
  refine LCg.Assign_ListComp_U (F₀ := by k_asm) (by rfl) (by with_unfolding_all rfl) (by with_unfolding_all rfl) (by decide) (by rfl) (by decide) (by rfl) (by rfl) (by rfl) ?_
  walk_at "S"
  refine CompSrc.range (by rfl) (by k_asm) (by k_asm) (by assumption) (by decide) (n := 6) rfl (by rw [sizeLine_eq]; omega) ?_
  intro g
  refine compPure (fun i y => ∃ t, y = .int ((sixZ T1).getD i 0) t) trivial ?_ ?_
  · rintro i ys v I oI C oC D m₂ h tk E' hi ⟨t, rfl⟩ hC hm F N
    walk_at "S"
    have hne : ¬ (32 : Int) ^ (5 - (0 + (i : Int))).toNat = 0 := by
      have := Int.pow_pos (n := 32) (m := (5 - (0 + (i : Int))).toNat) (by decide)
      omega
    have hps : (0 : Int) < (32 : Int) ^ (5 - (0 + (i : Int))).toNat := Int.pow_pos (by decide)
    have hpl : ((32 : Int) ^ (5 - (0 + (i : Int))).toNat).natAbs < 1073741824 := by
      have h2 : ∀ j : Nat, j < 6 → ((32 : Int) ^ (5 - (0 + (j : Int))).toNat).natAbs < 1073741824 := by decide
      exact h2 i hi
    refine floordiv_int hne ?_ (Or.inl (PyProof.noPylong_small hpl))
    walk_at "S"
    refine ⟨?_, _, _, rfl, by k_asm, by k_asm⟩
    rw [sixZ, getD_range hi]; exact ⟨_, rfl⟩
  · intro ys hl hR
    have hI6 := intsAre_of (ns := sixZ T1) (by rw [hl]; rfl) hR
    rw [hsx] at hI6
    have k6 : IntsAre ys (castV (dueV cs pl)) ∧ True := ⟨hI6, trivial⟩
    clear hR
    walk_at "FinA"
    walk_at "S"
    refine LCg.Assign_ListComp_U (F₀ := by k_asm) (by rfl) (by with_unfolding_all rfl) (by with_unfolding_all rfl) (by decide) (by rfl) (by decide) (by rfl) (by rfl) (by rfl) ?_
    walk_at "S"
    refine CompSrc.ledger (by rfl) (by k_asm) (by k_asm) (by k_mem) (by rw [sizeLine_eq]; simp) ?_
    intro g
    refine compLists (fun i => byZ (([29, 22, 20, 21, 18] : List Int).getD i 0)) (fun ls => Or.inr ⟨_, List.mem_append_right _ (.head _), rfl, _, rfl⟩) ?_ ?_
    · intro i ls ys v I oI C oC D m₂ h tk E' hi' hv hC hm F N
      obtain ⟨n, t, rfl, hn9⟩ := IntsAre.at (.cons 29 _ (.cons 22 _ (.cons 20 _ (.cons 21 _ (.cons 18 _ .nil))))) i v (by rw [← Array.getElem?_toList] at hv; exact hv)
      have hnb : 0 ≤ n ∧ n < 32 := (show ∀ n ∈ ([29, 22, 20, 21, 18] : List Int), 0 ≤ n ∧ n < 32 by decide) n (List.mem_of_getElem? hn9)
      obtain ⟨hnb0, hnb1⟩ := hnb
      have hn8 : ([29, 22, 20, 21, 18] : List Int).getD i 0 = n := by rw [List.getD, hn9]; rfl
      rw [hn8]
      walk_at "S"
      exact ⟨_, _, _, _, _, rfl, rfl, by k_asm, by k_asm, by assumption, by assumption⟩
    · intro ls hls hl6
      obtain ⟨⟨a18, r18, k18⟩, ⟨a21, r21, k21⟩, ⟨a20, r20, k20⟩, ⟨a22, r22, k22⟩, ⟨a29, r29, k29⟩, rfl⟩ := five hls
      have t29 : IntsAre r29.toList (byZ 29) := hl6 0 _ rfl
      have t22 : IntsAre r22.toList (byZ 22) := hl6 1 _ rfl
      have t20 : IntsAre r20.toList (byZ 20) := hl6 2 _ rfl
      have t21 : IntsAre r21.toList (byZ 21) := hl6 3 _ rfl
      have t18 : IntsAre r18.toList (byZ 18) := hl6 4 _ rfl
      clear hl6
      have kt : IntsAre r29.toList (byZ 29) ∧ IntsAre r22.toList (byZ 22) ∧ IntsAre r20.toList (byZ 20) ∧ IntsAre r21.toList (byZ 21) ∧ IntsAre r18.toList (byZ 18) := ⟨t29, t22, t20, t21, t18⟩
      show FinA _ _ _ _ _ _ [Value.ref a29, Value.ref a22, Value.ref a20, Value.ref a21, Value.ref a18] [(a18, W.listOf r18 k18), (a21, W.listOf r21 k21), (a20, W.listOf r20 k20), (a22, W.listOf r22 k22), (a29, W.listOf r29 k29), _, _, _, _, _, _, _, _]
      walk_at "FinA"
      have hoE : FnAt (Mine.hd.heap_39 w.params) 100 _ _ _ _ := .mk (by k_is)
      rename News _ _ _ _ => N7
      rename Fr _ _ _ _ => F7
      exact partF (s := s) hoE X T C hG hd hu k2.1 hp k6.1 kt.1 kt.2.1 kt.2.2.1 kt.2.2.2.1 kt.2.2.2.2 hcb hc6 hc14 d1 d2 d3 (frTold _ F7 (by walk_at "told")) (news_sub N7 (by walk_at "mems")) ret
end Mine
end
section
open PySem PySem.W PySem.Calls PyProof.Rows
set_option maxRecDepth 100000
set_option linter.unusedVariables false
namespace Mine
open LCg
local macro_rules | `(tactic| walk_at "binaryOp LShift int int") => `(tactic| (refine lshift_int_small (by decide) (by decide) (bits_and25 _) ?_))
local macro_rules | `(tactic| walk_at "stop") => `(tactic| first
  | (with_reducible show wpAny _ _ (exec (Stmt.For _ _ _ _ _) _) _ _ _)
  | (with_reducible show wpAny _ _ (exec (Stmt.Assign _ (Expr.ListComp _ _ _ _) _) _) _ _ _)
  | (with_reducible show wpAny _ _ (exec (Stmt.While _ _ _ _) _) _ _ _)
  | (with_reducible show wpAny _ _ (eval (Expr.ListComp _ _ _ _) _) _ _ _)
  | (with_reducible show wpAny _ _ (eval (Expr.GeneratorExp _ _ _ _) _) _ _ _)
  | (with_reducible show wpAny _ _ (call (Value.builtin "any") _) _ _ _)
  | (with_reducible show wpAny _ _ (call (Value.builtin "all") _) _ _ _)
  | (with_reducible show wpAny _ _ (pyIter _) _ _ _))
local macro_rules | `(tactic| walk_at "S") => `(tactic| repeat' (first
  | (k_unfold; (try dsimp only))
  | ((with_reducible show Frag.In _ _ ∧ _); walk1)
  | (fail_if_success (k_end; skip)); (fail_if_success walk_at "stop"); first | walk1 | (dsimp only; walk1)))
local macro_rules | `(tactic| walk_at "S2") => `(tactic| repeat' (first
  | (k_unfold; (try dsimp only))
  | ((with_reducible show Frag.In _ _ ∧ _); walk1)
  | (fail_if_success (k_end; skip)); (fail_if_success walk_at "stop"); (fail_if_success (with_reducible show wpAny _ _ (compareOp _ (Value.ref _) (Value.ref _)) _ _ _)); first | walk1 | (dsimp only; walk1)))
local macro_rules | `(tactic| walk_at "S4") => `(tactic| repeat' (first
  | (k_unfold; (try dsimp only))
  | ((with_reducible show Frag.In _ _ ∧ _); walk1)
  | (fail_if_success (k_end; skip)); (fail_if_success walk_at "stop"); (fail_if_success (with_reducible show wpAny _ _ (execs (Stmt.For _ _ _ _ _ :: _) _) _ _ _)); first | walk1 | (dsimp only; walk1)))
local macro_rules | `(tactic| walk_at "S6") => `(tactic| repeat' (first
  | (k_unfold; (try dsimp only))
  | ((with_reducible show Frag.In _ _ ∧ _); walk1)
  | (fail_if_success (k_end; skip)); (fail_if_success walk_at "stop"); (fail_if_success (with_reducible show wpAny _ _ (execs (Stmt.Assign [Expr.Tuple _ _ _] (Expr.ListComp _ _ _ _) _ :: _) _) _ _ _)); first | walk1 | (dsimp only; walk1)))
local macro_rules | `(tactic| walk_at "one") => `(tactic| exact List.forall_mem_cons.mpr ⟨rfl, List.forall_mem_nil _⟩)
local macro_rules | `(tactic| walk_at "others") => `(tactic| (intro z h1 h2 h3; have h4 := h2 _ (.head _); simp only [kstB, if_neg h1, if_neg h4, h3, Bool.false_eq_true, if_false]))
local macro_rules | `(tactic| walk_at "len") => `(tactic| ((try simp only [List.length_append, List.length_cons, List.length_nil, List.length_map, expandZ_len, checkZ_len, rangeKs_length] at *); omega))
local macro_rules | `(tactic| walk_at "binaryOp Add ref ref") => `(tactic| (k_here; k_dflt (refine' addInts ?F ?N ?l ?b ?i ?j ?z ?_; (case F => k_asm); (case N => k_asm); (case l => walk_at "alist"); (case b => walk_at "alist"); (case i => first | assumption | l_ints); (case j => first | assumption | l_ints); (case z => walk_at "len"); intro D' arr' k' h' F' N' hI' o1'; (try simp only [LCg.Off1, and_true] at o1'))))
local macro_rules | `(tactic| walk_at "room") => `(tactic| (dsimp only [AA]; omega))
local macro_rules | `(tactic| walk_at "top") => `(tactic| exact Top.keeps (by assumption) (Fr.keep (by k_asm)))
local macro_rules | `(tactic| walk_at "alist") => `(tactic| first | (with_reducible assumption) | exact isList_in (by k_asm) (by k_mem) | (refine Heap.IsList.at (h := _) (by assumption) (fun o e => Fr.keep (by k_asm) _ o e)))
local macro_rules | `(tactic| walk_at "call ref") => `(tactic| (k_here; k_dflt (refine' expand_spec ?X ?T ?d ?x ?_; (case X => k_in); (case T => walk_at "top"); (case d => walk_at "room"); (case x => first | assumption | omega); intro l' arr' k' h' tk' hg' hn' ho' hI'; have hb' := backL (by k_asm) (by k_asm) hg' hn' ho'; obtain ⟨F', N', o1'⟩ := hb'; (try simp only [LCg.Off1, and_true] at o1'))))
local macro_rules | `(tactic| walk_at "call ref") => `(tactic| (k_here; k_dflt (refine' poly_spec ?X ?T ?d ?l ?i ?_; (case X => k_in); (case T => walk_at "top"); (case d => walk_at "room"); (case l => walk_at "alist"); (case i => assumption); intro t' h' tk' hg'; have hb' := backI (by k_asm) (by k_asm) hg'; obtain ⟨F', N'⟩ := hb')))
local macro_rules | `(tactic| walk_at "call ref") => `(tactic| (k_here; k_dflt (refine' create_spec ?X ?T ?d ?x ?l ?i ?n ?_; (case X => k_in); (case T => walk_at "top"); (case d => walk_at "room"); (case x => first | assumption | omega); (case l => walk_at "alist"); (case i => assumption); (case n => walk_at "len"); intro l' arr' k' h' tk' hg' hn' ho' hI'; have hb' := backL (by k_asm) (by k_asm) hg' hn' ho'; obtain ⟨F', N', o1'⟩ := hb'; (try simp only [LCg.Off1, and_true] at o1'))))
local macro_rules | `(tactic| walk_at "call ref") => `(tactic| (k_here; k_dflt (refine' verify_spec ?X ?T ?d ?x ?l ?i ?n ?_; (case X => k_in); (case T => walk_at "top"); (case d => walk_at "room"); (case x => first | assumption | omega); (case l => walk_at "alist"); (case i => assumption); (case n => walk_at "len"); intro h' tk' hg'; have hb' := backI (by k_asm) (by k_asm) hg'; obtain ⟨F', N'⟩ := hb')))
local macro_rules | `(tactic| walk_at "slen") => `(tactic| ((try simp only [PySem.Str.length_append, Str.cps_append, len_one, len_one2, PySem.Str.length, Array.size_append, List.size_toArray, List.length_map, List.length_append, checkZ_len] at *); rw [sizeLine_eq]; omega))
local macro_rules | `(tactic| walk_at "binaryOp Add str str") => `(tactic| (k_dflt (refine' PyProof.Rows.add_str ?_ ?z; (case z => walk_at "slen"); intro t' tk')))
local macro_rules | `(tactic| walk_at "subscriptTail Name Name str int") => `(tactic| (k_dflt (refine item_str (x := CH) (fitsSsize_of (N := 9223372036854775808) (by omega) (by omega) (Int.le_refl _)) (by rw [ch_len]; omega) (by rw [ch_len]; omega) ?_; intro _)))
local macro_rules | `(tactic| walk_at "eval Name") => `(tactic| (k_here; (with_reducible show wpAny _ _ (eval (Expr.Name _ _) (genEnv _ _ _ _ _ _)) _ _ _); k_dflt (first
  | (refine nameG_L (by k_asm) (by assumption) ?_)
  | (refine nameG_K (by k_asm) (by k_asm) (by k_asm) (by rfl) (by k_is) ?_)
  | (refine nameG_B (by k_asm) (by k_asm) (by k_asm) (by rfl) (by k_is) (by boot_by_name) (by decide) ?_))))
local macro_rules | `(tactic| walk_at "call builtin:len") => `(tactic| (k_here; (with_reducible show wpAny _ _ (call (Value.builtin "len") [Value.ref _]) _ _ _); k_dflt (refine' PyProof.Rows.len_list ?l ?z ?_; (case l => walk_at "alist"); (case z => walk_at "len"))))

local macro_rules | `(tactic| walk_at "call ref") => `(tactic| (k_here; k_dflt (refine' digits_spec ?X ?T ?d ?b0 ?b1 ?m ?_; (case X => k_in); (case T => walk_at "top"); (case d => walk_at "room"); (case b0 => omega); (case b1 => omega); (case m => omega); intro l' arr' k' h' tk' ds' hg' hn' ho' hI' hd1' hd2' hd3'; have hb' := backL (by k_asm) (by k_asm) hg' hn' ho'; obtain ⟨F', N', o1'⟩ := hb'; (try simp only [LCg.Off1, and_true] at o1'))))

local macro_rules | `(tactic| walk_at "mems") => `(tactic| first | exact List.forall_mem_nil _ | exact List.forall_mem_cons.mpr ⟨by k_mem, by walk_at "mems"⟩)
local macro_rules | `(tactic| walk_at "told") => `(tactic| first | exact List.forall_mem_nil _ | exact List.forall_mem_cons.mpr ⟨rfl, by walk_at "told"⟩)
local macro_rules | `(tactic| walk_at "S3") => `(tactic| repeat' (first
  | (k_unfold; (try dsimp only))
  | ((with_reducible show Frag.In _ _ ∧ _); walk1)
  | (fail_if_success (k_end; skip)); (fail_if_success walk_at "stop"); (fail_if_success (with_reducible show wpAny _ _ (execs (Stmt.If _ _ _ _ :: _) _) _ _ _)); first | walk1 | (dsimp only; walk1)))
local macro_rules | `(tactic| walk_at "clss") => `(tactic| (repeat' (first | exact List.forall_mem_nil _ | refine List.forall_mem_cons.mpr ⟨by rintro ⟨⟩, ?_⟩)))
local macro_rules | `(tactic| walk_at "rds") => `(tactic| first | exact ReadsAll.nil | exact ReadsAll.cons (by walk_at "rd") (by walk_at "rds"))
local macro_rules | `(tactic| walk_at "rd") => `(tactic| first
  | exact Reads.none
  | exact Reads.str _ _
  | exact reads_list_at (News.get (by k_asm) (by k_mem)) rfl rfl (readsInts (by assumption))
  | exact reads_list_at (News.get (by k_asm) (by k_mem)) rfl rfl (by walk_at "rds")
  | exact reads_tuple_at (News.get (by k_asm) (by k_mem)) rfl rfl (by walk_at "rds"))
local macro_rules | `(tactic| walk_at "call ref") => `(tactic| (k_here; k_dflt (refine' at_spec ?X ?T ?d ?l ?i ?n ?k ?_; (case X => k_in); (case T => walk_at "top"); (case d => walk_at "room"); (case l => walk_at "alist"); (case i => assumption); (case n => omega); (case k => omega); intro t' h' tk' hg'; have hb' := backI (by k_asm) (by k_asm) hg'; obtain ⟨F', N'⟩ := hb')))
local macro_rules | `(tactic| walk_at "call ref") => `(tactic| (k_here; k_dflt (refine' encode_spec ?X ?T ?d ?x ?l ?i ?n ?b ?_; (case X => k_in); (case T => walk_at "top"); (case d => walk_at "room"); (case x => first | assumption | omega); (case l => walk_at "alist"); (case i => assumption); (case n => omega); (case b => assumption); intro t' h' tk' hg'; have hb' := backI (by k_asm) (by k_asm) hg'; obtain ⟨F', N'⟩ := hb')))
local macro_rules | `(tactic| walk_at "call builtin:len") => `(tactic| (k_here; (with_reducible show wpAny _ _ (call (Value.builtin "len") [Value.str _ _]) _ _ _); k_dflt (refine PySem.P.len_str (by ((try simp only [PySem.Str.length] at *); omega)) ?_)))
local macro_rules | `(tactic| walk_at "S7") => `(tactic| repeat' (first
  | (k_unfold; (try dsimp only))
  | ((with_reducible show Frag.In _ _ ∧ _); walk1)
  | (fail_if_success (k_end; skip)); (fail_if_success walk_at "stop"); (fail_if_success (with_reducible show wpAny _ _ (execs (Stmt.Assign _ (Expr.BinOp _ _ _ _) _ :: _) _) _ _ _)); first | walk1 | (dsimp only; walk1)))
local macro_rules | `(tactic| walk_at "S8") => `(tactic| repeat' (first
  | (k_unfold; (try dsimp only))
  | ((with_reducible show Frag.In _ _ ∧ _); walk1)
  | (fail_if_success (k_end; skip)); (fail_if_success walk_at "stop"); (fail_if_success (with_reducible show wpAny _ _ (execs (Stmt.Assign [Expr.Name "made" _] (Expr.BinOp _ _ _ _) _ :: _) _) _ _ _)); first | walk1 | (dsimp only; walk1)))
local macro_rules | `(tactic| walk_at "subscriptTail Name Name str int") => `(tactic| (k_dflt (refine item_str (x := signsT _) (fitsSsize_of (N := 9223372036854775808) (by omega) (by omega) (Int.le_refl _)) (by rw [signsT_len]; omega) (by rw [signsT_len]; omega) ?_; intro _)))
local macro_rules | `(tactic| walk_at "subscriptTail Name BinOp str int") => `(tactic| (k_dflt (refine item_str (x := signsT _) (fitsSsize_of (N := 9223372036854775808) (by omega) (by omega) (Int.le_refl _)) (by rw [signsT_len]; omega) (by rw [signsT_len]; omega) ?_; intro _)))
local macro_rules | `(tactic| walk_at "tabs") => `(tactic| (repeat' (first | exact List.forall_mem_nil _ | refine List.forall_mem_cons.mpr ⟨by first | exact listTab | exact notTab (by assumption) | exact (fun _ e => by cases e), ?_⟩)))
local macro_rules | `(tactic| walk_at "S9") => `(tactic| repeat' (first
  | (k_unfold; (try dsimp only))
  | ((with_reducible show Frag.In _ _ ∧ _); walk1)
  | (fail_if_success (k_end; skip)); (fail_if_success walk_at "stop"); (fail_if_success (with_reducible show wpAny _ _ (execs (Stmt.Assign [Expr.Name "told" _] (Expr.BinOp _ _ _ _) _ :: _) _) _ _ _)); first | walk1 | (dsimp only; walk1)))
local macro_rules | `(tactic| walk_at "subscriptTail Name Name ref int") => `(tactic| (k_dflt (refine' int_item ?l ?i ?z ?a ?b ?_; (case l => walk_at "alist"); (case i => with_reducible assumption); (case z => omega); (case a => omega); (case b => omega); intro _)))
local macro_rules | `(tactic| walk_at "subscriptTail Name BinOp ref int") => `(tactic| (k_dflt (refine' int_item ?l ?i ?z ?a ?b ?_; (case l => walk_at "alist"); (case i => with_reducible assumption); (case z => omega); (case a => omega); (case b => omega); intro _)))
local macro_rules | `(tactic| walk_at "subscriptTail Name Slice ref ref") => `(tactic| (k_here; k_dflt (refine' sliceFrom ?F ?N ?l ?i ?z ?a ?_; (case F => k_asm); (case N => k_asm); (case l => walk_at "alist"); (case i => with_reducible assumption); (case z => omega); (case a => omega)); intro D' arr2' h' F' N' l1 hI'))
local macro_rules | `(tactic| walk_at "subscriptTail Name Slice ref ref") => `(tactic| (k_here; k_dflt (refine' sliceTo ?F ?N ?l ?i ?z ?a ?_; (case F => k_asm); (case N => k_asm); (case l => walk_at "alist"); (case i => with_reducible assumption); (case z => omega); (case a => omega)); intro D' arr2' h' F' N' l1 hI'))
local macro_rules | `(tactic| walk_at "S10") => `(tactic| repeat' (first
  | (k_unfold; (try dsimp only))
  | ((with_reducible show Frag.In _ _ ∧ _); walk1)
  | (fail_if_success (k_end; skip)); (fail_if_success walk_at "stop"); (fail_if_success (with_reducible show wpAny _ _ (execs (Stmt.If _ _ _ _ :: _) _) _ _ _)); (fail_if_success (with_reducible show wpAny _ _ (call _ [Value.ref _]) _ _ _)); first | walk1 | (dsimp only; walk1)))
local macro_rules | `(tactic| k_ne) => `(tactic| exact newsNe (by k_asm) (by k_mem) (by k_mem) (by k_asm) (fun _ e => by cases e))
local macro_rules | `(tactic| walk_at "lits") => `(tactic| first | exact IntsAre.nil | (refine IntsAre.cons _ _ ?_; walk_at "lits"))
local macro_rules | `(tactic| k_ne) => `(tactic| (refine neN ?_; (try dsimp only); first | (with_reducible assumption) | exact off1_mem (by k_asm) (_, _) (by k_mem) | exact Ne.symm (off1_mem (by k_asm) (_, _) (by k_mem))))
local macro_rules | `(tactic| walk_at "storeName") => `(tactic| (k_here; (first | (with_reducible show wpAny _ _ (storeName _ (PySem.Str.ofString "upper") _) _ _ _) | (with_reducible show wpAny _ _ (storeName _ (PySem.Str.ofString "lower") _) _ _ _) | (with_reducible show wpAny _ _ (storeName _ (PySem.Str.ofString "turn") _) _ _ _) | (with_reducible show wpAny _ _ (storeName _ (PySem.Str.ofString "told") _) _ _ _)); k_dflt (refine' storeX_C ?F ?N ?c ?U ?d ?_ ?a ?b; (case a => rfl); (case b => rfl); (case F => k_asm); (case N => k_asm); (case c => rfl); (case U => k_updF); (case d => k_asm); k_whole; intro h' o' F' N' d'; (try dsimp only at N'); (try k_sweep))))
local macro_rules | `(tactic| walk_at "S5") => `(tactic| repeat' (first
  | (k_unfold; (try dsimp only))
  | ((with_reducible show Frag.In _ _ ∧ _); walk1)
  | (fail_if_success (k_end; skip)); (fail_if_success walk_at "stop"); (fail_if_success (with_reducible show wpAny _ _ (execs (Stmt.Assign _ (Expr.ListComp _ _ _ _) _ :: _) _) _ _ _)); first | walk1 | (dsimp only; walk1)))
local macro_rules | `(tactic| walk_at "call type:range") => `(tactic| (dsimp only; walk_at "call type:range"))
set_option maxHeartbeats 4000000 in
theorem partR {w : World} {dp un : Nat} {fr : Option (List Env)} {gd : Option (List Code)} {s : Shared} {p : Program} {loose : List Str} {mean : ExcName → Option Value} {mg mb : Str → Option Value} {Q : Value → Shared → Prop}
    {h₀ h : Heap} {L tk : Nat} {u : Str → Option Value} {name : Str} {body : List Stmt} {scope : Scope} {cdv : Value}
    (ho : FnAt (Mine.hd.heap_39 w.params) 100 name body scope cdv)
    (X : (Mine.hd.heap_39 w.params).In h₀) (T : Top p loose mean mg mb h₀) (C : CodeHd h₀ 47 45) (hG : AllBare s.gens) (hd : dp + 40 < recursionLimit) (hu : un + 1000 < cLine)
    {NL : Addr} {la : Array Value} {lk pl : Nat} {x : Str} {tx tt tp tm : Tok} {cs : List Int} {o1 o2 o3 o4 : Obj} {ps : Array Value}
    (hx : NameIs x x.length) (hx0 : 1 ≤ x.length) (hx2 : x.length ≤ 2) (hI2 : IntsAre la.toList cs) (hp : pl + 2 ≤ cs.length)
    (hcb : ∀ n ∈ cs, 0 ≤ n ∧ n < 32) (hc6 : 6 ≤ cs.length) (hc14 : cs.length ≤ 14) (hpx : polyZ (expandZ x ++ cs) = 1)
    (d1 : o1.data = .cell none) (d2 : o2.data = .cell none) (d3 : o3.data = .cell none) (d4 : o4.data = .cell none)
    (F : Fr h₀ L h (kstB u [("readable", .str x tx), ("tail", .str (signsT cs) tt), ("numbers", .ref NL), ("place", .int (pl : Int) tp), ("made", .str (signsT (swapZ cs pl)) tm)]))
    (N : News h₀ L h [(NL, W.listOf la lk), (L + 1 + 1 + 1 + 1, o1), (L + 1 + 1 + 1, o2), (L + 1 + 1, o3), (L + 1, o4), (45, tabObj ps)])
    (ret : ∀ s' ps, s'.os = s.os → AllBare s'.gens → (∀ b o, h₀.get? b = some o → s'.heap.get? b = some o) → s'.heap.get? 45 = some (tabObj ps) → Q (.bool true) s') :
    wpAny (model PySem.Challenge.rw_oo0007_02.row.prog w) ((AA dp un fr gd).deeper (envOfC name scope L 100 cdv)) (execs (body.drop 12) (envOfC name scope L 100 cdv))
        (fun fl s' => Q (match fl with | .ret v => v | _ => .none) s') (fun _ _ => False) { s with heap := h, toks := tk } := by
  revert ho X; k_fill; intro ho X
  obtain ⟨rfl, rfl, rfl, rfl⟩ := ho.inj (.mk (by k_is))
  clear ho
  simp only [List.drop]
  have hcla := hI2.length
  rw [Array.length_toList] at hcla
  have hxl : x.length = x.cps.size := rfl
  have hxb : ∀ c ∈ x.cps.toList, c ≤ 126 := fun c hc => (hx.signs c (by simpa using hc)).2.1
  have hsw := swap_len hp
  have hsb := swap_mem hp hcb
  have hT := told_pack hxb hcb hp hc14 hpx
  have hT1 := pack_lt (ok_due cs pl)
  have hT0 : (0 : Int) ≤ (packN (dueV cs pl) : Int) := by omega
  walk_at "S9"
  have hI3 := (by with_reducible assumption : IntsAre _ (List.take _ cs ++ [_, _] ++ List.drop _ cs))
  replace hI3 : IntsAre _ (swapZ cs pl) := hI3
  walk_at "S3"
  rename Obj => o4'
  rename _ = Data.cell (some (Value.int (Builtin.bitXor _ _) _)) => d4'
  rw [hT] at d4'
  have hpw : (2 : Int) ^ Int.toNat 30 = 1073741824 := by decide
  walk_at "S5"
  have hoE : FnAt (Mine.hd.heap_39 w.params) 100 _ _ _ _ := .mk (by k_is)
  rename News _ _ _ _ => N7
  rename Fr _ _ _ _ => F7
  exact partS (s := s) hoE X T C hG hd hu (by with_reducible assumption : IntsAre (Array.toList (List.toArray _)) (swapZ cs pl)) hp hcb hc6 hc14 d1 d2 d3 d4' (frTold _ F7 (by walk_at "told")) (news_sub N7 (by walk_at "mems")) ret
end Mine
end
section
open PySem PySem.W PySem.Calls PyProof.Rows
set_option maxRecDepth 100000
set_option linter.unusedVariables false
namespace Mine
open LCg
local macro_rules | `(tactic| walk_at "binaryOp LShift int int") => `(tactic| (refine lshift_int_small (by decide) (by decide) (bits_and25 _) ?_))
local macro_rules | `(tactic| walk_at "stop") => `(tactic| first
  | (with_reducible show wpAny _ _ (exec (Stmt.For _ _ _ _ _) _) _ _ _)
  | (with_reducible show wpAny _ _ (exec (Stmt.Assign _ (Expr.ListComp _ _ _ _) _) _) _ _ _)
  | (with_reducible show wpAny _ _ (exec (Stmt.While _ _ _ _) _) _ _ _)
  | (with_reducible show wpAny _ _ (eval (Expr.ListComp _ _ _ _) _) _ _ _)
  | (with_reducible show wpAny _ _ (eval (Expr.GeneratorExp _ _ _ _) _) _ _ _)
  | (with_reducible show wpAny _ _ (call (Value.builtin "any") _) _ _ _)
  | (with_reducible show wpAny _ _ (call (Value.builtin "all") _) _ _ _)
  | (with_reducible show wpAny _ _ (pyIter _) _ _ _))
local macro_rules | `(tactic| walk_at "S") => `(tactic| repeat' (first
  | (k_unfold; (try dsimp only))
  | ((with_reducible show Frag.In _ _ ∧ _); walk1)
  | (fail_if_success (k_end; skip)); (fail_if_success walk_at "stop"); first | walk1 | (dsimp only; walk1)))
local macro_rules | `(tactic| walk_at "S2") => `(tactic| repeat' (first
  | (k_unfold; (try dsimp only))
  | ((with_reducible show Frag.In _ _ ∧ _); walk1)
  | (fail_if_success (k_end; skip)); (fail_if_success walk_at "stop"); (fail_if_success (with_reducible show wpAny _ _ (compareOp _ (Value.ref _) (Value.ref _)) _ _ _)); first | walk1 | (dsimp only; walk1)))
local macro_rules | `(tactic| walk_at "S4") => `(tactic| repeat' (first
  | (k_unfold; (try dsimp only))
  | ((with_reducible show Frag.In _ _ ∧ _); walk1)
  | (fail_if_success (k_end; skip)); (fail_if_success walk_at "stop"); (fail_if_success (with_reducible show wpAny _ _ (execs (Stmt.For _ _ _ _ _ :: _) _) _ _ _)); first | walk1 | (dsimp only; walk1)))
local macro_rules | `(tactic| walk_at "S6") => `(tactic| repeat' (first
  | (k_unfold; (try dsimp only))
  | ((with_reducible show Frag.In _ _ ∧ _); walk1)
  | (fail_if_success (k_end; skip)); (fail_if_success walk_at "stop"); (fail_if_success (with_reducible show wpAny _ _ (execs (Stmt.Assign [Expr.Tuple _ _ _] (Expr.ListComp _ _ _ _) _ :: _) _) _ _ _)); first | walk1 | (dsimp only; walk1)))
local macro_rules | `(tactic| walk_at "one") => `(tactic| exact List.forall_mem_cons.mpr ⟨rfl, List.forall_mem_nil _⟩)
local macro_rules | `(tactic| walk_at "others") => `(tactic| (intro z h1 h2 h3; have h4 := h2 _ (.head _); simp only [kstB, if_neg h1, if_neg h4, h3, Bool.false_eq_true, if_false]))
local macro_rules | `(tactic| walk_at "len") => `(tactic| ((try simp only [List.length_append, List.length_cons, List.length_nil, List.length_map, expandZ_len, checkZ_len, rangeKs_length] at *); omega))
local macro_rules | `(tactic| walk_at "binaryOp Add ref ref") => `(tactic| (k_here; k_dflt (refine' addInts ?F ?N ?l ?b ?i ?j ?z ?_; (case F => k_asm); (case N => k_asm); (case l => walk_at "alist"); (case b => walk_at "alist"); (case i => first | assumption | l_ints); (case j => first | assumption | l_ints); (case z => walk_at "len"); intro D' arr' k' h' F' N' hI' o1'; (try simp only [LCg.Off1, and_true] at o1'))))
local macro_rules | `(tactic| walk_at "room") => `(tactic| (dsimp only [AA]; omega))
local macro_rules | `(tactic| walk_at "top") => `(tactic| exact Top.keeps (by assumption) (Fr.keep (by k_asm)))
local macro_rules | `(tactic| walk_at "alist") => `(tactic| first | (with_reducible assumption) | exact isList_in (by k_asm) (by k_mem) | (refine Heap.IsList.at (h := _) (by assumption) (fun o e => Fr.keep (by k_asm) _ o e)))
local macro_rules | `(tactic| walk_at "call ref") => `(tactic| (k_here; k_dflt (refine' expand_spec ?X ?T ?d ?x ?_; (case X => k_in); (case T => walk_at "top"); (case d => walk_at "room"); (case x => first | assumption | omega); intro l' arr' k' h' tk' hg' hn' ho' hI'; have hb' := backL (by k_asm) (by k_asm) hg' hn' ho'; obtain ⟨F', N', o1'⟩ := hb'; (try simp only [LCg.Off1, and_true] at o1'))))
local macro_rules | `(tactic| walk_at "call ref") => `(tactic| (k_here; k_dflt (refine' poly_spec ?X ?T ?d ?l ?i ?_; (case X => k_in); (case T => walk_at "top"); (case d => walk_at "room"); (case l => walk_at "alist"); (case i => assumption); intro t' h' tk' hg'; have hb' := backI (by k_asm) (by k_asm) hg'; obtain ⟨F', N'⟩ := hb')))
local macro_rules | `(tactic| walk_at "call ref") => `(tactic| (k_here; k_dflt (refine' create_spec ?X ?T ?d ?x ?l ?i ?n ?_; (case X => k_in); (case T => walk_at "top"); (case d => walk_at "room"); (case x => first | assumption | omega); (case l => walk_at "alist"); (case i => assumption); (case n => walk_at "len"); intro l' arr' k' h' tk' hg' hn' ho' hI'; have hb' := backL (by k_asm) (by k_asm) hg' hn' ho'; obtain ⟨F', N', o1'⟩ := hb'; (try simp only [LCg.Off1, and_true] at o1'))))
local macro_rules | `(tactic| walk_at "call ref") => `(tactic| (k_here; k_dflt (refine' verify_spec ?X ?T ?d ?x ?l ?i ?n ?_; (case X => k_in); (case T => walk_at "top"); (case d => walk_at "room"); (case x => first | assumption | omega); (case l => walk_at "alist"); (case i => assumption); (case n => walk_at "len"); intro h' tk' hg'; have hb' := backI (by k_asm) (by k_asm) hg'; obtain ⟨F', N'⟩ := hb')))
local macro_rules | `(tactic| walk_at "slen") => `(tactic| ((try simp only [PySem.Str.length_append, Str.cps_append, len_one, len_one2, PySem.Str.length, Array.size_append, List.size_toArray, List.length_map, List.length_append, checkZ_len] at *); rw [sizeLine_eq]; omega))
local macro_rules | `(tactic| walk_at "binaryOp Add str str") => `(tactic| (k_dflt (refine' PyProof.Rows.add_str ?_ ?z; (case z => walk_at "slen"); intro t' tk')))
local macro_rules | `(tactic| walk_at "subscriptTail Name Name str int") => `(tactic| (k_dflt (refine item_str (x := CH) (fitsSsize_of (N := 9223372036854775808) (by omega) (by omega) (Int.le_refl _)) (by rw [ch_len]; omega) (by rw [ch_len]; omega) ?_; intro _)))
local macro_rules | `(tactic| walk_at "eval Name") => `(tactic| (k_here; (with_reducible show wpAny _ _ (eval (Expr.Name _ _) (genEnv _ _ _ _ _ _)) _ _ _); k_dflt (first
  | (refine nameG_L (by k_asm) (by assumption) ?_)
  | (refine nameG_K (by k_asm) (by k_asm) (by k_asm) (by rfl) (by k_is) ?_)
  | (refine nameG_B (by k_asm) (by k_asm) (by k_asm) (by rfl) (by k_is) (by boot_by_name) (by decide) ?_))))
local macro_rules | `(tactic| walk_at "call builtin:len") => `(tactic| (k_here; (with_reducible show wpAny _ _ (call (Value.builtin "len") [Value.ref _]) _ _ _); k_dflt (refine' PyProof.Rows.len_list ?l ?z ?_; (case l => walk_at "alist"); (case z => walk_at "len"))))

local macro_rules | `(tactic| walk_at "call ref") => `(tactic| (k_here; k_dflt (refine' digits_spec ?X ?T ?d ?b0 ?b1 ?m ?_; (case X => k_in); (case T => walk_at "top"); (case d => walk_at "room"); (case b0 => omega); (case b1 => omega); (case m => omega); intro l' arr' k' h' tk' ds' hg' hn' ho' hI' hd1' hd2' hd3'; have hb' := backL (by k_asm) (by k_asm) hg' hn' ho'; obtain ⟨F', N', o1'⟩ := hb'; (try simp only [LCg.Off1, and_true] at o1'))))

local macro_rules | `(tactic| walk_at "mems") => `(tactic| first | exact List.forall_mem_nil _ | exact List.forall_mem_cons.mpr ⟨by k_mem, by walk_at "mems"⟩)
local macro_rules | `(tactic| walk_at "told") => `(tactic| first | exact List.forall_mem_nil _ | exact List.forall_mem_cons.mpr ⟨rfl, by walk_at "told"⟩)
local macro_rules | `(tactic| walk_at "S3") => `(tactic| repeat' (first
  | (k_unfold; (try dsimp only))
  | ((with_reducible show Frag.In _ _ ∧ _); walk1)
  | (fail_if_success (k_end; skip)); (fail_if_success walk_at "stop"); (fail_if_success (with_reducible show wpAny _ _ (execs (Stmt.If _ _ _ _ :: _) _) _ _ _)); first | walk1 | (dsimp only; walk1)))
local macro_rules | `(tactic| walk_at "clss") => `(tactic| (repeat' (first | exact List.forall_mem_nil _ | refine List.forall_mem_cons.mpr ⟨by rintro ⟨⟩, ?_⟩)))
local macro_rules | `(tactic| walk_at "rds") => `(tactic| first | exact ReadsAll.nil | exact ReadsAll.cons (by walk_at "rd") (by walk_at "rds"))
local macro_rules | `(tactic| walk_at "rd") => `(tactic| first
  | exact Reads.none
  | exact Reads.str _ _
  | exact reads_list_at (News.get (by k_asm) (by k_mem)) rfl rfl (readsInts (by assumption))
  | exact reads_list_at (News.get (by k_asm) (by k_mem)) rfl rfl (by walk_at "rds")
  | exact reads_tuple_at (News.get (by k_asm) (by k_mem)) rfl rfl (by walk_at "rds"))
local macro_rules | `(tactic| walk_at "call ref") => `(tactic| (k_here; k_dflt (refine' at_spec ?X ?T ?d ?l ?i ?n ?k ?_; (case X => k_in); (case T => walk_at "top"); (case d => walk_at "room"); (case l => walk_at "alist"); (case i => assumption); (case n => omega); (case k => omega); intro t' h' tk' hg'; have hb' := backI (by k_asm) (by k_asm) hg'; obtain ⟨F', N'⟩ := hb')))
local macro_rules | `(tactic| walk_at "call ref") => `(tactic| (k_here; k_dflt (refine' encode_spec ?X ?T ?d ?x ?l ?i ?n ?b ?_; (case X => k_in); (case T => walk_at "top"); (case d => walk_at "room"); (case x => first | assumption | omega); (case l => walk_at "alist"); (case i => assumption); (case n => omega); (case b => assumption); intro t' h' tk' hg'; have hb' := backI (by k_asm) (by k_asm) hg'; obtain ⟨F', N'⟩ := hb')))
local macro_rules | `(tactic| walk_at "call builtin:len") => `(tactic| (k_here; (with_reducible show wpAny _ _ (call (Value.builtin "len") [Value.str _ _]) _ _ _); k_dflt (refine PySem.P.len_str (by ((try simp only [PySem.Str.length] at *); omega)) ?_)))
local macro_rules | `(tactic| walk_at "S7") => `(tactic| repeat' (first
  | (k_unfold; (try dsimp only))
  | ((with_reducible show Frag.In _ _ ∧ _); walk1)
  | (fail_if_success (k_end; skip)); (fail_if_success walk_at "stop"); (fail_if_success (with_reducible show wpAny _ _ (execs (Stmt.Assign _ (Expr.BinOp _ _ _ _) _ :: _) _) _ _ _)); first | walk1 | (dsimp only; walk1)))
local macro_rules | `(tactic| walk_at "S8") => `(tactic| repeat' (first
  | (k_unfold; (try dsimp only))
  | ((with_reducible show Frag.In _ _ ∧ _); walk1)
  | (fail_if_success (k_end; skip)); (fail_if_success walk_at "stop"); (fail_if_success (with_reducible show wpAny _ _ (execs (Stmt.Assign [Expr.Name "made" _] (Expr.BinOp _ _ _ _) _ :: _) _) _ _ _)); first | walk1 | (dsimp only; walk1)))
local macro_rules | `(tactic| walk_at "subscriptTail Name Name str int") => `(tactic| (k_dflt (refine item_str (x := signsT _) (fitsSsize_of (N := 9223372036854775808) (by omega) (by omega) (Int.le_refl _)) (by rw [signsT_len]; omega) (by rw [signsT_len]; omega) ?_; intro _)))
local macro_rules | `(tactic| walk_at "subscriptTail Name BinOp str int") => `(tactic| (k_dflt (refine item_str (x := signsT _) (fitsSsize_of (N := 9223372036854775808) (by omega) (by omega) (Int.le_refl _)) (by rw [signsT_len]; omega) (by rw [signsT_len]; omega) ?_; intro _)))
local macro_rules | `(tactic| walk_at "tabs") => `(tactic| (repeat' (first | exact List.forall_mem_nil _ | refine List.forall_mem_cons.mpr ⟨by first | exact listTab | exact notTab (by assumption) | exact (fun _ e => by cases e), ?_⟩)))
local macro_rules | `(tactic| walk_at "S9") => `(tactic| repeat' (first
  | (k_unfold; (try dsimp only))
  | ((with_reducible show Frag.In _ _ ∧ _); walk1)
  | (fail_if_success (k_end; skip)); (fail_if_success walk_at "stop"); (fail_if_success (with_reducible show wpAny _ _ (execs (Stmt.Assign [Expr.Name "told" _] (Expr.BinOp _ _ _ _) _ :: _) _) _ _ _)); first | walk1 | (dsimp only; walk1)))
local macro_rules | `(tactic| walk_at "subscriptTail Name Name ref int") => `(tactic| (k_dflt (refine' int_item ?l ?i ?z ?a ?b ?_; (case l => walk_at "alist"); (case i => with_reducible assumption); (case z => omega); (case a => omega); (case b => omega); intro _)))
local macro_rules | `(tactic| walk_at "subscriptTail Name BinOp ref int") => `(tactic| (k_dflt (refine' int_item ?l ?i ?z ?a ?b ?_; (case l => walk_at "alist"); (case i => with_reducible assumption); (case z => omega); (case a => omega); (case b => omega); intro _)))
local macro_rules | `(tactic| walk_at "subscriptTail Name Slice ref ref") => `(tactic| (k_here; k_dflt (refine' sliceFrom ?F ?N ?l ?i ?z ?a ?_; (case F => k_asm); (case N => k_asm); (case l => walk_at "alist"); (case i => with_reducible assumption); (case z => omega); (case a => omega)); intro D' arr2' h' F' N' l1 hI'))
local macro_rules | `(tactic| walk_at "subscriptTail Name Slice ref ref") => `(tactic| (k_here; k_dflt (refine' sliceTo ?F ?N ?l ?i ?z ?a ?_; (case F => k_asm); (case N => k_asm); (case l => walk_at "alist"); (case i => with_reducible assumption); (case z => omega); (case a => omega)); intro D' arr2' h' F' N' l1 hI'))
local macro_rules | `(tactic| walk_at "S10") => `(tactic| repeat' (first
  | (k_unfold; (try dsimp only))
  | ((with_reducible show Frag.In _ _ ∧ _); walk1)
  | (fail_if_success (k_end; skip)); (fail_if_success walk_at "stop"); (fail_if_success (with_reducible show wpAny _ _ (execs (Stmt.If _ _ _ _ :: _) _) _ _ _)); (fail_if_success (with_reducible show wpAny _ _ (call _ [Value.ref _]) _ _ _)); first | walk1 | (dsimp only; walk1)))
local macro_rules | `(tactic| k_ne) => `(tactic| exact newsNe (by k_asm) (by k_mem) (by k_mem) (by k_asm) (fun _ e => by cases e))
local macro_rules | `(tactic| walk_at "lits") => `(tactic| first | exact IntsAre.nil | (refine IntsAre.cons _ _ ?_; walk_at "lits"))
local macro_rules | `(tactic| k_ne) => `(tactic| (refine neN ?_; (try dsimp only); first | (with_reducible assumption) | exact off1_mem (by k_asm) (_, _) (by k_mem) | exact Ne.symm (off1_mem (by k_asm) (_, _) (by k_mem))))
local macro_rules | `(tactic| walk_at "storeName") => `(tactic| (k_here; (first | (with_reducible show wpAny _ _ (storeName _ (PySem.Str.ofString "upper") _) _ _ _) | (with_reducible show wpAny _ _ (storeName _ (PySem.Str.ofString "lower") _) _ _ _) | (with_reducible show wpAny _ _ (storeName _ (PySem.Str.ofString "turn") _) _ _ _) | (with_reducible show wpAny _ _ (storeName _ (PySem.Str.ofString "told") _) _ _ _)); k_dflt (refine' storeX_C ?F ?N ?c ?U ?d ?_ ?a ?b; (case a => rfl); (case b => rfl); (case F => k_asm); (case N => k_asm); (case c => rfl); (case U => k_updF); (case d => k_asm); k_whole; intro h' o' F' N' d'; (try dsimp only at N'); (try k_sweep))))
local macro_rules | `(tactic| walk_at "S5") => `(tactic| repeat' (first
  | (k_unfold; (try dsimp only))
  | ((with_reducible show Frag.In _ _ ∧ _); walk1)
  | (fail_if_success (k_end; skip)); (fail_if_success walk_at "stop"); (fail_if_success (with_reducible show wpAny _ _ (execs (Stmt.Assign _ (Expr.ListComp _ _ _ _) _ :: _) _) _ _ _)); first | walk1 | (dsimp only; walk1)))
local macro_rules | `(tactic| walk_at "call type:range") => `(tactic| (dsimp only; walk_at "call type:range"))
set_option maxHeartbeats 40000000 in
theorem partD {w : World} {dp un : Nat} {fr : Option (List Env)} {gd : Option (List Code)} {s : Shared} {p : Program} {loose : List Str} {mean : ExcName → Option Value} {mg mb : Str → Option Value} {Q : Value → Shared → Prop}
    {h₀ h : Heap} {L tk : Nat} {u : Str → Option Value} {name : Str} {body : List Stmt} {scope : Scope} {cdv : Value}
    (ho : FnAt (Mine.hd.heap_39 w.params) 100 name body scope cdv)
    (X : (Mine.hd.heap_39 w.params).In h₀) (T : Top p loose mean mg mb h₀) (C : CodeHd h₀ 47 45) (hG : AllBare s.gens) (hd : dp + 40 < recursionLimit) (hu : un + 1000 < cLine)
    {D NL : Addr} {arr la : Array Value} {k lk pl : Nat} {x : Str} {tx tt tp tm : Tok} {cs rs : List Int} {o1 o2 o3 o4 : Obj}
    (hx : NameIs x x.length) (hx0 : 1 ≤ x.length) (hx2 : x.length ≤ 2) (hR : RowIs arr rs) (hR8 : rs.length ≤ 8) (hI2 : IntsAre la.toList cs) (hp : pl + 2 ≤ cs.length)
    (hcb : ∀ n ∈ cs, 0 ≤ n ∧ n < 32) (hcl : cs.length = rs.length + 6) (hcr : cs.take (cs.length - 6) = rs) (hpx : polyZ (expandZ x ++ cs) = 1)
    (d1 : o1.data = .cell none) (d2 : o2.data = .cell none) (d3 : o3.data = .cell none) (d4 : o4.data = .cell none)
    (F : Fr h₀ L h (kstB u [("readable", .str x tx), ("row", .ref D), ("tail", .str (signsT cs) tt), ("numbers", .ref NL), ("place", .int (pl : Int) tp), ("made", .str (signsT (swapZ cs pl)) tm)]))
    (N : News h₀ L h [(NL, W.listOf la lk), (D, W.listOf arr k), (L + 1 + 1 + 1 + 1, o1), (L + 1 + 1 + 1, o2), (L + 1 + 1, o3), (L + 1, o4), (45, tabObj #[])])
    (ret : ∀ s' ps, s'.os = s.os → AllBare s'.gens → (∀ b o, h₀.get? b = some o → s'.heap.get? b = some o) → s'.heap.get? 45 = some (tabObj ps) → Q (.bool true) s') :
    wpAny (model PySem.Challenge.rw_oo0007_02.row.prog w) ((AA dp un fr gd).deeper (envOfC name scope L 100 cdv)) (execs (body.drop 11) (envOfC name scope L 100 cdv))
        (fun fl s' => Q (match fl with | .ret v => v | _ => .none) s') (fun _ _ => False) { s with heap := h, toks := tk } := by
  revert ho X; k_fill; intro ho X
  obtain ⟨rfl, rfl, rfl, rfl⟩ := ho.inj (.mk (by k_is))
  clear ho
  simp only [List.drop]
  have hrf := hR.few
  have hRv := hR.vals
  have hxl : x.length = x.cps.size := rfl
  have k2 : IntsAre la.toList cs ∧ True := ⟨hI2, trivial⟩
  have hst := signsT_len cs
  have hst2 := signsT_len (swapZ cs pl)
  rw [swap_len hp] at hst2
  have hxb : ∀ c ∈ x.cps.toList, c ≤ 126 := fun c hc => (hx.signs c (by simpa using hc)).2.1
  have layX := okD_lay (rs := rs) (fun c hc => (hx.signs c hc).2.1)
  have hsw := swap_one hxb hcb hp (by omega) hpx
  have hsb := swap_mem hp hcb
  have hse := signsT_eq hsb hcb
  have hsl := swap_len hp
  walk_at "S"
  rw [show x ++ PySem.Str.ofString "1" ++ signsT (swapZ cs pl) = textOf x (swapZ cs pl) from text_tl x _]
  refine decode_spec (ps := #[]) (by k_in) (by walk_at "top") (CodeHd.keeps C (Fr.keep F)) (News.get N (by k_mem)) (by trivial) hG (by walk_at "room") (by omega) (by omega) (fun c hc => hx.signs c (by simpa using hc)) (by omega) (by omega) hsb ?_ ?_
  · intro hpy l dl t2 arr2 k3 k4 s2 ps2 hos2 hG2 hk2 h462 ht2 hl2 hdl2 hne2 ho2 hdo2 hI2'
    obtain ⟨F2, N2, B2⟩ := backD2 (pre := [(NL, W.listOf la lk), (D, W.listOf arr k), (L + 1 + 1 + 1 + 1, o1), (L + 1 + 1 + 1, o2), (L + 1 + 1, o3), (L + 1, o4)]) F N (by walk_at "tabs") hk2 h462
    have N2 := news_two (B2 l _ hl2 ho2 (fun _ e => by cases e)).1 (B2 dl _ hdl2 hdo2 (fun _ e => by cases e)).1
    rw [hsw.mp hpy, hcr] at hI2'
    clear N B2 hk2 h462
    replace N2 : News h₀ L s2.heap [(l, _), (dl, _), (NL, W.listOf la lk), (D, W.listOf arr k), (L + 1 + 1 + 1 + 1, o1), (L + 1 + 1 + 1, o2), (L + 1 + 1, o3), (L + 1, o4), (45, tabObj ps2)] := N2
    walk_at "S2"
    · refine ne_dataH (da := okD x rs) (db := okD x rs) (by walk_at "rd") (by walk_at "rd") (shaped_one ⟨layX.1, by omega⟩) (shaped_one ⟨layX.1, by omega⟩) (by first | ke_room | (show un + _ < _; omega)) ?_
      rw [eqv_ok]
      walk_at "S7"
      have hoE : FnAt (Mine.hd.heap_39 w.params) 100 _ _ _ _ := .mk (by k_is)
      rename News _ _ _ _ => N7
      rename Fr _ _ _ _ => F7
      exact partR (s := s2) hoE X T C hG2 hd hu hx hx0 hx2 k2.1 hp hcb (by omega) (by omega) hpx d1 d2 d3 d4 (frTold _ F7 (by walk_at "told")) (news_sub N7 (by walk_at "mems")) (fun s' ps h1 h2 h3 h4 => ret s' ps (h1.trans hos2) h2 h3 h4)
    · exfalso
      rename (signsT _ == signsT _) = false => hf
      rw [hse.mpr (hsw.mp hpy)] at hf
      simp at hf
  · intro hpy m k5 s5 ps5 hos5 hG5 hk5 h465 ht5 hl5 ho5
    obtain ⟨F5, N5, B5⟩ := backD2 (pre := [(NL, W.listOf la lk), (D, W.listOf arr k), (L + 1 + 1 + 1 + 1, o1), (L + 1 + 1 + 1, o2), (L + 1 + 1, o3), (L + 1, o4)]) F N (by walk_at "tabs") hk5 h465
    have N5 := (B5 m _ hl5 ho5 (fun _ e => by cases e)).1
    clear N B5 hk5 h465
    replace N5 : News h₀ L s5.heap [(m, _), (NL, W.listOf la lk), (D, W.listOf arr k), (L + 1 + 1 + 1 + 1, o1), (L + 1 + 1 + 1, o2), (L + 1 + 1, o3), (L + 1, o4), (45, tabObj ps5)] := N5
    walk_at "S2"
    · exfalso
      rename (signsT _ == signsT _) = true => hf
      exact hpy (hsw.mpr (hse.mp (by simpa using hf)))
    · refine ne_dataH (da := noD) (db := noD) (by walk_at "rd") (by walk_at "rd") (shaped_one ⟨noD_lay.1, by decide⟩) (shaped_one ⟨noD_lay.1, by decide⟩) (by first | ke_room | (show un + _ < _; omega)) ?_
      rw [eqv_no]
      walk_at "S7"
      have hoE : FnAt (Mine.hd.heap_39 w.params) 100 _ _ _ _ := .mk (by k_is)
      rename News _ _ _ _ => N7
      rename Fr _ _ _ _ => F7
      exact partR (s := s5) hoE X T C hG5 hd hu hx hx0 hx2 k2.1 hp hcb (by omega) (by omega) hpx d1 d2 d3 d4 (frTold _ F7 (by walk_at "told")) (news_sub N7 (by walk_at "mems")) (fun s' ps h1 h2 h3 h4 => ret s' ps (h1.trans hos5) h2 h3 h4)
end Mine
end
section
open PySem PySem.W PySem.Calls PyProof.Rows
set_option maxRecDepth 100000
set_option linter.unusedVariables false
namespace Mine
open LCg
local macro_rules | `(tactic| walk_at "binaryOp LShift int int") => `(tactic| (refine lshift_int_small (by decide) (by decide) (bits_and25 _) ?_))
local macro_rules | `(tactic| walk_at "stop") => `(tactic| first
  | (with_reducible show wpAny _ _ (exec (Stmt.For _ _ _ _ _) _) _ _ _)
  | (with_reducible show wpAny _ _ (exec (Stmt.Assign _ (Expr.ListComp _ _ _ _) _) _) _ _ _)
  | (with_reducible show wpAny _ _ (exec (Stmt.While _ _ _ _) _) _ _ _)
  | (with_reducible show wpAny _ _ (eval (Expr.ListComp _ _ _ _) _) _ _ _)
  | (with_reducible show wpAny _ _ (eval (Expr.GeneratorExp _ _ _ _) _) _ _ _)
  | (with_reducible show wpAny _ _ (call (Value.builtin "any") _) _ _ _)
  | (with_reducible show wpAny _ _ (call (Value.builtin "all") _) _ _ _)
  | (with_reducible show wpAny _ _ (pyIter _) _ _ _))
local macro_rules | `(tactic| walk_at "S") => `(tactic| repeat' (first
  | (k_unfold; (try dsimp only))
  | ((with_reducible show Frag.In _ _ ∧ _); walk1)
  | (fail_if_success (k_end; skip)); (fail_if_success walk_at "stop"); first | walk1 | (dsimp only; walk1)))
local macro_rules | `(tactic| walk_at "S2") => `(tactic| repeat' (first
  | (k_unfold; (try dsimp only))
  | ((with_reducible show Frag.In _ _ ∧ _); walk1)
  | (fail_if_success (k_end; skip)); (fail_if_success walk_at "stop"); (fail_if_success (with_reducible show wpAny _ _ (compareOp _ (Value.ref _) (Value.ref _)) _ _ _)); first | walk1 | (dsimp only; walk1)))
local macro_rules | `(tactic| walk_at "S4") => `(tactic| repeat' (first
  | (k_unfold; (try dsimp only))
  | ((with_reducible show Frag.In _ _ ∧ _); walk1)
  | (fail_if_success (k_end; skip)); (fail_if_success walk_at "stop"); (fail_if_success (with_reducible show wpAny _ _ (execs (Stmt.For _ _ _ _ _ :: _) _) _ _ _)); first | walk1 | (dsimp only; walk1)))
local macro_rules | `(tactic| walk_at "S6") => `(tactic| repeat' (first
  | (k_unfold; (try dsimp only))
  | ((with_reducible show Frag.In _ _ ∧ _); walk1)
  | (fail_if_success (k_end; skip)); (fail_if_success walk_at "stop"); (fail_if_success (with_reducible show wpAny _ _ (execs (Stmt.Assign [Expr.Tuple _ _ _] (Expr.ListComp _ _ _ _) _ :: _) _) _ _ _)); first | walk1 | (dsimp only; walk1)))
local macro_rules | `(tactic| walk_at "one") => `(tactic| exact List.forall_mem_cons.mpr ⟨rfl, List.forall_mem_nil _⟩)
local macro_rules | `(tactic| walk_at "others") => `(tactic| (intro z h1 h2 h3; have h4 := h2 _ (.head _); simp only [kstB, if_neg h1, if_neg h4, h3, Bool.false_eq_true, if_false]))
local macro_rules | `(tactic| walk_at "len") => `(tactic| ((try simp only [List.length_append, List.length_cons, List.length_nil, List.length_map, expandZ_len, checkZ_len, rangeKs_length] at *); omega))
local macro_rules | `(tactic| walk_at "binaryOp Add ref ref") => `(tactic| (k_here; k_dflt (refine' addInts ?F ?N ?l ?b ?i ?j ?z ?_; (case F => k_asm); (case N => k_asm); (case l => walk_at "alist"); (case b => walk_at "alist"); (case i => first | assumption | l_ints); (case j => first | assumption | l_ints); (case z => walk_at "len"); intro D' arr' k' h' F' N' hI' o1'; (try simp only [LCg.Off1, and_true] at o1'))))
local macro_rules | `(tactic| walk_at "room") => `(tactic| (dsimp only [AA]; omega))
local macro_rules | `(tactic| walk_at "top") => `(tactic| exact Top.keeps (by assumption) (Fr.keep (by k_asm)))
local macro_rules | `(tactic| walk_at "alist") => `(tactic| first | (with_reducible assumption) | exact isList_in (by k_asm) (by k_mem) | (refine Heap.IsList.at (h := _) (by assumption) (fun o e => Fr.keep (by k_asm) _ o e)))
local macro_rules | `(tactic| walk_at "call ref") => `(tactic| (k_here; k_dflt (refine' expand_spec ?X ?T ?d ?x ?_; (case X => k_in); (case T => walk_at "top"); (case d => walk_at "room"); (case x => first | assumption | omega); intro l' arr' k' h' tk' hg' hn' ho' hI'; have hb' := backL (by k_asm) (by k_asm) hg' hn' ho'; obtain ⟨F', N', o1'⟩ := hb'; (try simp only [LCg.Off1, and_true] at o1'))))
local macro_rules | `(tactic| walk_at "call ref") => `(tactic| (k_here; k_dflt (refine' poly_spec ?X ?T ?d ?l ?i ?_; (case X => k_in); (case T => walk_at "top"); (case d => walk_at "room"); (case l => walk_at "alist"); (case i => assumption); intro t' h' tk' hg'; have hb' := backI (by k_asm) (by k_asm) hg'; obtain ⟨F', N'⟩ := hb')))
local macro_rules | `(tactic| walk_at "call ref") => `(tactic| (k_here; k_dflt (refine' create_spec ?X ?T ?d ?x ?l ?i ?n ?_; (case X => k_in); (case T => walk_at "top"); (case d => walk_at "room"); (case x => first | assumption | omega); (case l => walk_at "alist"); (case i => assumption); (case n => walk_at "len"); intro l' arr' k' h' tk' hg' hn' ho' hI'; have hb' := backL (by k_asm) (by k_asm) hg' hn' ho'; obtain ⟨F', N', o1'⟩ := hb'; (try simp only [LCg.Off1, and_true] at o1'))))
local macro_rules | `(tactic| walk_at "call ref") => `(tactic| (k_here; k_dflt (refine' verify_spec ?X ?T ?d ?x ?l ?i ?n ?_; (case X => k_in); (case T => walk_at "top"); (case d => walk_at "room"); (case x => first | assumption | omega); (case l => walk_at "alist"); (case i => assumption); (case n => walk_at "len"); intro h' tk' hg'; have hb' := backI (by k_asm) (by k_asm) hg'; obtain ⟨F', N'⟩ := hb')))
local macro_rules | `(tactic| walk_at "slen") => `(tactic| ((try simp only [PySem.Str.length_append, Str.cps_append, len_one, len_one2, PySem.Str.length, Array.size_append, List.size_toArray, List.length_map, List.length_append, checkZ_len] at *); rw [sizeLine_eq]; omega))
local macro_rules | `(tactic| walk_at "binaryOp Add str str") => `(tactic| (k_dflt (refine' PyProof.Rows.add_str ?_ ?z; (case z => walk_at "slen"); intro t' tk')))
local macro_rules | `(tactic| walk_at "subscriptTail Name Name str int") => `(tactic| (k_dflt (refine item_str (x := CH) (fitsSsize_of (N := 9223372036854775808) (by omega) (by omega) (Int.le_refl _)) (by rw [ch_len]; omega) (by rw [ch_len]; omega) ?_; intro _)))
local macro_rules | `(tactic| walk_at "eval Name") => `(tactic| (k_here; (with_reducible show wpAny _ _ (eval (Expr.Name _ _) (genEnv _ _ _ _ _ _)) _ _ _); k_dflt (first
  | (refine nameG_L (by k_asm) (by assumption) ?_)
  | (refine nameG_K (by k_asm) (by k_asm) (by k_asm) (by rfl) (by k_is) ?_)
  | (refine nameG_B (by k_asm) (by k_asm) (by k_asm) (by rfl) (by k_is) (by boot_by_name) (by decide) ?_))))
local macro_rules | `(tactic| walk_at "call builtin:len") => `(tactic| (k_here; (with_reducible show wpAny _ _ (call (Value.builtin "len") [Value.ref _]) _ _ _); k_dflt (refine' PyProof.Rows.len_list ?l ?z ?_; (case l => walk_at "alist"); (case z => walk_at "len"))))

local macro_rules | `(tactic| walk_at "call ref") => `(tactic| (k_here; k_dflt (refine' digits_spec ?X ?T ?d ?b0 ?b1 ?m ?_; (case X => k_in); (case T => walk_at "top"); (case d => walk_at "room"); (case b0 => omega); (case b1 => omega); (case m => omega); intro l' arr' k' h' tk' ds' hg' hn' ho' hI' hd1' hd2' hd3'; have hb' := backL (by k_asm) (by k_asm) hg' hn' ho'; obtain ⟨F', N', o1'⟩ := hb'; (try simp only [LCg.Off1, and_true] at o1'))))

local macro_rules | `(tactic| walk_at "mems") => `(tactic| first | exact List.forall_mem_nil _ | exact List.forall_mem_cons.mpr ⟨by k_mem, by walk_at "mems"⟩)
local macro_rules | `(tactic| walk_at "told") => `(tactic| first | exact List.forall_mem_nil _ | exact List.forall_mem_cons.mpr ⟨rfl, by walk_at "told"⟩)
local macro_rules | `(tactic| walk_at "S3") => `(tactic| repeat' (first
  | (k_unfold; (try dsimp only))
  | ((with_reducible show Frag.In _ _ ∧ _); walk1)
  | (fail_if_success (k_end; skip)); (fail_if_success walk_at "stop"); (fail_if_success (with_reducible show wpAny _ _ (execs (Stmt.If _ _ _ _ :: _) _) _ _ _)); first | walk1 | (dsimp only; walk1)))
local macro_rules | `(tactic| walk_at "clss") => `(tactic| (repeat' (first | exact List.forall_mem_nil _ | refine List.forall_mem_cons.mpr ⟨by rintro ⟨⟩, ?_⟩)))
local macro_rules | `(tactic| walk_at "rds") => `(tactic| first | exact ReadsAll.nil | exact ReadsAll.cons (by walk_at "rd") (by walk_at "rds"))
local macro_rules | `(tactic| walk_at "rd") => `(tactic| first
  | exact Reads.none
  | exact Reads.str _ _
  | exact reads_list_at (News.get (by k_asm) (by k_mem)) rfl rfl (readsInts (by assumption))
  | exact reads_list_at (News.get (by k_asm) (by k_mem)) rfl rfl (by walk_at "rds")
  | exact reads_tuple_at (News.get (by k_asm) (by k_mem)) rfl rfl (by walk_at "rds"))
local macro_rules | `(tactic| walk_at "call ref") => `(tactic| (k_here; k_dflt (refine' at_spec ?X ?T ?d ?l ?i ?n ?k ?_; (case X => k_in); (case T => walk_at "top"); (case d => walk_at "room"); (case l => walk_at "alist"); (case i => assumption); (case n => omega); (case k => omega); intro t' h' tk' hg'; have hb' := backI (by k_asm) (by k_asm) hg'; obtain ⟨F', N'⟩ := hb')))
local macro_rules | `(tactic| walk_at "call ref") => `(tactic| (k_here; k_dflt (refine' encode_spec ?X ?T ?d ?x ?l ?i ?n ?b ?_; (case X => k_in); (case T => walk_at "top"); (case d => walk_at "room"); (case x => first | assumption | omega); (case l => walk_at "alist"); (case i => assumption); (case n => omega); (case b => assumption); intro t' h' tk' hg'; have hb' := backI (by k_asm) (by k_asm) hg'; obtain ⟨F', N'⟩ := hb')))
local macro_rules | `(tactic| walk_at "call builtin:len") => `(tactic| (k_here; (with_reducible show wpAny _ _ (call (Value.builtin "len") [Value.str _ _]) _ _ _); k_dflt (refine PySem.P.len_str (by ((try simp only [PySem.Str.length] at *); omega)) ?_)))
local macro_rules | `(tactic| walk_at "S7") => `(tactic| repeat' (first
  | (k_unfold; (try dsimp only))
  | ((with_reducible show Frag.In _ _ ∧ _); walk1)
  | (fail_if_success (k_end; skip)); (fail_if_success walk_at "stop"); (fail_if_success (with_reducible show wpAny _ _ (execs (Stmt.Assign _ (Expr.BinOp _ _ _ _) _ :: _) _) _ _ _)); first | walk1 | (dsimp only; walk1)))
local macro_rules | `(tactic| walk_at "S8") => `(tactic| repeat' (first
  | (k_unfold; (try dsimp only))
  | ((with_reducible show Frag.In _ _ ∧ _); walk1)
  | (fail_if_success (k_end; skip)); (fail_if_success walk_at "stop"); (fail_if_success (with_reducible show wpAny _ _ (execs (Stmt.Assign [Expr.Name "made" _] (Expr.BinOp _ _ _ _) _ :: _) _) _ _ _)); first | walk1 | (dsimp only; walk1)))
local macro_rules | `(tactic| walk_at "subscriptTail Name Name str int") => `(tactic| (k_dflt (refine item_str (x := signsT _) (fitsSsize_of (N := 9223372036854775808) (by omega) (by omega) (Int.le_refl _)) (by rw [signsT_len]; omega) (by rw [signsT_len]; omega) ?_; intro _)))
local macro_rules | `(tactic| walk_at "subscriptTail Name BinOp str int") => `(tactic| (k_dflt (refine item_str (x := signsT _) (fitsSsize_of (N := 9223372036854775808) (by omega) (by omega) (Int.le_refl _)) (by rw [signsT_len]; omega) (by rw [signsT_len]; omega) ?_; intro _)))
local macro_rules | `(tactic| walk_at "tabs") => `(tactic| (repeat' (first | exact List.forall_mem_nil _ | refine List.forall_mem_cons.mpr ⟨by first | exact listTab | exact notTab (by assumption) | exact (fun _ e => by cases e), ?_⟩)))
local macro_rules | `(tactic| walk_at "S9") => `(tactic| repeat' (first
  | (k_unfold; (try dsimp only))
  | ((with_reducible show Frag.In _ _ ∧ _); walk1)
  | (fail_if_success (k_end; skip)); (fail_if_success walk_at "stop"); (fail_if_success (with_reducible show wpAny _ _ (execs (Stmt.Assign [Expr.Name "told" _] (Expr.BinOp _ _ _ _) _ :: _) _) _ _ _)); first | walk1 | (dsimp only; walk1)))
local macro_rules | `(tactic| walk_at "subscriptTail Name Name ref int") => `(tactic| (k_dflt (refine' int_item ?l ?i ?z ?a ?b ?_; (case l => walk_at "alist"); (case i => with_reducible assumption); (case z => omega); (case a => omega); (case b => omega); intro _)))
local macro_rules | `(tactic| walk_at "subscriptTail Name BinOp ref int") => `(tactic| (k_dflt (refine' int_item ?l ?i ?z ?a ?b ?_; (case l => walk_at "alist"); (case i => with_reducible assumption); (case z => omega); (case a => omega); (case b => omega); intro _)))
local macro_rules | `(tactic| walk_at "subscriptTail Name Slice ref ref") => `(tactic| (k_here; k_dflt (refine' sliceFrom ?F ?N ?l ?i ?z ?a ?_; (case F => k_asm); (case N => k_asm); (case l => walk_at "alist"); (case i => with_reducible assumption); (case z => omega); (case a => omega)); intro D' arr2' h' F' N' l1 hI'))
local macro_rules | `(tactic| walk_at "subscriptTail Name Slice ref ref") => `(tactic| (k_here; k_dflt (refine' sliceTo ?F ?N ?l ?i ?z ?a ?_; (case F => k_asm); (case N => k_asm); (case l => walk_at "alist"); (case i => with_reducible assumption); (case z => omega); (case a => omega)); intro D' arr2' h' F' N' l1 hI'))
local macro_rules | `(tactic| walk_at "S10") => `(tactic| repeat' (first
  | (k_unfold; (try dsimp only))
  | ((with_reducible show Frag.In _ _ ∧ _); walk1)
  | (fail_if_success (k_end; skip)); (fail_if_success walk_at "stop"); (fail_if_success (with_reducible show wpAny _ _ (execs (Stmt.If _ _ _ _ :: _) _) _ _ _)); (fail_if_success (with_reducible show wpAny _ _ (call _ [Value.ref _]) _ _ _)); first | walk1 | (dsimp only; walk1)))
local macro_rules | `(tactic| k_ne) => `(tactic| exact newsNe (by k_asm) (by k_mem) (by k_mem) (by k_asm) (fun _ e => by cases e))
local macro_rules | `(tactic| walk_at "lits") => `(tactic| first | exact IntsAre.nil | (refine IntsAre.cons _ _ ?_; walk_at "lits"))
local macro_rules | `(tactic| k_ne) => `(tactic| (refine neN ?_; (try dsimp only); first | (with_reducible assumption) | exact off1_mem (by k_asm) (_, _) (by k_mem) | exact Ne.symm (off1_mem (by k_asm) (_, _) (by k_mem))))
local macro_rules | `(tactic| walk_at "storeName") => `(tactic| (k_here; (first | (with_reducible show wpAny _ _ (storeName _ (PySem.Str.ofString "upper") _) _ _ _) | (with_reducible show wpAny _ _ (storeName _ (PySem.Str.ofString "lower") _) _ _ _) | (with_reducible show wpAny _ _ (storeName _ (PySem.Str.ofString "turn") _) _ _ _) | (with_reducible show wpAny _ _ (storeName _ (PySem.Str.ofString "told") _) _ _ _)); k_dflt (refine' storeX_C ?F ?N ?c ?U ?d ?_ ?a ?b; (case a => rfl); (case b => rfl); (case F => k_asm); (case N => k_asm); (case c => rfl); (case U => k_updF); (case d => k_asm); k_whole; intro h' o' F' N' d'; (try dsimp only at N'); (try k_sweep))))
local macro_rules | `(tactic| walk_at "S5") => `(tactic| repeat' (first
  | (k_unfold; (try dsimp only))
  | ((with_reducible show Frag.In _ _ ∧ _); walk1)
  | (fail_if_success (k_end; skip)); (fail_if_success walk_at "stop"); (fail_if_success (with_reducible show wpAny _ _ (execs (Stmt.Assign _ (Expr.ListComp _ _ _ _) _ :: _) _) _ _ _)); first | walk1 | (dsimp only; walk1)))
local macro_rules | `(tactic| walk_at "call type:range") => `(tactic| (dsimp only; walk_at "call type:range"))
set_option maxHeartbeats 40000000 in
theorem partB {w : World} {dp un : Nat} {fr : Option (List Env)} {gd : Option (List Code)} {s : Shared} {p : Program} {loose : List Str} {mean : ExcName → Option Value} {mg mb : Str → Option Value} {Q : Value → Shared → Prop}
    {h₀ h : Heap} {L tk : Nat} {u : Str → Option Value} {name : Str} {body : List Stmt} {scope : Scope} {cdv : Value}
    (ho : FnAt (Mine.hd.heap_39 w.params) 100 name body scope cdv)
    (X : (Mine.hd.heap_39 w.params).In h₀) (T : Top p loose mean mg mb h₀) (C : CodeHd h₀ 47 45) (hG : AllBare s.gens) (hd : dp + 40 < recursionLimit) (hu : un + 1000 < cLine)
    {l D NL : Addr} {sarr arr la : Array Value} {k lk : Nat} {x : Str} {tx tt : Tok} {ns cs rs : List Int} {o1 o2 o3 o4 : Obj}
    (hx : NameIs x x.length) (hx0 : 1 ≤ x.length) (hx2 : x.length ≤ 2) (hR : RowIs arr rs) (hR8 : rs.length ≤ 8) (hI2 : IntsAre la.toList cs) (hsl : h₀.IsList l sarr) (hi : IntsAre sarr.toList ns) (hn : ns.length ≤ 63)
    (hcb : ∀ n ∈ cs, 0 ≤ n ∧ n < 32) (hcl : cs.length = rs.length + 6) (hcr : cs.take (cs.length - 6) = rs) (hpx : polyZ (expandZ x ++ cs) = 1)
    (d1 : o1.data = .cell none) (d2 : o2.data = .cell none) (d3 : o3.data = .cell none) (d4 : o4.data = .cell none)
    (F : Fr h₀ L h (kstB u [("script", .ref l), ("readable", .str x tx), ("row", .ref D), ("tail", .str (signsT cs) tt), ("numbers", .ref NL)]))
    (N : News h₀ L h [(NL, W.listOf la lk), (D, W.listOf arr k), (L + 1 + 1 + 1 + 1, o1), (L + 1 + 1 + 1, o2), (L + 1 + 1, o3), (L + 1, o4), (45, tabObj #[])])
    (ret : ∀ s' ps, s'.os = s.os → AllBare s'.gens → (∀ b o, h₀.get? b = some o → s'.heap.get? b = some o) → s'.heap.get? 45 = some (tabObj ps) → Q (.bool true) s') :
    wpAny (model PySem.Challenge.rw_oo0007_02.row.prog w) ((AA dp un fr gd).deeper (envOfC name scope L 100 cdv)) (execs (body.drop 9) (envOfC name scope L 100 cdv))
        (fun fl s' => Q (match fl with | .ret v => v | _ => .none) s') (fun _ _ => False) { s with heap := h, toks := tk } := by
  revert ho X; k_fill; intro ho X
  obtain ⟨rfl, rfl, rfl, rfl⟩ := ho.inj (.mk (by k_is))
  clear ho
  simp only [List.drop]
  have hrf := hR.few
  have hRv := hR.vals
  have hcla := hI2.length
  rw [Array.length_toList] at hcla
  have hxl : x.length = x.cps.size := rfl
  have k2 : IntsAre la.toList cs ∧ True := ⟨hI2, trivial⟩
  have hq0 := Int.fmod_nonneg_of_pos (atZ ns 0 0) (show (0 : Int) < (cs.length : Int) - 1 by omega)
  have hq1 := Int.fmod_lt_of_pos (atZ ns 0 0) (show (0 : Int) < (cs.length : Int) - 1 by omega)
  have hst : (signsT cs).length = cs.length := by simp [signsT, PySem.Str.length]
  walk_at "S8"
  rename Fr _ _ _ _ => F1
  obtain ⟨pl, hpl⟩ := Int.eq_ofNat_of_zero_le hq0
  rw [← hcla] at hpl
  rw [hpl] at F1
  rw [← hcla, hpl] at hq1
  clear hpl hq0
  have hp : pl + 2 ≤ cs.length := by omega
  walk_at "S3"
  rename Fr _ _ _ _ => F
  rename News _ _ _ _ => N7
  rw [made_is hp] at F
  have hoE : FnAt (Mine.hd.heap_39 w.params) 100 _ _ _ _ := .mk (by k_is)
  exact partD (s := s) hoE X T C hG hd hu hx hx0 hx2 hR hR8 k2.1 hp hcb hcl hcr hpx d1 d2 d3 d4 (frTold _ F (by walk_at "told")) (news_sub N7 (by walk_at "mems")) ret
end Mine
end
section
open PySem PySem.W PySem.Calls PyProof.Rows
set_option maxRecDepth 100000
set_option linter.unusedVariables false
namespace Mine
open LCg
local macro_rules | `(tactic| walk_at "binaryOp LShift int int") => `(tactic| (refine lshift_int_small (by decide) (by decide) (bits_and25 _) ?_))
local macro_rules | `(tactic| walk_at "stop") => `(tactic| first
  | (with_reducible show wpAny _ _ (exec (Stmt.For _ _ _ _ _) _) _ _ _)
  | (with_reducible show wpAny _ _ (exec (Stmt.Assign _ (Expr.ListComp _ _ _ _) _) _) _ _ _)
  | (with_reducible show wpAny _ _ (exec (Stmt.While _ _ _ _) _) _ _ _)
  | (with_reducible show wpAny _ _ (eval (Expr.ListComp _ _ _ _) _) _ _ _)
  | (with_reducible show wpAny _ _ (eval (Expr.GeneratorExp _ _ _ _) _) _ _ _)
  | (with_reducible show wpAny _ _ (call (Value.builtin "any") _) _ _ _)
  | (with_reducible show wpAny _ _ (call (Value.builtin "all") _) _ _ _)
  | (with_reducible show wpAny _ _ (pyIter _) _ _ _))
local macro_rules | `(tactic| walk_at "S") => `(tactic| repeat' (first
  | (k_unfold; (try dsimp only))
  | ((with_reducible show Frag.In _ _ ∧ _); walk1)
  | (fail_if_success (k_end; skip)); (fail_if_success walk_at "stop"); first | walk1 | (dsimp only; walk1)))
local macro_rules | `(tactic| walk_at "S2") => `(tactic| repeat' (first
  | (k_unfold; (try dsimp only))
  | ((with_reducible show Frag.In _ _ ∧ _); walk1)
  | (fail_if_success (k_end; skip)); (fail_if_success walk_at "stop"); (fail_if_success (with_reducible show wpAny _ _ (compareOp _ (Value.ref _) (Value.ref _)) _ _ _)); first | walk1 | (dsimp only; walk1)))
local macro_rules | `(tactic| walk_at "S4") => `(tactic| repeat' (first
  | (k_unfold; (try dsimp only))
  | ((with_reducible show Frag.In _ _ ∧ _); walk1)
  | (fail_if_success (k_end; skip)); (fail_if_success walk_at "stop"); (fail_if_success (with_reducible show wpAny _ _ (execs (Stmt.For _ _ _ _ _ :: _) _) _ _ _)); first | walk1 | (dsimp only; walk1)))
local macro_rules | `(tactic| walk_at "S6") => `(tactic| repeat' (first
  | (k_unfold; (try dsimp only))
  | ((with_reducible show Frag.In _ _ ∧ _); walk1)
  | (fail_if_success (k_end; skip)); (fail_if_success walk_at "stop"); (fail_if_success (with_reducible show wpAny _ _ (execs (Stmt.Assign [Expr.Tuple _ _ _] (Expr.ListComp _ _ _ _) _ :: _) _) _ _ _)); first | walk1 | (dsimp only; walk1)))
local macro_rules | `(tactic| walk_at "one") => `(tactic| exact List.forall_mem_cons.mpr ⟨rfl, List.forall_mem_nil _⟩)
local macro_rules | `(tactic| walk_at "others") => `(tactic| (intro z h1 h2 h3; have h4 := h2 _ (.head _); simp only [kstB, if_neg h1, if_neg h4, h3, Bool.false_eq_true, if_false]))
local macro_rules | `(tactic| walk_at "len") => `(tactic| ((try simp only [List.length_append, List.length_cons, List.length_nil, List.length_map, expandZ_len, checkZ_len, rangeKs_length] at *); omega))
local macro_rules | `(tactic| walk_at "binaryOp Add ref ref") => `(tactic| (k_here; k_dflt (refine' addInts ?F ?N ?l ?b ?i ?j ?z ?_; (case F => k_asm); (case N => k_asm); (case l => walk_at "alist"); (case b => walk_at "alist"); (case i => first | assumption | l_ints); (case j => first | assumption | l_ints); (case z => walk_at "len"); intro D' arr' k' h' F' N' hI' o1'; (try simp only [LCg.Off1, and_true] at o1'))))
local macro_rules | `(tactic| walk_at "room") => `(tactic| (dsimp only [AA]; omega))
local macro_rules | `(tactic| walk_at "top") => `(tactic| exact Top.keeps (by assumption) (Fr.keep (by k_asm)))
local macro_rules | `(tactic| walk_at "alist") => `(tactic| first | (with_reducible assumption) | exact isList_in (by k_asm) (by k_mem) | (refine Heap.IsList.at (h := _) (by assumption) (fun o e => Fr.keep (by k_asm) _ o e)))
local macro_rules | `(tactic| walk_at "call ref") => `(tactic| (k_here; k_dflt (refine' expand_spec ?X ?T ?d ?x ?_; (case X => k_in); (case T => walk_at "top"); (case d => walk_at "room"); (case x => first | assumption | omega); intro l' arr' k' h' tk' hg' hn' ho' hI'; have hb' := backL (by k_asm) (by k_asm) hg' hn' ho'; obtain ⟨F', N', o1'⟩ := hb'; (try simp only [LCg.Off1, and_true] at o1'))))
local macro_rules | `(tactic| walk_at "call ref") => `(tactic| (k_here; k_dflt (refine' poly_spec ?X ?T ?d ?l ?i ?_; (case X => k_in); (case T => walk_at "top"); (case d => walk_at "room"); (case l => walk_at "alist"); (case i => assumption); intro t' h' tk' hg'; have hb' := backI (by k_asm) (by k_asm) hg'; obtain ⟨F', N'⟩ := hb')))
local macro_rules | `(tactic| walk_at "call ref") => `(tactic| (k_here; k_dflt (refine' create_spec ?X ?T ?d ?x ?l ?i ?n ?_; (case X => k_in); (case T => walk_at "top"); (case d => walk_at "room"); (case x => first | assumption | omega); (case l => walk_at "alist"); (case i => assumption); (case n => walk_at "len"); intro l' arr' k' h' tk' hg' hn' ho' hI'; have hb' := backL (by k_asm) (by k_asm) hg' hn' ho'; obtain ⟨F', N', o1'⟩ := hb'; (try simp only [LCg.Off1, and_true] at o1'))))
local macro_rules | `(tactic| walk_at "call ref") => `(tactic| (k_here; k_dflt (refine' verify_spec ?X ?T ?d ?x ?l ?i ?n ?_; (case X => k_in); (case T => walk_at "top"); (case d => walk_at "room"); (case x => first | assumption | omega); (case l => walk_at "alist"); (case i => assumption); (case n => walk_at "len"); intro h' tk' hg'; have hb' := backI (by k_asm) (by k_asm) hg'; obtain ⟨F', N'⟩ := hb')))
local macro_rules | `(tactic| walk_at "slen") => `(tactic| ((try simp only [PySem.Str.length_append, Str.cps_append, len_one, len_one2, PySem.Str.length, Array.size_append, List.size_toArray, List.length_map, List.length_append, checkZ_len] at *); rw [sizeLine_eq]; omega))
local macro_rules | `(tactic| walk_at "binaryOp Add str str") => `(tactic| (k_dflt (refine' PyProof.Rows.add_str ?_ ?z; (case z => walk_at "slen"); intro t' tk')))
local macro_rules | `(tactic| walk_at "subscriptTail Name Name str int") => `(tactic| (k_dflt (refine item_str (x := CH) (fitsSsize_of (N := 9223372036854775808) (by omega) (by omega) (Int.le_refl _)) (by rw [ch_len]; omega) (by rw [ch_len]; omega) ?_; intro _)))
local macro_rules | `(tactic| walk_at "eval Name") => `(tactic| (k_here; (with_reducible show wpAny _ _ (eval (Expr.Name _ _) (genEnv _ _ _ _ _ _)) _ _ _); k_dflt (first
  | (refine nameG_L (by k_asm) (by assumption) ?_)
  | (refine nameG_K (by k_asm) (by k_asm) (by k_asm) (by rfl) (by k_is) ?_)
  | (refine nameG_B (by k_asm) (by k_asm) (by k_asm) (by rfl) (by k_is) (by boot_by_name) (by decide) ?_))))
local macro_rules | `(tactic| walk_at "call builtin:len") => `(tactic| (k_here; (with_reducible show wpAny _ _ (call (Value.builtin "len") [Value.ref _]) _ _ _); k_dflt (refine' PyProof.Rows.len_list ?l ?z ?_; (case l => walk_at "alist"); (case z => walk_at "len"))))

local macro_rules | `(tactic| walk_at "call ref") => `(tactic| (k_here; k_dflt (refine' digits_spec ?X ?T ?d ?b0 ?b1 ?m ?_; (case X => k_in); (case T => walk_at "top"); (case d => walk_at "room"); (case b0 => omega); (case b1 => omega); (case m => omega); intro l' arr' k' h' tk' ds' hg' hn' ho' hI' hd1' hd2' hd3'; have hb' := backL (by k_asm) (by k_asm) hg' hn' ho'; obtain ⟨F', N', o1'⟩ := hb'; (try simp only [LCg.Off1, and_true] at o1'))))

local macro_rules | `(tactic| walk_at "mems") => `(tactic| first | exact List.forall_mem_nil _ | exact List.forall_mem_cons.mpr ⟨by k_mem, by walk_at "mems"⟩)
local macro_rules | `(tactic| walk_at "told") => `(tactic| first | exact List.forall_mem_nil _ | exact List.forall_mem_cons.mpr ⟨rfl, by walk_at "told"⟩)
local macro_rules | `(tactic| walk_at "S3") => `(tactic| repeat' (first
  | (k_unfold; (try dsimp only))
  | ((with_reducible show Frag.In _ _ ∧ _); walk1)
  | (fail_if_success (k_end; skip)); (fail_if_success walk_at "stop"); (fail_if_success (with_reducible show wpAny _ _ (execs (Stmt.If _ _ _ _ :: _) _) _ _ _)); first | walk1 | (dsimp only; walk1)))
local macro_rules | `(tactic| walk_at "clss") => `(tactic| (repeat' (first | exact List.forall_mem_nil _ | refine List.forall_mem_cons.mpr ⟨by rintro ⟨⟩, ?_⟩)))
local macro_rules | `(tactic| walk_at "rds") => `(tactic| first | exact ReadsAll.nil | exact ReadsAll.cons (by walk_at "rd") (by walk_at "rds"))
local macro_rules | `(tactic| walk_at "rd") => `(tactic| first
  | exact Reads.none
  | exact Reads.str _ _
  | exact reads_list_at (News.get (by k_asm) (by k_mem)) rfl rfl (readsInts (by assumption))
  | exact reads_list_at (News.get (by k_asm) (by k_mem)) rfl rfl (by walk_at "rds")
  | exact reads_tuple_at (News.get (by k_asm) (by k_mem)) rfl rfl (by walk_at "rds"))
local macro_rules | `(tactic| walk_at "call ref") => `(tactic| (k_here; k_dflt (refine' at_spec ?X ?T ?d ?l ?i ?n ?k ?_; (case X => k_in); (case T => walk_at "top"); (case d => walk_at "room"); (case l => walk_at "alist"); (case i => assumption); (case n => omega); (case k => omega); intro t' h' tk' hg'; have hb' := backI (by k_asm) (by k_asm) hg'; obtain ⟨F', N'⟩ := hb')))
local macro_rules | `(tactic| walk_at "call ref") => `(tactic| (k_here; k_dflt (refine' encode_spec ?X ?T ?d ?x ?l ?i ?n ?b ?_; (case X => k_in); (case T => walk_at "top"); (case d => walk_at "room"); (case x => first | assumption | omega); (case l => walk_at "alist"); (case i => assumption); (case n => omega); (case b => assumption); intro t' h' tk' hg'; have hb' := backI (by k_asm) (by k_asm) hg'; obtain ⟨F', N'⟩ := hb')))
local macro_rules | `(tactic| walk_at "call builtin:len") => `(tactic| (k_here; (with_reducible show wpAny _ _ (call (Value.builtin "len") [Value.str _ _]) _ _ _); k_dflt (refine PySem.P.len_str (by ((try simp only [PySem.Str.length] at *); omega)) ?_)))
local macro_rules | `(tactic| walk_at "S7") => `(tactic| repeat' (first
  | (k_unfold; (try dsimp only))
  | ((with_reducible show Frag.In _ _ ∧ _); walk1)
  | (fail_if_success (k_end; skip)); (fail_if_success walk_at "stop"); (fail_if_success (with_reducible show wpAny _ _ (execs (Stmt.Assign _ (Expr.BinOp _ _ _ _) _ :: _) _) _ _ _)); first | walk1 | (dsimp only; walk1)))
local macro_rules | `(tactic| walk_at "S8") => `(tactic| repeat' (first
  | (k_unfold; (try dsimp only))
  | ((with_reducible show Frag.In _ _ ∧ _); walk1)
  | (fail_if_success (k_end; skip)); (fail_if_success walk_at "stop"); (fail_if_success (with_reducible show wpAny _ _ (execs (Stmt.Assign [Expr.Name "made" _] (Expr.BinOp _ _ _ _) _ :: _) _) _ _ _)); first | walk1 | (dsimp only; walk1)))
local macro_rules | `(tactic| walk_at "subscriptTail Name Name str int") => `(tactic| (k_dflt (refine item_str (x := signsT _) (fitsSsize_of (N := 9223372036854775808) (by omega) (by omega) (Int.le_refl _)) (by rw [signsT_len]; omega) (by rw [signsT_len]; omega) ?_; intro _)))
local macro_rules | `(tactic| walk_at "subscriptTail Name BinOp str int") => `(tactic| (k_dflt (refine item_str (x := signsT _) (fitsSsize_of (N := 9223372036854775808) (by omega) (by omega) (Int.le_refl _)) (by rw [signsT_len]; omega) (by rw [signsT_len]; omega) ?_; intro _)))
local macro_rules | `(tactic| walk_at "tabs") => `(tactic| (repeat' (first | exact List.forall_mem_nil _ | refine List.forall_mem_cons.mpr ⟨by first | exact listTab | exact notTab (by assumption) | exact (fun _ e => by cases e), ?_⟩)))
local macro_rules | `(tactic| walk_at "S9") => `(tactic| repeat' (first
  | (k_unfold; (try dsimp only))
  | ((with_reducible show Frag.In _ _ ∧ _); walk1)
  | (fail_if_success (k_end; skip)); (fail_if_success walk_at "stop"); (fail_if_success (with_reducible show wpAny _ _ (execs (Stmt.Assign [Expr.Name "told" _] (Expr.BinOp _ _ _ _) _ :: _) _) _ _ _)); first | walk1 | (dsimp only; walk1)))
local macro_rules | `(tactic| walk_at "subscriptTail Name Name ref int") => `(tactic| (k_dflt (refine' int_item ?l ?i ?z ?a ?b ?_; (case l => walk_at "alist"); (case i => with_reducible assumption); (case z => omega); (case a => omega); (case b => omega); intro _)))
local macro_rules | `(tactic| walk_at "subscriptTail Name BinOp ref int") => `(tactic| (k_dflt (refine' int_item ?l ?i ?z ?a ?b ?_; (case l => walk_at "alist"); (case i => with_reducible assumption); (case z => omega); (case a => omega); (case b => omega); intro _)))
local macro_rules | `(tactic| walk_at "subscriptTail Name Slice ref ref") => `(tactic| (k_here; k_dflt (refine' sliceFrom ?F ?N ?l ?i ?z ?a ?_; (case F => k_asm); (case N => k_asm); (case l => walk_at "alist"); (case i => with_reducible assumption); (case z => omega); (case a => omega)); intro D' arr2' h' F' N' l1 hI'))
local macro_rules | `(tactic| walk_at "subscriptTail Name Slice ref ref") => `(tactic| (k_here; k_dflt (refine' sliceTo ?F ?N ?l ?i ?z ?a ?_; (case F => k_asm); (case N => k_asm); (case l => walk_at "alist"); (case i => with_reducible assumption); (case z => omega); (case a => omega)); intro D' arr2' h' F' N' l1 hI'))
local macro_rules | `(tactic| walk_at "S10") => `(tactic| repeat' (first
  | (k_unfold; (try dsimp only))
  | ((with_reducible show Frag.In _ _ ∧ _); walk1)
  | (fail_if_success (k_end; skip)); (fail_if_success walk_at "stop"); (fail_if_success (with_reducible show wpAny _ _ (execs (Stmt.If _ _ _ _ :: _) _) _ _ _)); (fail_if_success (with_reducible show wpAny _ _ (call _ [Value.ref _]) _ _ _)); first | walk1 | (dsimp only; walk1)))
local macro_rules | `(tactic| k_ne) => `(tactic| exact newsNe (by k_asm) (by k_mem) (by k_mem) (by k_asm) (fun _ e => by cases e))
local macro_rules | `(tactic| walk_at "lits") => `(tactic| first | exact IntsAre.nil | (refine IntsAre.cons _ _ ?_; walk_at "lits"))
local macro_rules | `(tactic| k_ne) => `(tactic| (refine neN ?_; (try dsimp only); first | (with_reducible assumption) | exact off1_mem (by k_asm) (_, _) (by k_mem) | exact Ne.symm (off1_mem (by k_asm) (_, _) (by k_mem))))
local macro_rules | `(tactic| walk_at "storeName") => `(tactic| (k_here; (first | (with_reducible show wpAny _ _ (storeName _ (PySem.Str.ofString "upper") _) _ _ _) | (with_reducible show wpAny _ _ (storeName _ (PySem.Str.ofString "lower") _) _ _ _) | (with_reducible show wpAny _ _ (storeName _ (PySem.Str.ofString "turn") _) _ _ _) | (with_reducible show wpAny _ _ (storeName _ (PySem.Str.ofString "told") _) _ _ _)); k_dflt (refine' storeX_C ?F ?N ?c ?U ?d ?_ ?a ?b; (case a => rfl); (case b => rfl); (case F => k_asm); (case N => k_asm); (case c => rfl); (case U => k_updF); (case d => k_asm); k_whole; intro h' o' F' N' d'; (try dsimp only at N'); (try k_sweep))))
local macro_rules | `(tactic| walk_at "S5") => `(tactic| repeat' (first
  | (k_unfold; (try dsimp only))
  | ((with_reducible show Frag.In _ _ ∧ _); walk1)
  | (fail_if_success (k_end; skip)); (fail_if_success walk_at "stop"); (fail_if_success (with_reducible show wpAny _ _ (execs (Stmt.Assign _ (Expr.ListComp _ _ _ _) _ :: _) _) _ _ _)); first | walk1 | (dsimp only; walk1)))
local macro_rules | `(tactic| walk_at "call type:range") => `(tactic| (dsimp only; walk_at "call type:range"))
theorem news_pick {h₀ h : Heap} {L : Addr} {a b : Addr × Obj} {r r' : List (Addr × Obj)} (N : News h₀ L h (a :: b :: r)) (hs : ∀ p ∈ r', p ∈ r) : News h₀ L h (b :: a :: r') := news_swap (fun p hp => N p (by
  rcases List.mem_cons.mp hp with rfl | hp
  · exact .head _
  · rcases List.mem_cons.mp hp with rfl | hp
    · exact .tail _ (.head _)
    · exact .tail _ (.tail _ (hs p hp))))
def RowPost {h₀ h : Heap} {L : Addr} {m : Str → Option Value} (cs : List (Addr × Obj)) (F : Fr h₀ L h m) (s : Shared) (f : Flow) (s' : Shared) : Prop :=
  f = .next ∧ ∃ (D : Addr) (arr : Array Value) (k : Nat) (rs : List Int) (ax : Addr) (o : Obj) (u : Str → Option Value) (h : Heap) (tk : Nat), s' = { s with heap := h, toks := tk } ∧ RowIs arr rs ∧ rs.length ≤ 8 ∧
    Fr h₀ L h (fun y => if y = "number" then u y else kstB (fun z => if List.contains [] z then u z else m z) [("row", .ref D)] y) ∧ News h₀ L h ((D, W.listOf arr k) :: (ax, o) :: cs)
set_option maxHeartbeats 40000000 in
theorem law_spec {w : World} {dp un : Nat} {fr : Option (List Env)} {gd : Option (List Code)} {E : Value → Shared → Prop} {s : Shared} {p : Program} {loose : List Str} {mean : ExcName → Option Value} {mg mb : Str → Option Value} {Q : Value → Shared → Prop}
    {l : Addr} {arr : Array Value} {ns : List Int}
    (X : (Mine.hd.heap_39 w.params).In s.heap) (T : Top p loose mean mg mb s.heap) (C : CodeHd s.heap 47 45) (hP : s.heap.get? 45 = some (tabObj #[])) (hG : AllBare s.gens) (hd : dp + 40 < recursionLimit) (hu : un + 1000 < cLine)
    (hl : s.heap.IsList l arr) (hi : IntsAre arr.toList ns) (hn : ns.length ≤ 63)
    (ret : ∀ s' ps, s'.os = s.os → AllBare s'.gens → (∀ b o, b ≠ 45 → s.heap.get? b = some o → s'.heap.get? b = some o) → s'.heap.get? 45 = some (tabObj ps) → Q (.bool true) s') :
    wpAny (model PySem.Challenge.rw_oo0007_02.row.prog w) (AA dp un fr gd) (call (.ref 100) [.ref l]) Q E s := by
  revert X; k_fill; intro X
  refine enterKCH (binds := [("script", .ref l)]) X T hP (by show dp < _; omega) (by k_is) (by k_is) (BindsTo.of_eq rfl) (by rfl) (by decide +kernel) ?_
  intro h₁ tk cells F N Y
  k_cells Y
  rename_i o1 o2 o3 o4 d1 d2 d3 d4
  replace d1 : o1.data = .cell none := d1
  replace d2 : o2.data = .cell none := d2
  replace d3 : o3.data = .cell none := d3
  replace d4 : o4.data = .cell none := d4
  simp only [List.cons_append, List.nil_append] at N
  replace F := frTold [("script", .ref l)] F (by walk_at "told")
  revert F
  generalize bindL _ _ _ = u₀
  intro F
  have Xg := hide_K hP X (by rfl)
  have Tg := hide_top hP T
  have Cg := hide_code hP C
  have hlg := hide_list hP hl
  have hlen := hi.length
  rw [Array.length_toList] at hlen
  clear X T C hl
  walk_at "S"
  refine LCg.Assign_ListComp_U (F₀ := by k_asm) (by rfl) (by with_unfolding_all rfl) (by with_unfolding_all rfl) (by decide) (by rfl) (by decide) (by rfl) (by rfl) (by rfl) ?_
  walk_at "S"
  rename_i ds _ _ _ hI hd1 hd2 hd3 _ _ _
  have hlen := hI.length
  rw [Array.length_toList] at hlen
  refine CompSrc.ledger (by rfl) (by k_asm) (by k_asm) (by k_mem) (by rw [sizeLine_eq]; omega) ?_
  intro g
  refine compPure (fun j y => ∃ t, y = .str (((ds.map nameC).map chS).getD j ⟨#[]⟩) t) (Or.inr ⟨_, by k_mem, rfl, _, rfl⟩) ?_ ?_
  · rintro j ys v I oI C oC D m₂ h tk E' hj hv hC hm F N
    obtain ⟨k, t, rfl, hk⟩ := hI.at j v (by simpa using hv)
    have hb' := hd3 _ (List.mem_of_getElem? hk)
    have e : ((ds.map nameC).map chS).getD j ⟨#[]⟩ = chS (nameC k) := by simp only [List.getD, List.getElem?_map, hk, Option.map_some, Option.getD_some]
    walk_at "S"
    all_goals refine ⟨?_, _, _, rfl, by k_asm, by k_asm⟩
    · rw [e, chS, nameC, if_pos (by with_reducible assumption)]; exact ⟨_, rfl⟩
    · rw [e, chS, nameC, if_neg (by with_reducible assumption)]; exact ⟨_, rfl⟩
  intro ys hl hR
  have hI2 := strsAre_of (ns := (ds.map nameC).map chS) (by rw [hl, List.length_map, List.length_map]; exact hlen) hR
  have hl2 := hI2.length
  clear hR
  walk_at "FinA"
  walk_at "S"
  obtain ⟨lv, ev, et⟩ := strsAre_values hI2
  refine SC.join (l := lv) (by rw [← ev]; exact isList_in (k := ys.length) (by k_asm) (by k_mem)) et (joinOk_chs (by rw [List.length_map]; omega)) ?_
  intro t' tk'
  have ej : Txt.join (PySem.Str.ofString "") ((ds.map nameC).map chS) = ⟨(ds.map nameC).toArray⟩ := join_chs _
  rw [ej]
  have hx : NameIs ⟨(ds.map nameC).toArray⟩ ds.length := ⟨by simp, fun c hc => by
    have hc' : c ∈ ds.map nameC := by simpa using hc
    obtain ⟨i, hi', rfl⟩ := List.mem_map.mp hc'
    exact nameC_ok (hd3 _ hi')⟩
  revert hx
  generalize (⟨(ds.map nameC).toArray⟩ : Str) = x
  intro hx
  have hxs := hx.size
  have hM0 : 1 ≤ ds.length := hd1
  have hM : ds.length ≤ 2 := by omega
  walk_at "S"
  have F := (by k_asm : Fr (hideAll s.heap [45]) s.heap.objs.size _ _)
  refine cutAt (RowPost [(s.heap.objs.size + 1 + 1 + 1 + 1, o1), (s.heap.objs.size + 1 + 1 + 1, o2), (s.heap.objs.size + 1 + 1, o3), (s.heap.objs.size + 1, o4), (45, tabObj #[])] F s) ?_ ?_
  · refine For_list (h₀ := hideAll s.heap [45]) (by rfl) (by rfl) ?_
    walk_at "S"
    all_goals (
      rename News _ _ _ _ => N9
      refine stList (σ := Addr × Array Value × Nat × List Int) (m₀ := _) (fun s' => ∃ h tk, s' = { s with heap := h, toks := tk }) (fun c => [(c.1, W.listOf c.2.1 c.2.2.1), (_, _), (s.heap.objs.size + 1 + 1 + 1 + 1, o1), (s.heap.objs.size + 1 + 1 + 1, o2), (s.heap.objs.size + 1 + 1, o3), (s.heap.objs.size + 1, o4), (45, tabObj #[])]) (fun c => [("row", .ref c.1)]) [] (fun i c => RowIs c.2.1 c.2.2.2 ∧ c.2.2.2.length ≤ 8) (_, _, _, [])
        (by rfl) (by k_asm) (news_pick N9 (by walk_at "mems")) (fun c => Or.inr ⟨_, by k_mem, rfl, _, rfl⟩) ⟨_, _, rfl⟩ (fun _ _ _ ⟨_, _, e⟩ => by subst e; exact ⟨_, _, rfl⟩) (by walk_at "one") ⟨⟨.nil, Nat.zero_le _, fun _ h => nomatch h⟩, Nat.zero_le _⟩ ?_ ?_
      · rintro i v ⟨D, arr2, k, rs⟩ u s₂ I oI hv ⟨⟨hRi, hRf, hRl⟩, hR8⟩ ⟨h, tk, rfl⟩ F N off
        dsimp only at hRi hRf hRl hR8 F N off
        simp only [LCg.Off1, and_true] at off
        obtain ⟨n, t, rfl⟩ : ∃ n t, v = Value.int n t := by
          rw [← Array.getElem?_toList] at hv
          obtain ⟨n, t, e, _⟩ := IntsAre.at (by first | assumption | exact .cons _ _ (.cons _ _ .nil)) i v hv
          exact ⟨n, t, e⟩
        have hRn := hRi.length
        rw [Array.length_toList] at hRn
        walk_at "S"
        · refine stEnd (_, _, _, rs ++ _) (by k_asm) (by k_asm) (List.forall_mem_cons.mpr ⟨by k_mem, List.forall_mem_cons.mpr ⟨by k_mem, List.forall_mem_cons.mpr ⟨by k_mem, List.forall_mem_cons.mpr ⟨by k_mem, List.forall_mem_cons.mpr ⟨by k_mem, List.forall_mem_cons.mpr ⟨by k_mem, List.forall_mem_cons.mpr ⟨by k_mem, List.forall_mem_cons.mpr ⟨by k_mem, List.forall_mem_nil _⟩⟩⟩⟩⟩⟩⟩⟩) ?_ (Or.inr ⟨_, .tail _ (.head _), rfl, _, rfl⟩) ⟨_, _, rfl⟩ (by walk_at "one") ?_ ⟨⟨by assumption, ?_, ?_⟩, ?_⟩
          · show LCg.Off1 _ _
            simp only [LCg.Off1, and_true]
            exact ⟨Ne.symm (And.left (And.right (by with_reducible assumption : (_ ≠ _) ∧ (I ≠ _) ∧ _))), off.2⟩
          · walk_at "others"
          · rw [List.length_append]; omega
          · intro n hn
            rcases List.mem_append.mp hn with hn | hn
            · exact hRl n hn
            · exact (by assumption : ∀ d ∈ _, 0 ≤ d ∧ d < (32 : Int)) n hn
          · rw [List.length_append]; omega
        · refine stEnd (D, arr2, k, rs) (by k_asm) (by k_asm) ?_ ?_ ?_ ⟨_, _, rfl⟩ (by walk_at "one") ?_ ⟨⟨by assumption, hRf, hRl⟩, hR8⟩
          · walk_at "mems"
          · first | exact off | simpa only [LCg.Off1, and_true] using off
          · exact Or.inr ⟨_, .tail _ (.head _), rfl, _, rfl⟩
          · walk_at "others"
      · rintro ⟨D, arr2, k, rs⟩ u s' ⟨h, tk, rfl⟩ ⟨hR, hR8⟩ F' N'
        exact ⟨rfl, D, arr2, k, rs, _, _, u, h, tk, rfl, hR, hR8, F', N'⟩)
  · rintro f s' ⟨rfl, D, arr2, k, rs, ax, o, u, h, tk, rfl, hR, hR8, F, N⟩
    obtain ⟨hRi, hRf, hRl⟩ := hR
    have kR := And.intro hRi hi
    have htl := text_len x (rs ++ checkZ x rs)
    rw [List.length_append, checkZ_len] at htl
    have hcl : (rs ++ checkZ x rs).length = rs.length + 6 := by rw [List.length_append, checkZ_len]
    have hcb : ∀ n ∈ rs ++ checkZ x rs, 0 ≤ n ∧ n < 32 := fun n hm => (List.mem_append.mp hm).elim (hRl n) (checkZ_bound x rs n)
    have hs1 : Txt.slice (textOf x (rs ++ checkZ x rs)) none (some ((x.length : Int) + 1)) = x ++ PySem.Str.ofString "1" := text_head1 x _
    have hs2 : Txt.slice (textOf x (rs ++ checkZ x rs)) (some ((x.length : Int) + 1)) none = ⟨((rs ++ checkZ x rs).map signN).toArray⟩ := text_tail x _
    walk_at "S"
    rename Fr _ _ _ _ => F
    rw [hs2] at F
    generalize hcs : rs ++ checkZ x rs = cs at *
    refine Assign_ListComp_S (F₀ := F) (by rfl) (by with_unfolding_all rfl) (by with_unfolding_all rfl) (by decide) (by rfl) (by decide) (by rfl) (by rfl) (by rfl) ?_
    walk_at "S"
    refine ⟨⟨(cs.map signN).toArray⟩, _, _, rfl, rfl, by k_asm, by k_asm, by rw [sizeLine_eq]; simp only [List.size_toArray, List.length_map]; omega, fun s9 ⟨g9, e9⟩ => ?_⟩
    subst e9
    refine compPure (fun i y => ∃ t, y = .int (cs.getD i 0) t) trivial ?_ ?_
    · rintro i ys v I oI C oC D m₂ h tk E' hi ⟨c, u, hc, rfl⟩ hC hm F N
      obtain ⟨n, hn1, rfl⟩ : ∃ n, cs[i]? = some n ∧ signN n = c := by
        have hc' : (cs.map signN)[i]? = some c := by simpa using hc
        rw [List.getElem?_map] at hc'
        obtain ⟨n, h1, h2⟩ := Option.map_eq_some_iff.mp hc'
        exact ⟨n, h1, h2⟩
      walk_at "S"
      refine ⟨?_, _, _, rfl, by k_asm, by k_asm⟩
      have e1 := find_sign (hcb n (List.mem_of_getElem? hn1))
      have e2 : cs.getD i 0 = n := by simp [List.getD, hn1]
      unfold signS at e1
      rw [e2, e1]; exact ⟨_, rfl⟩
    · intro ys hl hR
      have hI2 := intsAre_of (ns := cs) (by simpa using hl) hR
      have k2 : IntsAre ys cs ∧ True := ⟨hI2, trivial⟩
      clear hR
      walk_at "FinA"
      walk_at "S7"
      · exfalso
        rename (_ != _) = true => hx1
        rw [hs1] at hx1
        simp at hx1
      · exfalso
        rename List.any _ _ = true => hx1
        obtain ⟨v, hv, he⟩ := List.any_eq_true.mp hx1
        have := hcb v hv
        have : v = -1 := by simpa using he
        omega
      · exfalso
        omega
      rotate_left
      · exfalso
        rename ¬ _ = rs => hx1
        exact hx1 (by rw [← hcs, Int.toNat_natCast]; exact List.take_left)
      have hoE : FnAt (Mine.hd.heap_39 w.params) 100 _ _ _ _ := .mk (by k_is)
      have hcr : cs.take (cs.length - 6) = rs := by rw [← hcs, List.length_append, checkZ_len, Nat.add_sub_cancel]; exact List.take_left
      have hpx : polyZ (expandZ x ++ cs) = 1 := by rw [← hcs]; exact check_N (fun c hc => (hx.signs c (by simpa using hc)).2.1) hRl
      clear hs1 hs2
      rename News _ _ _ _ => N7
      rename Fr _ _ _ _ => F7
      exact partB (s := s) hoE Xg Tg Cg hG hd hu ⟨rfl, hx.signs⟩ (by have := hx.size; show 1 ≤ x.cps.size; omega) (by have := hx.size; show x.cps.size ≤ 2; omega) ⟨kR.1, hRf, hRl⟩ hR8 k2.1 hlg kR.2 hn hcb hcl hcr hpx d1 d2 d3 d4 (frTold _ F7 (by walk_at "told")) (news_sub N7 (by walk_at "mems"))
        (fun s' ps h1 h2 h3 h4 => ret s' ps h1 h2 (fun b o hb he => h3 b o (hideAll_get _ he (by simpa using hb))) h4)
end Mine
end
section
open PySem PySem.W PySem.Calls PyProof.Rows
set_option maxRecDepth 100000
set_option linter.unusedVariables false
namespace Mine
open LCg
theorem goodLaw {c : ClaimW} {cl : Str → Option Addr} {mean : ExcName → Option Value} {args : List WData} {s₁ s' : Shared} {ps : Array Value} (hc : ∃ d, ReadsW c.records cl s'.heap (.bool true) d [] ∧ c.post args d args = true) (hr : ∀ cls, c.raises args cls = false)
    (C : CodeHd s₁.heap 47 45) (hP : s₁.heap.get? 45 = some (tabObj #[])) (hos : s'.os = s₁.os) (hG : AllBare s'.gens) (hk : ∀ b o, b ≠ 45 → s₁.heap.get? b = some o → s'.heap.get? b = some o) (h46 : s'.heap.get? 45 = some (tabObj ps)) :
    GoodWG c cl mean args s₁ (.ok (.ret (.bool true))) s' := by
  obtain ⟨d, h1, h2⟩ := hc
  refine ⟨.inl ⟨.bool true, d, [], rfl, hr, h1, h2, fun _ => ⟨List.nodup_nil, fun a ha => nomatch ha⟩⟩, ⟨fun b o e => ?_, fun b o e => ?_⟩, hos, hG⟩
  · by_cases hb : b = 45
    · subst hb
      rw [hP] at e
      obtain rfl := Option.some.inj e
      exact .inr (.inl ⟨(C.tab hP).isCodeTable, rfl, #[], ps, rfl, by rw [Array.empty_append]; exact h46⟩)
    · exact .inl (hk b o hb e)
  · by_cases hb : b = 45
    · subst hb; exact ⟨_, h46⟩
    · exact ⟨o, hk b o hb e⟩
set_option maxHeartbeats 8000000 in
theorem lawHolds : PySem.Challenge.rw_oo0007_02.Holds := by
  refine Mine.hd ?_
  k_fill
  intro w s₀ s₁ mg mb G Y fa o pm cd doc dV kV ho hd hcd hD hmg hg args vals as hpre hlay hrd hwl hlo
  have KX := kIn_of Y
  have X := (Ground.X G).1
  have V := (Ground.X G).2
  refine Ground.open G ?_
  intro T B D TE TW
  try (refine guard_noD D (by decide +kernel) ?_; clear D)
  have hfa : mg "law" = some (.ref 100) := mg_of KX T.g (by k_is)
  have hfa2 : mg "law" = some (.ref fa) := hmg
  rw [hfa] at hfa2
  obtain rfl : (100 : Addr) = fa := Value.ref.inj (Option.some.inj hfa2)
  obtain ⟨d, hr⟩ := Option.isSome_iff_exists.mp (show ((recsOf Mine.hd.view_39).find? (fun e => e.name == ("bech32_decode" : Str))).isSome = true by decide +kernel)
  obtain ⟨C, hP⟩ := tab_of (c := 47) (P := 45) T KX hr (by kernel_rfl)
  clear hfa hfa2 ho hd hcd hD hmg B TE TW X V G Y hr d
  wrow_args hpre hlay hrd hwl hlo
  refine law_spec (s := s₁) (un := 4) (fr := some []) (gd := some []) KX T C hP (fun g hg' => by rw [hg] at hg'; simp at hg') (by decide) (by decide) (by assumption) (by assumption) (by omega) ?_
  intro s' ps hos hG hk h45
  refine goodLaw ⟨.bool true, .bool true, by with_unfolding_all rfl⟩ (fun _ => rfl) C hP hos hG hk h45
end Mine
end
set_option maxRecDepth 100000 in
set_option maxHeartbeats 8000000 in
theorem PySem.Challenge.cw_oo0007_02_holds : PySem.Challenge.rw_oo0007_02.Holds := by
  exact Mine.lawHolds
