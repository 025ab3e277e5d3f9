import PyProof.Rows.All
import Wide.All
import OpenK.AllK
import Wide.FinOn
import PySem.Challenge.RW_pm0056_02
set_option Elab.async false
section
open PySem PySem.W PyProof.Rows
set_option Elab.async false
set_option maxRecDepth 100000
set_option maxHeartbeats 8000000
namespace Mine
open_top hd for PySem.Challenge.rw_pm0056_02
end Mine
end
section
open PySem PySem.W PySem.Calls PyProof.Rows PyProof.V PySem.Spec
set_option Elab.async false
set_option maxRecDepth 100000
namespace Mine

abbrev amb (dp un : Nat) (fr : List Env) (gd : Option (List Code)) : Around := { handled := none, depth := dp, frames := some fr, guards := gd, units := un }

section
variable {prog : Program} {w : World} {s : Shared} {dp un : Nat} {fr : List Env} {gd : Option (List Code)} {E Q : Value → Shared → Prop} {K : Frag} {p : Program} {loose : List Str} {mean : ExcName → Option Value} {mg mb : Str → Option Value}
  {qual : Str} {name : Str} {params : Arguments} {body : List Stmt} {scope : Scope} {dV kV doc pm cdv ct oc : Value} {an od : Option Addr} {osl : Array (Option Value)} {f : Addr} {args : List Value} {kw : List (Str × Value)} {binds : List (Str × Value)}

/-- a call of a def of the text: everything that stands stays -/
theorem call_me (X : K.In s.heap) (T : Top p loose mean mg mb s.heap)
    (ho : K.lookup f = some ⟨oc, od, .func (fnOf name qual params body scope dV kV doc pm an cdv ct), osl⟩) (hcd : codeIn K cdv qual = true) (hroom : dp < recursionLimit)
    (hbind : BindsTo s (fnOf name qual params body scope dV kV doc pm an cdv ct) ⟨args, kw⟩ binds) (hloc : ∀ y ∈ binds, scope.names.lookup y.1 = some .local)
    (hcell : ∀ x ∈ scope.names, x.2 ≠ .cell) (hco : scope.isCoroutine = false) (hgen : scope.isGenerator = false) (hk : scope.kind = .function)
    (h : ∀ L h₁, Fr s.heap L h₁ (fun y => binds.reverse.lookup y) → News s.heap L h₁ [] →
      wpAny (model prog w) (amb (dp + 1) (un + 3) (envOf qual scope L f cdv :: fr) gd) (execs body (envOf qual scope L f cdv))
        (fun fl s' => Q (match fl with | .ret v => v | _ => .none) s') (fun _ _ => False) { s with heap := h₁, toks := s.toks + binds.length }) :
    wpAny (model prog w) (amb dp un fr gd) (call (.ref f) args kw) Q E s := by
  refine wpAny_call (codeAny_call_def (fd := fnOf name qual params body scope dV kV doc pm an cdv ct) (body := body) (binds := binds) hroom (X _ _ ho) rfl T.nolimit (codeRec_of X hcd) rfl hbind hcell hloc (fun h₁ hns hk₁ => ?_) hco hgen hk)
  exact wpAny_mono (h _ h₁ ⟨hns, hk₁, Nat.le_refl _⟩ News.nil) (fun _ _ x => x) fun _ _ x => x.elim
end

section
variable {prog : Program} {w : World} {A : Around} {E : Value → Shared → Prop} {s : Shared} {env : Env} {h₀ : Heap} {target : Expr} {body : List Stmt} {Q : Flow → Shared → Prop}

def LEnd (h₀ : Heap) (L I : Addr) (oI : Obj) (J : (Str → Option Value) → List (Addr × Obj) → Prop) (s₁ s₂ : Shared) : Prop :=
  ∃ h' tk m' news', s₂ = { s₁ with heap := h', toks := tk } ∧ Fr h₀ L h' m' ∧ News h₀ L h' ((I, oI) :: news') ∧ (∀ p ∈ news', p.1 ≠ I) ∧ J m' news'
def LPost (h₀ : Heap) (L I : Addr) (oI : Obj) (J : (Str → Option Value) → List (Addr × Obj) → Prop) (s₁ : Shared) (Q : Flow → Shared → Prop) (f : Flow) (s₂ : Shared) : Prop :=
  match f with
  | .ret v => Q (.ret v) s₂
  | .brk => Q .next s₂
  | _ => LEnd h₀ L I oI J s₁ s₂

theorem turns_inv {I : Addr} {fp : List Addr} {n : Nat} {P Md : Nat → Value → Heap → Prop} {St : Nat → Heap → Prop} {m : Str → Option Value} {news keep : List (Addr × Obj)} {hp : Heap} {tk0 : Nat}
    (W : KTurns prog w A target I (I :: fp) [I] n P Md St) (hI : ∀ i h, St i h → ∃ o, h.get? I = some o) (hIn : h₀.get? I = none) (hLI : env.locals ≠ I) (hL : env.locals ∉ fp)
    (hfp : ∀ b ∈ fp, (∃ o, h₀.get? b = some o) ∨ ∃ o, (b, o) ∈ keep) (hnw : ∀ p ∈ news, p.1 ≠ I) (hst : St 0 hp)
    (F : Fr h₀ env.locals hp m) (N : News h₀ env.locals hp news)
    (J : Nat → (Str → Option Value) → List (Addr × Obj) → Prop) (hJk : ∀ i m' n', J i m' n' → ∀ p ∈ keep, p ∈ n') (h0 : J 0 m news)
    (step : ∀ i v m₁ news₁ h₁ tk₁ oI, i < n → P i v h₁ → J i m₁ news₁ → (∀ p ∈ news₁, p.1 ≠ I) → Fr h₀ env.locals h₁ m₁ → News h₀ env.locals h₁ ((I, oI) :: news₁) →
      wpAny (model prog w) A (assign target env v) (fun _ s₂ => wpAny (model prog w) A (execs body env) (LPost h₀ env.locals I oI (J (i + 1)) { s with heap := h₁, toks := tk₁ } Q) E s₂) E { s with heap := h₁, toks := tk₁ })
    (done : ∀ h' tk m' news', Fr h₀ env.locals h' m' → News h₀ env.locals h' news' → J n m' news' → Q .next { s with heap := h', toks := tk }) :
    TurnsAt prog w A h₀ env target body Q E (.ref I) { s with heap := hp, toks := tk0 } := by
  refine ⟨I, I :: fp, [I], n, P, Md, St, m, news, J, rfl, W, ?_, ?_, ?_, hst, F, N, h0, ?_, ?_⟩
  · intro h
    rcases List.mem_cons.mp h with e | h
    · exact hLI e
    · exact hL h
  · intro b hb
    rw [List.mem_singleton.mp hb]; exact hIn
  · intro p hp' hb
    exact hnw p hp' (List.mem_singleton.mp hb)
  · intro i v m₁ news₁ h₁ tk₁ own hi hP hJ hnw₁ hown hget hall hst₁ F₁ N₁
    obtain ⟨oI, hoI⟩ := hI _ _ hst₁
    have hmI : (I, oI) ∈ own := hall I (List.mem_cons_self ..) hIn oI hoI
    have hne : ∀ p ∈ news₁, p.1 ≠ I := fun p hp' e => hnw₁ p hp' (List.mem_singleton.mpr e)
    have N₂ : News h₀ env.locals h₁ ((I, oI) :: news₁) := fun p hp' => by
      rcases List.mem_cons.mp hp' with rfl | hp'
      · exact N₁ _ (List.mem_append_left _ hmI)
      · exact N₁ _ (List.mem_append_right _ hp')
    have fin : ∀ s₃, LEnd h₀ env.locals I oI (J (i + 1)) { s with heap := h₁, toks := tk₁ } s₃ → LoopStepU h₀ env.locals [I] own (J (i + 1)) { s with heap := h₁, toks := tk₁ } .next s₃ := by
      rintro s₃ ⟨h', tk, m', news', e, F', N', hn', hJ'⟩
      refine ⟨rfl, h', tk, m', news', e, F', ?_, fun p hp' hb => hn' p hp' (List.mem_singleton.mp hb), hJ'⟩
      intro p hp'
      rcases List.mem_append.mp hp' with ho | hn
      · have h1 := hown p ho
        rcases List.mem_cons.mp h1 with e1 | h1
        · have h2 := hget p ho
          rw [e1, hoI] at h2
          obtain ⟨pa, po⟩ := p
          dsimp only at e1 h2
          cases h2; subst e1
          exact N' _ (List.mem_cons_self ..)
        · rcases hfp p.1 h1 with ⟨o, h2⟩ | ⟨o, h2⟩
          · have h3 := (N₁ p (List.mem_append_left _ ho)).2.2
            rw [h2] at h3; cases h3
          · have h3 := (N₁ _ (List.mem_append_right _ (hJk _ _ _ hJ _ h2))).1
            have h4 := hget p ho
            have h5 : o = p.2 := Option.some.inj (h3.symm.trans h4)
            have h6 := hJk _ _ _ hJ' _ h2
            rw [h5] at h6
            exact N' p (List.mem_cons_of_mem _ h6)
      · exact N' p (List.mem_cons_of_mem _ hn)
    refine wpAny_mono (step i v m₁ news₁ h₁ tk₁ oI hi hP hJ hne F₁ N₂) (fun _ s₂ h₂ => wpAny_mono h₂ (fun f s₃ q => ?_) fun _ _ e => e) fun _ _ e => e
    cases f with
    | ret v => exact .ret q
    | brk => exact .brk q
    | next => exact .next (fin _ q)
    | cont => exact .cont (fin _ q)
  · intro h' tk m' news' F' N' _ hJ
    exact done h' tk m' news' F' N' hJ

/-- the frame's map: known names, names forgotten, the rest as it stood -/
abbrev fmap (nm : List Str) (u m₀ : Str → Option Value) (ps : List (Str × Value)) : Str → Option Value := kstB (fun z => if nm.contains z then u z else m₀ z) ps

def PsAre (m : Str → Option Value) : List (Str × Value) → Prop
  | [] => True
  | p :: r => m p.1 = some p.2 ∧ PsAre m r
theorem PsAre.all {m : Str → Option Value} : ∀ {ps : List (Str × Value)}, PsAre m ps → ∀ p ∈ ps, m p.1 = some p.2
  | q :: r, h, p, hp => by
    rcases List.mem_cons.mp hp with rfl | hp
    · exact h.1
    · exact PsAre.all h.2 p hp
def OffL (z : Str) : List Str → Prop
  | [] => True
  | n :: r => z ≠ n ∧ OffL z r
theorem OffL.of {z : Str} : ∀ {nm : List Str}, nm.contains z = false → OffL z nm
  | [], _ => trivial
  | n :: r, h => by
    rw [List.contains_cons, Bool.or_eq_false_iff] at h
    exact ⟨by simpa using h.1, OffL.of h.2⟩
def InLed (big : List (Addr × Obj)) : List (Addr × Obj) → Prop
  | [] => True
  | p :: r => p ∈ big ∧ InLed big r
theorem InLed.all {big l : List (Addr × Obj)} (h : InLed big l) : ∀ p ∈ l, p ∈ big := by
  induction l with
  | nil => intro p hp; cases hp
  | cons q r ih =>
    intro p hp
    cases hp with
    | head => exact h.1
    | tail _ hp => exact ih h.2 p hp
def AllNe (a : Addr) : List (Addr × Obj) → Prop
  | [] => True
  | p :: r => (p.1 : Nat) ≠ a ∧ AllNe a r
theorem AllNe.all {a : Addr} {l : List (Addr × Obj)} (h : AllNe a l) : ∀ p ∈ l, p.1 ≠ a := by
  induction l with
  | nil => intro p hp; cases hp
  | cons q r ih =>
    intro p hp
    cases hp with
    | head => exact h.1
    | tail _ hp => exact ih h.2 p hp
theorem AllNe.of {a : Addr} : ∀ {l : List (Addr × Obj)}, (∀ p ∈ l, p.1 ≠ a) → AllNe a l
  | [], _ => trivial
  | p :: _, h => ⟨h p (.head _), AllNe.of fun q hq => h q (.tail _ hq)⟩

theorem OffL.no {z : Str} {nm : List Str} (h : OffL z nm) : nm.contains z = false := by
  induction nm with
  | nil => rfl
  | cons n r ih => rw [List.contains_cons, ih h.2, Bool.or_false]; simpa using h.1
theorem fmap_off {nm : List Str} {u m₀ : Str → Option Value} {z : Str} {ps : List (Str × Value)} (hs : (ps.all fun p => nm.contains p.1) = true) (h : OffL z nm) : fmap nm u m₀ ps z = m₀ z := by
  have e := h.no
  induction ps with
  | nil =>
    show (if nm.contains z = true then u z else m₀ z) = m₀ z
    rw [e]; simp
  | cons p r ih =>
    rw [List.all_cons, Bool.and_eq_true] at hs
    have hne : z ≠ p.1 := by
      rintro rfl
      rw [e] at hs; cases hs.1
    show (if z = p.1 then some p.2 else kstB _ r z) = m₀ z
    rw [if_neg hne]
    exact ih hs.2

def SJ {σ : Type} (Led : σ → List (Addr × Obj)) (ps : σ → List (Str × Value)) (Facts : Nat → σ → Prop) (nm : List Str) (m₀ : Str → Option Value) (i : Nat) (m : Str → Option Value) (nx : List (Addr × Obj)) : Prop :=
  ∃ c : σ, nx = Led c ∧ Facts i c ∧ PsAre m (ps c) ∧ (∀ z, OffL z nm → m z = m₀ z)

theorem fmap_eq {nm : List Str} {m₀ m : Str → Option Value} {ps : List (Str × Value)} (h1 : PsAre m ps) (h2 : ∀ z, OffL z nm → m z = m₀ z) : fmap nm m m₀ ps = m := by
  funext z
  refine kstB_eq h1.all fun _ => ?_
  show (if nm.contains z = true then m z else m₀ z) = m z
  cases h3 : nm.contains z with
  | true => simp
  | false => simp only [Bool.false_eq_true, if_false]; exact (h2 z (OffL.of h3)).symm

theorem turns_S {σ : Type} {I : Addr} {fp : List Addr} {n : Nat} {P Md : Nat → Value → Heap → Prop} {St : Nat → Heap → Prop} {m₀ : Str → Option Value} {keep led₀ : List (Addr × Obj)} {hp : Heap} {tk0 : Nat}
    (Led : σ → List (Addr × Obj)) (ps : σ → List (Str × Value)) (Facts : Nat → σ → Prop) (nm : List Str)
    (W : KTurns prog w A target I (I :: fp) [I] n P Md St) (hI : ∀ i h, St i h → ∃ o, h.get? I = some o) (hIn : h₀.get? I = none) (hLI : env.locals ≠ I) (hL : env.locals ∉ fp)
    (hfp : ∀ b ∈ fp, (∃ o, h₀.get? b = some o) ∨ ∃ o, (b, o) ∈ keep) (hnw : ∀ p ∈ led₀, p.1 ≠ I) (hst : St 0 hp)
    (F : Fr h₀ env.locals hp m₀) (N : News h₀ env.locals hp led₀) (hkeep : ∀ c, InLed (Led c) keep) (start : ∃ c₀ : σ, Led c₀ = led₀ ∧ Facts 0 c₀ ∧ PsAre m₀ (ps c₀))
    (turn : ∀ i (c : σ) v (u : Str → Option Value) h₁ tk₁ oI, i < n → P i v h₁ → Facts i c → (∀ p ∈ Led c, p.1 ≠ I) → Fr h₀ env.locals h₁ (fmap nm u m₀ (ps c)) → News h₀ env.locals h₁ ((I, oI) :: Led c) →
      wpAny (model prog w) A (assign target env v) (fun _ s₂ => wpAny (model prog w) A (execs body env) (LPost h₀ env.locals I oI (SJ Led ps Facts nm m₀ (i + 1)) { s with heap := h₁, toks := tk₁ } Q) E s₂) E { s with heap := h₁, toks := tk₁ })
    (done : ∀ (c : σ) (u : Str → Option Value) h' tk, Facts n c → Fr h₀ env.locals h' (fmap nm u m₀ (ps c)) → News h₀ env.locals h' (Led c) → Q .next { s with heap := h', toks := tk }) :
    TurnsAt prog w A h₀ env target body Q E (.ref I) { s with heap := hp, toks := tk0 } := by
  obtain ⟨c₀, hl0, hf, hps⟩ := start
  refine turns_inv (m := m₀) (news := led₀) (keep := keep) W hI hIn hLI hL hfp hnw hst F N (SJ Led ps Facts nm m₀) ?_ ⟨c₀, hl0.symm, hf, hps, fun _ _ => rfl⟩ ?_ ?_
  · rintro i m' n' ⟨c, rfl, _⟩ p hp'
    exact (hkeep c).all p hp'
  · rintro i v m₁ news₁ h₁ tk₁ oI hi hP ⟨c, rfl, hf', h1, h2⟩ hne F₁ N₁
    refine turn i c v m₁ h₁ tk₁ oI hi hP hf' hne ?_ N₁
    rw [fmap_eq h1 h2]; exact F₁
  · rintro h' tk m' news' F' N' ⟨c, rfl, hf', h1, h2⟩
    refine done c m' h' tk hf' ?_ N'
    rw [fmap_eq h1 h2]; exact F'

/-- a turn's end -/
theorem turn_end {σ : Type} {Led : σ → List (Addr × Obj)} {ps : σ → List (Str × Value)} {Facts : Nat → σ → Prop} {nm : List Str} {m₀ m' : Str → Option Value} {i : Nat} {L I : Addr} {oI : Obj} {s₁ : Shared} {h' : Heap} {tk : Nat} {news : List (Addr × Obj)}
    (c : σ) (F : Fr h₀ L h' m') (N : News h₀ L h' news) (hI : (I, oI) ∈ news) (hn : InLed news (Led c)) (hne : AllNe I (Led c)) (hf : Facts i c) (h1 : PsAre m' (ps c))
    (h2 : ∀ z, OffL z nm → m' z = m₀ z) : LEnd h₀ L I oI (SJ Led ps Facts nm m₀ i) s₁ { s₁ with heap := h', toks := tk } :=
  ⟨h', tk, m', Led c, rfl, F, fun p hp => by
    rcases List.mem_cons.mp hp with rfl | hp
    · exact N _ hI
    · exact N p (hn.all p hp), hne.all, c, rfl, hf, h1, h2⟩

/-! ## sources -/
theorem src_base {ax : Addr} {o : Obj} {L : Addr} {h : Heap} {m : Str → Option Value} {keep : List (Addr × Obj)} (F : Fr h₀ L h m) (e : h₀.get? ax = some o) : ((∃ o, h₀.get? ax = some o) ∨ ∃ o, (ax, o) ∈ keep) ∧ ax ≠ L :=
  ⟨.inl ⟨o, e⟩, Nat.ne_of_lt (Nat.lt_of_lt_of_le (Heap.lt_size e) F.above)⟩
theorem src_news {ax : Addr} {o : Obj} {L : Addr} {h : Heap} {news : List (Addr × Obj)} (N : News h₀ L h news) (hm : (ax, o) ∈ news) : ((∃ o, h₀.get? ax = some o) ∨ ∃ o', (ax, o') ∈ [(ax, o)]) ∧ ax ≠ L :=
  ⟨.inr ⟨o, List.mem_singleton.mpr rfl⟩, (N _ hm).2.1⟩

theorem it_list {σ : Type} {ax : Addr} {vs : List Value} {m₀ : Str → Option Value} {keep led₀ : List (Addr × Obj)}
    (Led : σ → List (Addr × Obj)) (ps : σ → List (Str × Value)) (Facts : Nat → σ → Prop) (nm : List Str)
    (hh : A.handled = none) (hl : s.heap.IsList ax vs.toArray) (hsrc : ((∃ o, h₀.get? ax = some o) ∨ ∃ o, (ax, o) ∈ keep) ∧ ax ≠ env.locals)
    (F : Fr h₀ env.locals s.heap m₀) (N : News h₀ env.locals s.heap led₀) (hkeep : ∀ c, InLed (Led c) keep) (start : ∃ c₀ : σ, Led c₀ = led₀ ∧ Facts 0 c₀ ∧ PsAre m₀ (ps c₀))
    (turn : ∀ I i (c : σ) v (u : Str → Option Value) h₁ tk₁ oI, vs[i]? = some v → Facts i c → AllLt I led₀ → AllNe I (Led c) → Fr h₀ env.locals h₁ (fmap nm u m₀ (ps c)) → News h₀ env.locals h₁ ((I, oI) :: Led c) →
      wpAny (model prog w) A (assign target env v) (fun _ s₂ => wpAny (model prog w) A (execs body env) (LPost h₀ env.locals I oI (SJ Led ps Facts nm m₀ (i + 1)) { s with heap := h₁, toks := tk₁ } Q) E s₂) E { s with heap := h₁, toks := tk₁ })
    (done : ∀ (c : σ) (u : Str → Option Value) h' tk, Facts vs.length c → Fr h₀ env.locals h' (fmap nm u m₀ (ps c)) → News h₀ env.locals h' (Led c) → Q .next { s with heap := h', toks := tk }) :
    wpAny (model prog w) A (pyIter (.ref ax)) (fun it s₂ => TurnsAt prog w A h₀ env target body Q E it s₂) E s := by
  obtain ⟨ol, hol, _⟩ := id hl
  have hne : ax ≠ s.heap.objs.size := Nat.ne_of_lt (Heap.lt_size hol)
  refine wpAny_pyIter_list hl ?_
  have hsz : vs.toArray.size = vs.length := by simp
  refine turns_S (tk0 := s.toks) (n := vs.length) (keep := keep) (fp := [ax]) Led ps Facts nm (hsz ▸ KTurns.ofWalks (Walks.list hh s.heap.objs.size ax hne vs.toArray) fun i v s Q E st q => letGo_listiter st.1 q)
    (fun i h st => ?_) (next_is_new F) (Nat.ne_of_lt F.ns.lt) (fun h => hsrc.2 (List.mem_singleton.mp h).symm) (fun b hb => ?_) (fun p hp => Nat.ne_of_lt (Heap.lt_size (N p hp).1)) ?_ (F.push _)
    (fun p hp => ⟨Heap.get?_push_of_some _ (N p hp).1, (N p hp).2⟩) hkeep start ?_ done
  · obtain ⟨it, hit, _⟩ := st.1
    exact ⟨it, hit⟩
  · rw [List.mem_singleton.mp hb]; exact hsrc.1
  · exact ⟨⟨_, Heap.get?_push_size _ rfl, rfl, rfl⟩, hl.at fun o e => Heap.get?_push_of_some _ e⟩
  · intro i c v u h₁ tk₁ oI hi hP hf' hne' F₁ N₁
    have hv : vs[i]? = some v := by
      have hP' : vs.toArray[i]? = some v := hP
      simpa using hP'
    exact turn _ i c v u h₁ tk₁ oI hv hf' (allLt_of fun p hp => Heap.lt_size (N p hp).1) (AllNe.of hne') F₁ N₁

theorem kdpD_get {c : List (Str × Int)} {i : Nat} {e : PyData} {dv : PyData} (h : (kdpD c)[i]? = some (e, dv)) : ∃ k x, c[i]? = some (k, x) ∧ e = .str k ∧ dv = .int x := by
  unfold kdpD at h
  rw [List.getElem?_map] at h
  cases hc : c[i]? with
  | none => rw [hc] at h; cases h
  | some q => rw [hc] at h; obtain ⟨k, x⟩ := q; cases h; exact ⟨k, x, rfl, rfl, rfl⟩

theorem it_values {σ : Type} {d vw : Addr} {c : List (Str × Int)} {m₀ : Str → Option Value} {keep led₀ : List (Addr × Obj)}
    (Led : σ → List (Addr × Obj)) (ps : σ → List (Str × Value)) (Facts : Nat → σ → Prop) (nm : List Str)
    (hh : A.handled = none) (hv : s.heap.IsValuesView vw d) (Ta : StrTab prog w s.heap d (kdpD c)) (hsrc : ((∃ o, h₀.get? d = some o) ∨ ∃ o, (d, o) ∈ keep) ∧ d ≠ env.locals)
    (F : Fr h₀ env.locals s.heap m₀) (N : News h₀ env.locals s.heap led₀) (hkeep : ∀ c, InLed (Led c) keep) (start : ∃ c₀ : σ, Led c₀ = led₀ ∧ Facts 0 c₀ ∧ PsAre m₀ (ps c₀))
    (turn : ∀ I i (c' : σ) k x t (u : Str → Option Value) h₁ tk₁ oI, c[i]? = some (k, x) → Facts i c' → AllLt I led₀ → AllNe I (Led c') → Fr h₀ env.locals h₁ (fmap nm u m₀ (ps c')) → News h₀ env.locals h₁ ((I, oI) :: Led c') →
      wpAny (model prog w) A (assign target env (.int x t)) (fun _ s₂ => wpAny (model prog w) A (execs body env) (LPost h₀ env.locals I oI (SJ Led ps Facts nm m₀ (i + 1)) { s with heap := h₁, toks := tk₁ } Q) E s₂) E { s with heap := h₁, toks := tk₁ })
    (done : ∀ (c' : σ) (u : Str → Option Value) h' tk, Facts c.length c' → Fr h₀ env.locals h' (fmap nm u m₀ (ps c')) → News h₀ env.locals h' (Led c') → Q .next { s with heap := h', toks := tk }) :
    wpAny (model prog w) A (pyIter (.ref vw)) (fun it s₂ => TurnsAt prog w A h₀ env target body Q E it s₂) E s := by
  obtain ⟨lo, kvs, hdo, hfl⟩ := Ta
  obtain ⟨ep, hat⟩ := hdo.dictAt
  have hlen : kvs.length = c.length := by rw [← hfl.length, kdpD_length]
  have hne : d ≠ s.heap.objs.size := Nat.ne_of_lt hat.lt_size
  refine wpAny_pyIter_values hv hat ?_
  refine turns_S (tk0 := s.toks) (n := kvs.length) (keep := keep) (fp := [d]) Led ps Facts nm (KTurns.ofWalks (Walks.dictValues (knd := PySem.strKind prog w) hh s.heap.objs.size d hne kvs ep) fun i v s Q E st q => letGo_valiter st.1 q)
    (fun i h st => ?_) (next_is_new F) (Nat.ne_of_lt F.ns.lt) (fun h => hsrc.2 (List.mem_singleton.mp h).symm) (fun b hb => ?_) (fun p hp => Nat.ne_of_lt (Heap.lt_size (N p hp).1)) ?_ (F.push _)
    (fun p hp => ⟨Heap.get?_push_of_some _ (N p hp).1, (N p hp).2⟩) hkeep start ?_ (fun c' u h' tk hF => done c' u h' tk (hlen ▸ hF))
  · obtain ⟨it, hit, _⟩ := st.1
    exact ⟨it, hit⟩
  · rw [List.mem_singleton.mp hb]; exact hsrc.1
  · exact ⟨⟨_, Heap.get?_push_size _ rfl, rfl, rfl⟩, hat.push _⟩
  · rintro i c' v u h₁ tk₁ oI hi ⟨k, hk⟩ hf' hne' F₁ N₁
    obtain ⟨dv, hD, hflv⟩ := hfl.at hk
    obtain ⟨k', x, hc, _, rfl⟩ := kdpD_get hD
    obtain ⟨t, rfl⟩ := Flat.int_inv hflv
    exact turn _ i c' k' x t u h₁ tk₁ oI hc hf' (allLt_of fun p hp => Heap.lt_size (N p hp).1) (AllNe.of hne') F₁ N₁

theorem it_items {σ : Type} {elts : List Expr} {kk : Nat} {pos : Pos} {d vw : Addr} {c : List (Str × Int)} {m₀ : Str → Option Value} {keep led₀ : List (Addr × Obj)}
    (Led : σ → List (Addr × Obj)) (ps : σ → List (Str × Value)) (Facts : Nat → σ → Prop) (nm : List Str)
    (hh : A.handled = none) (hv : s.heap.IsItemsView vw d) (Ta : StrTab prog w s.heap d (kdpD c)) (hsrc : ((∃ o, h₀.get? d = some o) ∨ ∃ o, (d, o) ∈ keep) ∧ d ≠ env.locals)
    (F : Fr h₀ env.locals s.heap m₀) (N : News h₀ env.locals s.heap led₀) (hkeep : ∀ c, InLed (Led c) keep) (start : ∃ c₀ : σ, Led c₀ = led₀ ∧ Facts 0 c₀ ∧ PsAre m₀ (ps c₀))
    (turn : ∀ I i (c' : σ) k x tk t T (u : Str → Option Value) h₁ tk₁ oI, c[i]? = some (k, x) → IsTup h₁ T #[.str k tk, .int x t] → Facts i c' → AllLt I led₀ → AllNe I (Led c') → Fr h₀ env.locals h₁ (fmap nm u m₀ (ps c')) → News h₀ env.locals h₁ ((I, oI) :: Led c') →
      wpAny (model prog w) A (assign (.Tuple elts kk pos) env (.ref T)) (fun _ s₂ => wpAny (model prog w) A (execs body env) (LPost h₀ env.locals I oI (SJ Led ps Facts nm m₀ (i + 1)) { s with heap := h₁, toks := tk₁ } Q) E s₂) E { s with heap := h₁, toks := tk₁ })
    (done : ∀ (c' : σ) (u : Str → Option Value) h' tk, Facts c.length c' → Fr h₀ env.locals h' (fmap nm u m₀ (ps c')) → News h₀ env.locals h' (Led c') → Q .next { s with heap := h', toks := tk }) :
    wpAny (model prog w) A (pyIter (.ref vw)) (fun it s₂ => TurnsAt prog w A h₀ env (.Tuple elts kk pos) body Q E it s₂) E s := by
  obtain ⟨lo, kvs, hdo, hfl⟩ := Ta
  obtain ⟨ep, hat⟩ := hdo.dictAt
  have hlen : kvs.length = c.length := by rw [← hfl.length, kdpD_length]
  have hne : d ≠ s.heap.objs.size := Nat.ne_of_lt hat.lt_size
  refine wpAny_pyIter_items hv hat ?_
  refine turns_S (tk0 := s.toks) (n := kvs.length) (keep := keep) (fp := [d]) Led ps Facts nm (kti_itemsTurns (knd := PySem.strKind prog w) hh s.heap.objs.size d hne kvs ep)
    (fun i h st => ?_) (next_is_new F) (Nat.ne_of_lt F.ns.lt) (fun h => hsrc.2 (List.mem_singleton.mp h).symm) (fun b hb => ?_) (fun p hp => Nat.ne_of_lt (Heap.lt_size (N p hp).1)) ?_ (F.push _)
    (fun p hp => ⟨Heap.get?_push_of_some _ (N p hp).1, (N p hp).2⟩) hkeep start ?_ (fun c' u h' tk hF => done c' u h' tk (hlen ▸ hF))
  · obtain ⟨⟨ok, ov, he⟩, _⟩ := st
    exact ⟨_, he⟩
  · rw [List.mem_singleton.mp hb]; exact hsrc.1
  · exact ⟨⟨.none, .none, Heap.get?_push_size _ rfl⟩, hat.push _⟩
  · rintro i c' v u h₁ tk₁ oI hi ⟨T, key, k, x, rfl, hx, hk, hT⟩ hf' hne' F₁ N₁
    obtain ⟨dv, hD, hflv⟩ := hfl.at hx
    obtain ⟨k', x', hc, ek, rfl⟩ := kdpD_get hD
    cases ek
    obtain ⟨t, rfl⟩ := Flat.int_inv hflv
    obtain ⟨tk, rfl⟩ : ∃ tk, key = .str k tk := by
      obtain ⟨t', e⟩ := Flat.str_inv (kdl_flat_str hk)
      exact ⟨t', e⟩
    exact turn _ i c' k x' tk t T u h₁ tk₁ oI hc hT hf' (allLt_of fun p hp => Heap.lt_size (N p hp).1) (AllNe.of hne') F₁ N₁

end
end Mine
end
section
open PySem PySem.W PySem.Calls PyProof.Rows PyProof.V PySem.Spec
set_option Elab.async false
set_option maxRecDepth 100000
namespace Mine
section
variable {prog : Program} {w : World} {A : Around} {E : Value → Shared → Prop} {s : Shared} {h₀ : Heap} {L d : Addr} {m : Str → Option Value} {news : List (Addr × Obj)} {Q : Value → Shared → Prop}
variable {D : List (PyData × PyData)}

theorem tab_obj {h : Heap} (T : StrTab prog w h d D) : ∃ o, h.get? d = some o := by
  obtain ⟨_, kvs, hd, _⟩ := T
  obtain ⟨o, ho, _⟩ := Heap.dictOf_iff.mp hd
  exact ⟨o, ho⟩

theorem call_values (F : Fr h₀ L s.heap m) (N : News h₀ L s.heap news) (T : StrTab prog w s.heap d D)
    (h : ∀ (V : Addr) h', Fr h₀ L h' m → News h₀ L h' ((V, { cls := .type "dict_values", data := .fields #[.ref d] }) :: news) → (∀ q ∈ news, q.1 < V) → Q (.ref V) { s with heap := h' }) :
    wpAny (model prog w) A (call (.builtin "dict.values") [.ref d]) Q E s := by
  obtain ⟨lo, kvs, hD, _⟩ := T
  exact call_meetsIn PySem.F.slot_dict_values hD.typeIs PySem.F.entry_dict_values (PySem.F.args_dict_values_1 _) (meets_dict_values (strKind prog w) d lo) ⟨⟨kvs, hD⟩, h _ _ (F.push _) (News.push F N _) fun q hq => Heap.lt_size (N q hq).1⟩
theorem call_items (F : Fr h₀ L s.heap m) (N : News h₀ L s.heap news) (T : StrTab prog w s.heap d D)
    (h : ∀ (V : Addr) h', Fr h₀ L h' m → News h₀ L h' ((V, { cls := .type "dict_items", data := .fields #[.ref d] }) :: news) → (∀ q ∈ news, q.1 < V) → Q (.ref V) { s with heap := h' }) :
    wpAny (model prog w) A (call (.builtin "dict.items") [.ref d]) Q E s := by
  obtain ⟨lo, kvs, hD, _⟩ := T
  exact call_meetsIn PySem.F.slot_dict_items hD.typeIs PySem.F.entry_dict_items (PySem.F.args_dict_items_1 _) (meets_dict_items (strKind prog w) d lo) ⟨⟨kvs, hD⟩, h _ _ (F.push _) (News.push F N _) fun q hq => Heap.lt_size (N q hq).1⟩
end

section
variable {prog : Program} {w : World} {A : Around} {E : Value → Shared → Prop} {s : Shared} {h₀ : Heap} {L a : Addr} {m : Str → Option Value} {news : List (Addr × Obj)} {Q : Value → Shared → Prop} {vs : List Value} {n : Nat}
open PySem.Builtin.Str in
theorem gives_find_to (x y : Str) (i : Int) (t u v z : Tok) : Gives (Builtin.«str.find» ⟨[.str x t, .str y u, .int i v, .int (x.length : Int) z], []⟩) (.int (Txt.find3 x y i)) := by
  have e : (max 0 (if (x.length : Int) < 0 then (x.length : Int) + x.length else (x.length : Int))).toNat = x.length := by
    rw [if_neg (by omega)]; omega
  show Gives (match occurrences x y (fromIndex x.length i) (min (max 0 (if (x.length : Int) < 0 then (x.length : Int) + x.length else (x.length : Int))).toNat x.length) 1 with | k :: _ => retInt k | [] => (do rule "str.find.not-found"; retInt (-1))) _
  rw [e, Nat.min_self]
  unfold Txt.find3
  cases occurrences x y (fromIndex x.length i) x.length 1 with
  | nil => exact .rule (.of_eq rfl)
  | cons k _ => exact .of_eq rfl
theorem find_to {x y : Str} {i : Int} {t u v z : Tok} (h : Q (.int (Txt.find3 x y i) s.toks) { s with toks := s.toks + 1 }) :
    wpAny (model prog w) A (call (.builtin "str.find") [.str x t, .str y u, .int i v, .int (x.length : Int) z]) Q E s :=
  call_gives F.slot_str_find (typeIs_str _ _ _) F.entry_str_find (F.args_str_find_4 _ _ _ _) (gives_find_to x y i t u v z) h
theorem list_led (N : News h₀ L s.heap news) (hm : (a, ({ cls := .type "list", data := .seq vs.toArray n } : Obj)) ∈ news) : s.heap.IsList a vs.toArray := ⟨_, (N _ hm).1, rfl, _, rfl⟩
theorem len_led (N : News h₀ L s.heap news) (hm : (a, ({ cls := .type "list", data := .seq vs.toArray n } : Obj)) ∈ news) (hz : vs.length ≤ 100000) (h : Q (.int vs.length (s.toks + 1)) { s with toks := s.toks + 1 + 1 }) :
    wpAny (model prog w) A (call (.builtin "len") [.ref a]) Q E s :=
  call_len_list (list_led N hm) (by rw [List.size_toArray]; omega) (by rw [List.size_toArray]; exact h)
end
end Mine
end
section
open PySem PySem.W PySem.Calls PyProof.Rows PyProof.V PySem.Spec
set_option Elab.async false
set_option maxRecDepth 100000
namespace Mine
def Hold (p : Prop) : Prop := p
theorem hold_in {p : Prop} (h : Hold p) : p := h
section
variable {prog : Program} {w : World} {A : Around} {E : Value → Shared → Prop} {s : Shared} {h₀ : Heap} {L a : Addr} {m : Str → Option Value} {news : List (Addr × Obj)} {Q : Value → Shared → Prop} {vs : List Value} {n : Nat} {x y : Str} {t u : Tok} {v : Value} {value slice : PySem.Expr} {k : Int}
theorem split_mid {mid : List Str} (hF : Fr h₀ L s.heap m) (hN : News h₀ L s.heap news) (hy : (y.length == 0) = false) (hsp : Txt.split x y = Str.empty :: (mid ++ [Str.empty]))
    (h : ∀ D t0 lm t1 h' k, lm.map (·.1) = mid → lm.length = mid.length → Fr h₀ L h' m → News h₀ L h' ((D, listOf (Value.str Str.empty t0 :: (strValues lm ++ [Value.str Str.empty t1])).toArray 0) :: news) → (∀ p ∈ news, p.1 < D) → Q (.ref D) { s with heap := h', toks := k })
    (hsz : x.length + 2 ≤ sizeLine) : wpAny (model prog w) A (call (.builtin "str.split") [.str x t, .str y u]) Q E s := by
  refine splitN1 hF hN hy (fun l h' k e F N => ?_) hsz
  rw [hsp] at e
  obtain ⟨t0, lm, t1, rfl, hlm⟩ : ∃ t0 lm t1, l = (Str.empty, t0) :: (lm ++ [(Str.empty, t1)]) ∧ lm.map (·.1) = mid := by
    cases l with
    | nil => cases e
    | cons q r =>
      obtain ⟨q1, q2⟩ := q
      simp only [List.map_cons, List.cons.injEq] at e
      obtain ⟨rfl, e⟩ := e
      obtain ⟨r1, r2, rfl, e1, e2⟩ := List.map_eq_append_iff.mp e
      cases r2 with
      | nil => cases e2
      | cons z r3 =>
        obtain ⟨z1, z2⟩ := z
        simp only [List.map_cons, List.cons.injEq, List.map_eq_nil_iff] at e2
        obtain ⟨rfl, rfl⟩ := e2
        exact ⟨q2, r1, z2, rfl, e1⟩
  have N' : News h₀ L h' ((s.heap.objs.size, listOf (Value.str Str.empty t0 :: (strValues lm ++ [Value.str Str.empty t1])).toArray 0) :: news) := by
    simpa [strValues] using N
  exact h _ t0 lm t1 h' k hlm (by rw [← hlm, List.length_map]) F N' fun p hp => Heap.lt_size (hN p hp).1
theorem item_led (N : News h₀ L s.heap news) (hm : (a, ({ cls := .type "list", data := .seq vs.toArray n } : Obj)) ∈ news) (h0 : 0 ≤ k) (hf : k < 2 ^ 63) (hx : vs[k.toNat]? = some v) (h : Q v s)
    (hs : subscripted slice false (.ref a) (.int k u) = operate [.ref a, .int k u] (getItem (.ref a) (.int k u)) := by with_unfolding_all rfl) (hg : ∀ r, letTemporaryGo value (.ref a) r = pure () := by intro _; with_unfolding_all rfl) :
    wpAny (model prog w) A (subscriptTail value slice (.ref a) (.int k u)) Q E s := item_listL (list_led N hm) h0 hf hx h hs hg
theorem last_led (N : News h₀ L s.heap news) (hm : (a, ({ cls := .type "list", data := .seq vs.toArray n } : Obj)) ∈ news) (hz : vs.length ≤ 100000) (hx : vs.getLast? = some v) (h : Q v s)
    (hs : subscripted slice false (.ref a) (.int (-1) u) = operate [.ref a, .int (-1) u] (getItem (.ref a) (.int (-1) u)) := by with_unfolding_all rfl) (hg : ∀ r, letTemporaryGo value (.ref a) r = pure () := by intro _; with_unfolding_all rfl) :
    wpAny (model prog w) A (subscriptTail value slice (.ref a) (.int (-1) u)) Q E s := by
  have hl := list_led N hm
  have hpos : 0 < vs.length := by
    cases vs with
    | nil => cases hx
    | cons _ _ => simp
  refine subscriptTail_builtin hl.typeIs slot_list_getitem.lookup (wpAny_getItem_list_neg hl (by decide) (by rw [List.size_toArray]; omega) (by decide) ?_ h) hs hg
  rw [List.getLast?_eq_getElem?] at hx
  rw [List.size_toArray]
  have e : (-1 + (vs.length : Int)).toNat = vs.length - 1 := by omega
  rw [e]
  simpa using hx
end
end Mine
end
section
open PySem PySem.W PySem.Calls PyProof.Rows PyProof.V PySem.Spec
set_option Elab.async false
set_option maxRecDepth 100000
namespace Mine
open PySem.Builtin.Str PySem.StrLaws

abbrev lst (x : Str) : List Nat := x.cps.toList
theorem lst_len (x : Str) : (lst x).length = x.length := by simp [Str.length]
theorem lst_inj {x y : Str} (h : lst x = lst y) : x = y := Str.ext' (Array.toList_inj.mp h)
theorem lst_append (x y : Str) : lst (x ++ y) = lst x ++ lst y := by simp [lst, Str.cps_append]
theorem lst_empty : lst Str.empty = [] := rfl

/-- pieces between dots -/
def dotted : List (List Nat) → List Nat
  | [] => []
  | [p] => p
  | p :: q :: r => p ++ [46, 46, 46] ++ dotted (q :: r)

theorem at_iff (x y : Str) (i : Nat) : At x y x.length i ↔ i + y.length ≤ x.length ∧ ((lst x).drop i).take y.length = lst y := by
  unfold At
  rw [subAt_eq, beq_iff_eq]

theorem dots_len : (Str.ofString "...").length = 3 := by decide
theorem dots_lst : lst (Str.ofString "...") = [46, 46, 46] := by decide

theorem chain_dotted (x : Str) : ∀ (ps : List (List Nat)) (pre : List Nat) (cuts : List Nat) (f : Nat), ps ≠ [] → (∀ p ∈ ps, 46 ∉ p) → lst x = pre ++ dotted ps →
    ChainG x (Str.ofString "...") x.length pre.length cuts f → (∀ k, f ≤ k → ¬ At x (Str.ofString "...") x.length k) → (partsFrom x 3 pre.length cuts).map lst = ps := by
  intro ps
  induction ps with
  | nil => intro pre cuts f h; exact absurd rfl h
  | cons p r ih =>
    intro pre cuts f _ hno hx hch hf
    have hp : 46 ∉ p := hno p (.head _)
    have hxl := lst_len x
    cases r with
    | nil =>
      have hx' : lst x = pre ++ p := hx
      cases cuts with
      | nil =>
        show [lst (strSub x pre.length x.length)] = [p]
        rw [lst, strSub_toList]
        rw [hx'] at hxl
        rw [show x.cps.toList = pre ++ p from hx', List.drop_left, List.take_of_length_le (by rw [← hxl]; simp)]
      | cons c cs =>
        exfalso
        obtain ⟨h1, h2, _, _⟩ := hch
        rw [at_iff, dots_len, dots_lst, hx'] at h2
        rw [hx', List.length_append] at hxl
        obtain ⟨h2, h3⟩ := h2
        have h4 : (List.take 3 (List.drop c (pre ++ p)))[0]? = some 46 := by rw [h3]; rfl
        rw [List.getElem?_take_of_lt (by omega), List.getElem?_drop, Nat.add_zero, List.getElem?_append_right h1] at h4
        exact hp (List.mem_of_getElem? h4)
    | cons q r =>
      have hx' : lst x = pre ++ (p ++ [46, 46, 46] ++ dotted (q :: r)) := hx
      have hAt : At x (Str.ofString "...") x.length (pre.length + p.length) := by
        rw [at_iff, dots_len, dots_lst, hx']
        refine ⟨by rw [← hxl, hx']; simp; omega, ?_⟩
        rw [show pre ++ (p ++ [46, 46, 46] ++ dotted (q :: r)) = (pre ++ p) ++ ([46, 46, 46] ++ dotted (q :: r)) by simp, ← List.length_append, List.drop_left]
        rfl
      cases cuts with
      | nil =>
        exfalso
        have e : f = pre.length := hch
        exact hf _ (by omega) hAt
      | cons c cs =>
        obtain ⟨h1, h2, h3, h4⟩ := hch
        have hc : c = pre.length + p.length := by
          rcases Nat.lt_trichotomy c (pre.length + p.length) with hlt | he | hgt
          · exfalso
            rw [at_iff, dots_len, dots_lst, hx'] at h2
            obtain ⟨h5, h6⟩ := h2
            have h7 : (List.take 3 (List.drop c (pre ++ (p ++ [46, 46, 46] ++ dotted (q :: r)))))[0]? = some 46 := by rw [h6]; rfl
            rw [List.getElem?_take_of_lt (by omega), List.getElem?_drop, Nat.add_zero, List.getElem?_append_right h1, List.append_assoc, List.getElem?_append_left (by omega)] at h7
            exact hp (List.mem_of_getElem? h7)
          · exact he
          · exact absurd hAt (h3 _ (by omega) hgt)
        subst hc
        show lst (strSub x pre.length (pre.length + p.length)) :: (partsFrom x 3 (pre.length + p.length + 3) cs).map lst = p :: q :: r
        have e1 : lst (strSub x pre.length (pre.length + p.length)) = p := by
          rw [lst, strSub_toList, show x.cps.toList = pre ++ (p ++ [46, 46, 46] ++ dotted (q :: r)) from hx', List.drop_left, List.append_assoc, show pre.length + p.length - pre.length = p.length by omega, List.take_left]
        have e2 := ih (pre ++ p ++ [46, 46, 46]) cs f (by simp) (fun z hz => hno z (.tail _ hz)) (by rw [hx']; simp) (by
          have e3 : (pre ++ p ++ [46, 46, 46]).length = pre.length + p.length + 3 := by simp; omega
          rw [e3]; rw [dots_len] at h4; exact h4) hf
        have e3 : (pre ++ p ++ [46, 46, 46]).length = pre.length + p.length + 3 := by simp; omega
        rw [e3] at e2
        rw [e1, e2]

theorem kind_dots (x : Str) : ¬ Builtin.Str.strKind x < Builtin.Str.strKind (Str.ofString "...") := by
  have : Builtin.Str.strKind (Str.ofString "...") = 1 := by decide +kernel
  rw [this]
  unfold Builtin.Str.strKind
  split
  · omega
  · split <;> omega

theorem split_dotted (x : Str) (p q : List Nat) (r : List (List Nat)) (hno : ∀ z ∈ p :: q :: r, 46 ∉ z) (hx : lst x = dotted (p :: q :: r)) :
    Txt.contains x (Str.ofString "...") = true ∧ (Txt.split x (Str.ofString "...")).map lst = p :: q :: r := by
  have hxl := lst_len x
  have hAt : At x (Str.ofString "...") x.length p.length := by
    rw [at_iff, dots_len, dots_lst, hx]
    refine ⟨by rw [← hxl, hx]; simp [dotted], ?_⟩
    rw [show dotted (p :: q :: r) = p ++ ([46, 46, 46] ++ dotted (q :: r)) by simp [dotted], List.drop_left]
    rfl
  have hc : Txt.contains x (Str.ofString "...") = true := by
    unfold Txt.contains
    exact (found_iff x _).mpr ⟨_, hAt.1, hAt.2⟩
  refine ⟨hc, ?_⟩
  obtain ⟨f, hG, hn⟩ := occ_tight x (Str.ofString "...") (by rw [dots_len]; decide)
  have hne : (occurrences x (Str.ofString "...") 0 x.length (x.length + 1)).isEmpty = false := by
    cases ho : occurrences x (Str.ofString "...") 0 x.length (x.length + 1) with
    | nil =>
      rw [ho] at hG
      have e : f = 0 := hG
      exact absurd hAt (hn _ (by omega))
    | cons _ _ => rfl
  unfold Txt.split
  have h1 : (decide (x.length < (Str.ofString "...").length) || decide (Builtin.Str.strKind x < Builtin.Str.strKind (Str.ofString "..."))) = false := by
    rw [Bool.or_eq_false_iff, decide_eq_false_iff_not, decide_eq_false_iff_not]
    refine ⟨?_, kind_dots x⟩
    have := hAt.1
    omega
  rw [h1, if_neg (by simp), hne, if_neg (by simp), partsBetween_eq, dots_len]
  exact chain_dotted x (p :: q :: r) [] _ f (by simp) hno hx hG hn

/-- what follows the first place of x in g -/
def after (x : List Nat) : List Nat → Option (List Nat)
  | [] => if x = [] then some [] else none
  | c :: t => if x.isPrefixOf (c :: t) then some ((c :: t).drop x.length) else after x t

theorem after_none {x : List Nat} : ∀ {g : List Nat}, after x g = none → ∀ i, ¬ (i + x.length ≤ g.length ∧ (g.drop i).take x.length = x)
  | [], h, i, hi => by
    have : x = [] := by
      cases x with
      | nil => rfl
      | cons a r => simp at hi
    rw [this] at h; cases h
  | c :: t, h, i, hi => by
    unfold after at h
    split at h
    · cases h
    · rename_i hp
      cases i with
      | zero =>
        apply hp
        rw [List.isPrefixOf_iff_prefix]
        refine List.prefix_iff_eq_take.mpr ?_
        rw [List.drop_zero] at hi; exact hi.2.symm
      | succ i =>
        refine after_none h i ⟨?_, ?_⟩
        · have := hi.1; simp at this; omega
        · simpa using hi.2
theorem after_some {x : List Nat} : ∀ {g r : List Nat}, after x g = some r → ∃ i, i + x.length ≤ g.length ∧ (g.drop i).take x.length = x ∧ (∀ k, k < i → ¬ (k + x.length ≤ g.length ∧ (g.drop k).take x.length = x)) ∧ r = g.drop (i + x.length)
  | [], r, h => by
    unfold after at h
    split at h
    · rename_i hx
      subst hx
      cases h
      exact ⟨0, by simp, by simp, fun k hk => absurd hk (Nat.not_lt_zero _), by simp⟩
    · cases h
  | c :: t, r, h => by
    unfold after at h
    split at h
    · rename_i hp
      cases h
      rw [List.isPrefixOf_iff_prefix] at hp
      have hle := hp.length_le
      exact ⟨0, by simpa using hle, by rw [List.drop_zero]; exact (List.prefix_iff_eq_take.mp hp).symm, fun k hk => absurd hk (Nat.not_lt_zero _), by rw [Nat.zero_add]⟩
    · rename_i hp
      obtain ⟨i, h1, h2, h3, h4⟩ := after_some h
      refine ⟨i + 1, by simp; omega, by simpa using h2, fun k hk => ?_, by rw [h4, show i + 1 + x.length = (i + x.length) + 1 by omega]; rfl⟩
      cases k with
      | zero =>
        intro hh
        apply hp
        rw [List.isPrefixOf_iff_prefix]
        refine List.prefix_iff_eq_take.mpr ?_
        rw [List.drop_zero] at hh; exact hh.2.symm
      | succ k =>
        intro hh
        refine h3 k (by omega) ⟨by have := hh.1; simp at this; omega, by simpa using hh.2⟩

theorem find3_after (G x : Str) (p : Int) (h0 : 0 ≤ p) (h1 : p ≤ (G.length : Nat)) :
    match after (lst x) ((lst G).drop p.toNat) with
    | none => Txt.find3 G x p < 0
    | some r => 0 ≤ Txt.find3 G x p ∧ r = (lst G).drop (Txt.find3 G x p + (x.length : Nat)).toNat ∧ Txt.find3 G x p + (x.length : Nat) ≤ (G.length : Nat) := by
  have e : fromIndex G.length p = p.toNat := by
    unfold fromIndex
    rw [if_neg (by omega)]; omega
  have hxl := lst_len x
  have hgl := lst_len G
  have key : ∀ i, At G x G.length (p.toNat + i) ↔ (i + (lst x).length ≤ ((lst G).drop p.toNat).length ∧ (((lst G).drop p.toNat).drop i).take (lst x).length = lst x) := by
    intro i
    rw [at_iff, List.length_drop, List.drop_drop, hxl, hgl]
    constructor
    · rintro ⟨a, b⟩; exact ⟨by omega, b⟩
    · rintro ⟨a, b⟩; exact ⟨by omega, b⟩
  have hf : Txt.find3 G x p = match occurrences G x p.toNat G.length 1 with | k :: _ => (k : Int) | [] => -1 := by
    unfold Txt.find3; rw [e]
    cases occurrences G x p.toNat G.length 1 <;> rfl
  rcases occ_head_from G x p.toNat 1 (Nat.le_refl 1) with ⟨h2, h3⟩ | ⟨i, r, h2, h3, h4, h5⟩
  · rw [h2] at hf
    cases ha : after (lst x) ((lst G).drop p.toNat) with
    | none => show Txt.find3 G x p < 0; rw [hf]; decide
    | some r =>
      exfalso
      obtain ⟨i, a1, a2, _, _⟩ := after_some ha
      exact h3 (p.toNat + i) (by omega) ((key i).mpr ⟨a1, a2⟩)
  · rw [h2] at hf
    have hi : i = p.toNat + (i - p.toNat) := by omega
    cases ha : after (lst x) ((lst G).drop p.toNat) with
    | none =>
      exfalso
      rw [hi] at h4
      exact after_none ha _ ((key _).mp h4)
    | some q =>
      obtain ⟨j, a1, a2, a3, a4⟩ := after_some ha
      have hij : i - p.toNat = j := by
        rcases Nat.lt_trichotomy (i - p.toNat) j with hlt | he | hgt
        · rw [hi] at h4
          exact absurd ((key _).mp h4) (a3 _ hlt)
        · exact he
        · exact absurd ((key j).mpr ⟨a1, a2⟩) (h5 _ (by omega) (by omega))
      have hfi : Txt.find3 G x p = (i : Int) := hf
      have hb := h4.1
      show 0 ≤ Txt.find3 G x p ∧ q = (lst G).drop (Txt.find3 G x p + (x.length : Nat)).toNat ∧ Txt.find3 G x p + (x.length : Nat) ≤ (G.length : Nat)
      rw [hfi]
      refine ⟨by omega, ?_, by omega⟩
      rw [a4, List.drop_drop]
      congr 1
      omega

def chase (G : Str) : List Str → Int → Bool
  | [], _ => true
  | x :: r, p => if Txt.find3 G x p < 0 then false else chase G r (Txt.find3 G x p + (x.length : Nat))
def chaseL : List (List Nat) → List Nat → Bool
  | [], _ => true
  | x :: r, g => match after x g with
    | none => false
    | some g' => chaseL r g'
theorem chase_eq (G : Str) : ∀ (xs : List Str) (p : Int), 0 ≤ p → p ≤ (G.length : Nat) → chase G xs p = chaseL (xs.map lst) ((lst G).drop p.toNat)
  | [], _, _, _ => rfl
  | x :: r, p, h0, h1 => by
    have h := find3_after G x p h0 h1
    show (if Txt.find3 G x p < 0 then false else chase G r (Txt.find3 G x p + (x.length : Nat))) = (match after (lst x) ((lst G).drop p.toNat) with | none => false | some g' => chaseL (r.map lst) g')
    cases ha : after (lst x) ((lst G).drop p.toNat) with
    | none =>
      rw [ha] at h
      have h' : Txt.find3 G x p < 0 := h
      rw [if_pos h']
    | some q =>
      rw [ha] at h
      obtain ⟨h2, h3, h4⟩ : 0 ≤ Txt.find3 G x p ∧ q = (lst G).drop (Txt.find3 G x p + (x.length : Nat)).toNat ∧ Txt.find3 G x p + (x.length : Nat) ≤ (G.length : Nat) := h
      rw [if_neg (by omega), chase_eq G r _ (by omega) h4, h3]
theorem after_nil (g : List Nat) : after [] g = some g := by
  cases g <;> simp [after]
theorem chaseL_mid (mid : List (List Nat)) (g : List Nat) : chaseL ([] :: (mid ++ [[]])) g = chaseL mid g := by
  show (match after [] g with | none => false | some g' => chaseL (mid ++ [[]]) g') = _
  rw [after_nil]
  show chaseL (mid ++ [[]]) g = chaseL mid g
  induction mid generalizing g with
  | nil => show (match after [] g with | none => false | some g' => chaseL [] g') = _; rw [after_nil]
  | cons x r ih =>
    show (match after x g with | none => false | some g' => chaseL (r ++ [[]]) g') = (match after x g with | none => false | some g' => chaseL r g')
    cases after x g with
    | none => rfl
    | some q => exact ih q
/-- x stands somewhere in g -/
def inB (x g : List Nat) : Bool := (after x g).isSome
theorem chaseL_one (x g : List Nat) : chaseL [x] g = inB x g := by
  show (match after x g with | none => false | some g' => chaseL [] g') = _
  unfold inB
  cases after x g <;> rfl
theorem starts_eq (G q : Str) : Txt.startswith G q = (lst q).isPrefixOf (lst G) := by
  have h := at_iff G q 0
  unfold At at h
  unfold Txt.startswith
  rw [Bool.eq_iff_iff, Bool.and_eq_true, decide_eq_true_eq, List.isPrefixOf_iff_prefix]
  rw [h, List.drop_zero, List.prefix_iff_eq_take, lst_len]
  constructor
  · rintro ⟨_, b⟩; exact b.symm
  · intro b
    refine ⟨?_, b.symm⟩
    have := congrArg List.length b
    rw [List.length_take, lst_len, lst_len] at this
    omega
end Mine
end
section
open PySem PySem.W PySem.Calls PyProof.Rows PyProof.V PySem.Spec
set_option Elab.async false
set_option maxRecDepth 100000
namespace Mine
section
open PySem.Builtin PySem.Builtin.Re
theorem rx_plain : PlainAttrs "re.Pattern" :=
  ⟨⟨"object.__getattribute__", by rw [typeLookup_type, builtinLookup_eq_fast]; kernel_rfl, by decide +kernel⟩, by rw [typeLookup_type, builtinLookup_eq_fast]; kernel_rfl⟩
theorem rx_slot : Slot "re.Pattern" "search" "re.Pattern.search" :=
  .of (owner := "re.Pattern") (n := "search") (by rw [typeLookup_type, builtinLookup_eq_fast]; kernel_rfl) (by decide +kernel) (by decide +kernel) (by decide +kernel)
    (by first | exact .inl (by decide +kernel) | exact .inr (by decide +kernel)) (by rw [isSubtype_type]; kernel_rfl)
theorem rx_type : typeOf (.builtin "re.Pattern.search") = pure (.type "method_descriptor") := by show builtinType _ = _; rw [builtinType_eq_fast]; kernel_rfl
theorem rx_entry : entryFor table "re.Pattern.search" = some Builtin.«re.Pattern.search» := entryFor_of_tree (by kernel_rfl)
theorem rx_args (a b : Value) : argsOk "re.Pattern.search" ⟨[a, b], []⟩ := by unfold argsOk; kernel_rfl

def codeN : Array Nat := #[14, 10, 4, 1, 1, 22, 0, 31, 16, 127, 0, 13, 7, 22, 0, 31, 16, 127, 0, 1]
def codeV : Array Nat := #[14, 14, 4, 1, 1, 9, 4294966783, 0, 0, 2147483648, 0, 0, 0, 0, 0, 13, 11, 9, 4294966783, 0, 0, 2147483648, 0, 0, 0, 0, 0, 1]
def NoHit (code : Array Nat) (c : Nat) : Prop := ∀ seen, ∃ seen', Sre.inSet code c code.size 5 true seen = .ok (false, seen')
theorem noHitN {c : Nat} (h1 : 32 < c) (h2 : c < 127) : NoHit codeN c := by
  intro seen
  have a1 : (decide (0 ≤ c) && decide (c ≤ 31)) = false := by simp; omega
  have a2 : (c == 127) = false := by simp; omega
  refine ⟨((seen.add 22).add 16).add 0, ?_⟩
  show (if (decide (0 ≤ c) && decide (c ≤ 31)) = true then _ else (if (c == 127) = true then _ else _)) = _
  rw [a1, a2]
  rfl
theorem noHitV {c : Nat} (h1 : 32 < c) (h2 : c < 127) : NoHit codeV c := by
  intro seen
  have a1 : (decide (c < 256) && (codeV.getD (5 + (1 + c / 32)) 0).testBit (c % 32)) = false := by
    rw [Bool.and_eq_false_iff]
    right
    rcases (by omega : c / 32 = 1 ∨ c / 32 = 2 ∨ c / 32 = 3) with e | e | e
    · rw [e]; show Nat.testBit 0 _ = false; exact Nat.zero_testBit _
    · rw [e]; show Nat.testBit 0 _ = false; exact Nat.zero_testBit _
    · rw [e]
      show Nat.testBit 2147483648 _ = false
      rw [show (2147483648 : Nat) = 2 ^ 31 from rfl, Nat.testBit_two_pow]
      simp; omega
  refine ⟨(seen.add 9).add 0, ?_⟩
  show (if (decide (c < 256) && (codeV.getD (5 + (1 + c / 32)) 0).testBit (c % 32)) = true then _ else _) = _
  rw [a1]
  rfl
theorem admitted_none (m : Sre.M) (h : ∀ s, s < m.lim → NoHit m.code (m.text.getD s 0)) : ∀ fuel s seen, ∃ seen', Sre.M.admitted m fuel s seen = .ok (none, seen')
  | 0, _, seen => ⟨seen, rfl⟩
  | fuel + 1, s, seen => by
    unfold Sre.M.admitted
    split
    · exact ⟨seen, rfl⟩
    · rename_i hs
      obtain ⟨seen', e⟩ := h s (by omega) seen
      rw [e]
      exact admitted_none m h fuel (s + 1) seen'
def m0 (code text : Array Nat) (pc : Nat) : Sre.M :=
  { code, text, lim := text.size, start := 0, pc, pos := 0, handed := 0, marks := Array.replicate (2 * 0) none, mustAdvance := false, seen := ({} : Sre.Seen).add 14 }
theorem attempt_none (code text : Array Nat) (pc : Nat) (hf : (m0 code text pc).hasFirstSet = true) (hc : ∀ s, s < text.size → NoHit code (text.getD s 0)) :
    ∃ m, Sre.M.attemptFrom { m0 code text pc with lastStart := text.size } 0 true = m ∧ m.answer = some false ∧ m.frames = [] ∧ m.outcome = none := by
  obtain ⟨seen', e⟩ := admitted_none { m0 code text pc with lastStart := text.size } hc (text.size + 1 - 0) 0 (({} : Sre.Seen).add 14)
  refine ⟨_, rfl, ?_⟩
  have e1 : Sre.M.attemptFrom { m0 code text pc with lastStart := text.size } 0 true = ({ { m0 code text pc with lastStart := text.size } with seen := seen' } : Sre.M).say false := by
    unfold Sre.M.attemptFrom
    have hf' : ({ m0 code text pc with lastStart := text.size } : Sre.M).hasFirstSet = true := hf
    rw [hf']
    show (match Sre.M.admitted { m0 code text pc with lastStart := text.size } (text.size + 1 - 0) 0 (({} : Sre.Seen).add 14) with
      | .ok (some s, seen) => _
      | .ok (none, seen) => ({ { m0 code text pc with lastStart := text.size } with seen } : Sre.M).say false
      | .error why => _) = _
    rw [e]
  rw [e1]
  exact ⟨rfl, rfl, rfl⟩
theorem search_N (text : Array Nat) (hc : ∀ s, s < text.size → NoHit codeN (text.getD s 0)) : ∃ m, Sre.forSearch codeN text 0 0 text.size false = m ∧ m.answer = some false ∧ m.frames = [] ∧ m.outcome = none := by
  have e : Sre.forSearch codeN text 0 0 text.size false = if (decide (0 > text.size) || decide (text.size - 0 < 1)) = true then (m0 codeN text 11).say false else Sre.M.attemptFrom { m0 codeN text 11 with lastStart := text.size } 0 true := rfl
  rw [e]
  split
  · exact ⟨_, rfl, rfl, rfl, rfl⟩
  · exact attempt_none codeN text 11 rfl hc
theorem search_V (text : Array Nat) (hc : ∀ s, s < text.size → NoHit codeV (text.getD s 0)) : ∃ m, Sre.forSearch codeV text 0 0 text.size false = m ∧ m.answer = some false ∧ m.frames = [] ∧ m.outcome = none := by
  have e : Sre.forSearch codeV text 0 0 text.size false = if (decide (0 > text.size) || decide (text.size - 0 < 1)) = true then (m0 codeV text 15).say false else Sre.M.attemptFrom { m0 codeV text 15 with lastStart := text.size } 0 true := rfl
  rw [e]
  split
  · exact ⟨_, rfl, rfl, rfl, rfl⟩
  · exact attempt_none codeV text 15 rfl hc

section
variable {prog : Program} {w : World} {A : Around} {E : Value → Shared → Prop} {s : Shared}
theorem drive_done {M : Model} {m : Sre.M} {Q : Sre.M → Shared → Prop} {n : Nat} (h1 : m.answer = some false) (h2 : m.frames = []) (h3 : m.outcome = none) (h : ∀ m' : Sre.M, m'.outcome = some .failed → Q m' s) : wpAny M A (reDrive (n + 1) m) Q E s := by
  have e : m.runFor reTurnSteps = { m with outcome := some .failed } := by
    show (if m.outcome.isSome = true then m else Sre.M.runFor 3 m.step) = _
    rw [h3]
    have es : m.step = { m with outcome := some .failed } := by
      unfold Sre.M.step
      rw [h3, h1, h2]
      rfl
    rw [es]
    rfl
  unfold reDrive
  dsimp only
  rw [e]
  show wpAny M A (if (some Sre.Outcome.failed : Option Sre.Outcome).isSome = true then _ else _) Q E s
  rw [if_pos (show (some Sre.Outcome.failed : Option Sre.Outcome).isSome = true from rfl)]
  exact wpAny_pure (h { m with outcome := some .failed } rfl)
theorem rules_done {M : Model} {l : List Nat} {body : Nat → PUnit → Sem (ForInStep PUnit)} {Q : PUnit → Shared → Prop} (hb : ∀ i (Q : ForInStep PUnit → Shared → Prop), Q (.yield ⟨⟩) s → wpAny M A (body i ⟨⟩) Q E s) (h : Q ⟨⟩ s) :
    wpAny M A (forIn l PUnit.unit body) Q E s := by
  induction l with
  | nil => exact wpAny_pure h
  | cons a r ih =>
    rw [List.forIn_cons]
    exact wpAny_bind (hb a _ ih)
theorem runToEnd_none {M : Model} {m : Sre.M} {Q : Option Sre.M → Shared → Prop} (h1 : m.answer = some false) (h2 : m.frames = []) (h3 : m.outcome = none) (h : Q none s) : wpAny M A (reRunToEnd m) Q E s := by
  unfold reRunToEnd
  rw [show (2 ^ 64 : Nat) = 18446744073709551615 + 1 from rfl]
  refine wpAny_bind (drive_done h1 h2 h3 fun m' hm => ?_)
  refine wpAny_bind (rules_done (fun i Q hq => ?_) ?_)
  · split
    · repeat (first | exact wpAny_pure hq | refine wpAny_bind ?_ | refine wpAny_rule ?_)
    · repeat (first | exact wpAny_pure hq | refine wpAny_bind ?_ | refine wpAny_rule ?_)
  rw [hm]
  exact wpAny_pure h

theorem answer_none {M : Model} {tt : ReTarget} {code text : Array Nat} {R : Result → Shared → Prop} {E : Value → Shared → Prop} (e1 : tt.code = code) (e2 : tt.text = text) (e3 : tt.groups = 0) (e4 : tt.pos = 0) (e5 : tt.lim = text.size)
    (hno : ∃ m, Sre.forSearch code text 0 0 text.size false = m ∧ m.answer = some false ∧ m.frames = [] ∧ m.outcome = none) (h' : R (.ok (.ret .none)) s) :
    wpAny M A (reAnswer tt (Sre.forSearch tt.code tt.text tt.groups tt.pos tt.lim false)) (fun fin s' => ∃ v, fin = Fin.done (Flow.ret v) ∧ R (Except.ok (Flow.ret v)) s') E s := by
  obtain ⟨mm, em, a1, a2, a3⟩ := hno
  unfold reAnswer
  rw [e1, e2, e3, e4, e5, em]
  exact wpAny_bind (runToEnd_none a1 a2 a3 (wpAny_pure ⟨_, rfl, h'⟩))
/-- the rule: a compiled pattern that finds nothing -/
theorem search_rule {P C : Addr} {oP oC : Obj} {pv fl gi ix : Value} {x : Str} {t : Tok} {cs : Array Value} {code : Array Nat} {n : Nat} {Q : Value → Shared → Prop} {z0 z1 : Tok}
    (hP : s.heap.get? P = some oP) (hPc : oP.cls = .type "re.Pattern") (hPd : oP.data = .fields #[pv, fl, .int 0 z0, gi, ix, .ref C, .int 0 z1]) (hC : s.heap.get? C = some oC) (hCd : oC.data = .seq cs n)
    (hcode : (cs.map reRawOf).map (·.toNat) = code) (hno : ∃ m, Sre.forSearch code x.cps 0 0 x.cps.size false = m ∧ m.answer = some false ∧ m.frames = [] ∧ m.outcome = none) (hx : x.length ≤ 1000)
    (h : Q .none s) : wpAny (model prog w) A (call (.builtin "re.Pattern.search") [.ref P, .str x t]) Q E s := by
  refine call_meetsIn (S := fun _ R s' => s'.heap.get? P = some oP ∧ s'.heap.get? C = some oC ∧ R (.ok (.ret .none)) s') rx_slot ⟨oP, hP, hPc⟩ rx_entry (rx_args _ _) (.of_wp fun A R s' ⟨hP', hC', h'⟩ => ?_) ⟨hP, hC, h⟩
  unfold Builtin.«re.Pattern.search»
  refine wpAny_bind ?_
  unfold reTarget
  dsimp only
  refine wpAny_bind (m := reNamed _ _ _ _ _ _) (wpAny_pure ?_)
  refine wpAny_bind (m := (pure 0 : Sem Int)) (wpAny_pure ?_)
  refine wpAny_bind (m := (pure (2 ^ 63 - 1) : Sem Int)) (wpAny_pure ?_)
  refine wpAny_bind (m := fieldsOf (Value.ref P)) ?_
  unfold fieldsOf
  refine wpAny_bind (wpAny_load hP' ?_)
  rw [hPd]
  refine wpAny_pure ?_
  refine wpAny_bind (m := reTextOf (Value.str x t)) ?_
  unfold reTextOf
  refine wpAny_bind (m := asStr? (Value.str x t)) (wpAny_pure ?_)
  refine wpAny_pure ?_
  refine wpAny_bind (m := reNoCollectionInside (Value.str x t) 0) (wpAny_pure ?_)
  refine wpAny_bind (m := reRawItems (Value.ref C)) ?_
  unfold reRawItems
  refine wpAny_bind (m := seqItems? (Value.ref C)) ?_
  unfold seqItems?
  refine wpAny_bind (wpAny_load hC' ?_)
  rw [hCd]
  refine wpAny_pure ?_
  refine wpAny_pure ?_
  refine wpAny_pure ?_
  obtain ⟨mm, em, a1, a2, a3⟩ := hno
  have hl : Min.min (2 ^ 63 - 1 : Int).toNat x.cps.size = x.cps.size := by
    have : x.cps.size ≤ 1000 := hx
    show min 9223372036854775807 _ = _
    omega
  have hp0 : Min.min (Int.toNat 0) x.cps.size = 0 := Nat.zero_min _
  exact answer_none (code := code) hcode rfl rfl hp0 hl ⟨mm, em, a1, a2, a3⟩ h'
theorem search_meth {P : Addr} {oP : Obj} {pl : Sem Bool} {Q : Value × List Value → Shared → Prop} (hP : s.heap.get? P = some oP) (hPc : oP.cls = .type "re.Pattern") (hPn : oP.dict = none)
    (h : Q (.builtin "re.Pattern.search", [.ref P]) s) : wpAny (model prog w) A (getMethod (.ref P) "search" pl) Q E s :=
  getMethod_builtin ⟨oP, hP, hPc⟩ rx_plain rx_slot rx_type (fun a e => by cases e; exact ⟨oP, hP, hPn⟩) h
end
end
end Mine
end
section
open PySem PySem.W PySem.Calls PyProof.Rows PyProof.V PySem.Spec
set_option Elab.async false
set_option maxRecDepth 100000
namespace Mine
/-- letters a, b and c -/
def Abc (x : Str) : Prop := ∀ c ∈ lst x, c = 97 ∨ c = 98 ∨ c = 99
theorem up_lst {x : Str} (h : Abc x) : lst (Txt.upper x) = (lst x).map (· - 32) := by
  show ((x.cps.mapIdx fun i c => (PySem.Unicode.upperOf c).toArray).flatten).toList = _
  have h1 : (x.cps.mapIdx fun i c => (PySem.Unicode.upperOf c).toArray) = (x.cps.map fun c => #[c - 32]) := by
    apply Array.ext
    · simp
    · intro i hi hi2
      have hi3 : i < x.cps.size := by simpa using hi
      simp only [Array.getElem_mapIdx, Array.getElem_map]
      rcases h _ (show x.cps[i] ∈ lst x from Array.getElem_mem_toList hi3) with e | e | e <;> rw [e] <;> decide +kernel
  rw [h1]
  simp only [Array.toList_flatten, Array.toList_map, List.map_map]
  show (List.map (fun c => [c - 32]) x.cps.toList).flatten = x.cps.toList.map (· - 32)
  generalize x.cps.toList = l
  induction l with
  | nil => rfl
  | cons a r ih => simp [ih]
def lowc (c : Nat) : Nat := if c < 97 then c + 32 else c
theorem low_lst {x : Str} (h : ∀ c ∈ lst x, c = 65 ∨ c = 66 ∨ c = 67 ∨ c = 97 ∨ c = 98 ∨ c = 99) : lst (Txt.lower x) = (lst x).map lowc := by
  show ((x.cps.mapIdx fun i c => (PySem.Unicode.lowerAt x.cps i).toArray).flatten).toList = _
  have h1 : (x.cps.mapIdx fun i c => (PySem.Unicode.lowerAt x.cps i).toArray) = (x.cps.map fun c => #[lowc c]) := by
    apply Array.ext
    · simp
    · intro i hi hi2
      have hi3 : i < x.cps.size := by simpa using hi
      simp only [Array.getElem_mapIdx, Array.getElem_map]
      have hm := h _ (show x.cps[i] ∈ lst x from Array.getElem_mem_toList hi3)
      unfold PySem.Unicode.lowerAt
      rw [Array.getElem?_eq_getElem hi3]
      generalize x.cps[i] = c at hm
      have hne : (c == 0x3A3) = false := by
        rcases hm with e | e | e | e | e | e <;> rw [e] <;> rfl
      simp only [hne, Bool.false_and, Bool.false_eq_true, if_false]
      rcases hm with e | e | e | e | e | e <;> rw [e] <;> decide +kernel
  rw [h1]
  simp only [Array.toList_flatten, Array.toList_map, List.map_map]
  show (List.map (fun c => [lowc c]) x.cps.toList).flatten = x.cps.toList.map lowc
  generalize x.cps.toList = l
  induction l with
  | nil => rfl
  | cons a r ih => simp [ih]
theorem low_abc {x : Str} (h : Abc x) : Txt.lower x = x := by
  apply lst_inj
  rw [low_lst fun c hc => by rcases h c hc with e | e | e <;> simp [e]]
  conv => rhs; rw [← List.map_id (lst x)]
  apply List.map_congr_left
  intro c hc
  rcases h c hc with e | e | e <;> rw [e] <;> rfl
theorem up_len {x : Str} (h : Abc x) : (Txt.upper x).length = x.length := by
  rw [← lst_len, ← lst_len, up_lst h, List.length_map]
theorem Abc.chars {x : Str} (h : Abc x) : ∀ c ∈ lst x, 32 < c ∧ c < 127 := fun c hc => by
  rcases h c hc with e | e | e <;> rw [e] <;> decide
theorem Abc.nodot {x : Str} (h : Abc x) : 46 ∉ lst x := fun hc => by
  rcases h 46 hc with e | e | e <;> cases e
end Mine
end
section
open PySem PySem.W PySem.Calls PyProof.Rows PyProof.V PySem.Spec
set_option Elab.async false
set_option maxRecDepth 100000
namespace Mine
section
variable {prog : Program} {w : World} {A : Around} {s : Shared} {h₀ : Heap} {L : Addr} {m : Str → Option Value} {news : List (Addr × Obj)} {K : Frag} {p : Program} {loose : List Str} {mean : ExcName → Option Value} {mg mb : Str → Option Value}
  {R : Result → Shared → Prop} {name qual : Str} {params : Arguments} {body : List Stmt} {scope : Scope} {dV kV doc pm cdv ct oc : Value} {an od : Option Addr} {osl : Array (Option Value)} {f : Addr} {args : Args} {binds : List (Str × Value)}
theorem code_in (F : Fr h₀ L s.heap m) (N : News h₀ L s.heap news) (X : K.In h₀) (T : Top p loose mean mg mb h₀)
    (ho : K.lookup f = some ⟨oc, od, .func (fnOf name qual params body scope dV kV doc pm an cdv ct), osl⟩) (hcd : codeIn K cdv qual = true) (hroom : A.depth < recursionLimit)
    (hbind : BindsTo s (fnOf name qual params body scope dV kV doc pm an cdv ct) args binds) (hloc : ∀ y ∈ binds, scope.names.lookup y.1 = some .local)
    (hcell : ∀ x ∈ scope.names, x.2 ≠ .cell) (hco : scope.isCoroutine = false) (hgen : scope.isGenerator = false) (hk : scope.kind = .function)
    (h : ∀ g L' h₁, Fr g L' h₁ (fun y => binds.reverse.lookup y) → News g L' h₁ news → K.In g → Top p loose mean mg mb g → h₀.StaysIn g →
      wpAny (model prog w) (A.deeper (envOf qual scope L' f cdv)) (execs body (envOf qual scope L' f cdv))
        (fun fl s' => LeaveK h₀ L m g R (match fl with | .ret v => v | _ => .none) s') (fun _ _ => False) { s with heap := h₁, toks := s.toks + binds.length }) :
    codeAny (model prog w) A (.call (.ref f) args) R s := by
  refine codeAny_call_def (fd := fnOf name qual params body scope dV kV doc pm an cdv ct) (body := body) (binds := binds) hroom ((X.keeps F.keep) _ _ ho) rfl (T.nolimit.keeps F.keep) (codeRec_of (X.keeps F.keep) hcd) rfl hbind hcell hloc (fun h₁ hns hk₁ => ?_) hco hgen hk
  have nm : ∀ b o, h₀.get? b = some o → b ∉ news.map (·.1) := fun b o e q => by
    obtain ⟨p, hp, rfl⟩ := List.mem_map.mp q
    rw [(N p hp).2.2] at e; cases e
  have st : h₀.StaysIn (hideAll s.heap (news.map (·.1))) := fun b o e => hideAll_get _ (F.keep b o e) (nm b o e)
  obtain ⟨oL, es, ep, hL, hLd, hLk, hLf⟩ := F.ns
  have nL : L ∉ news.map (·.1) := fun q => by
    obtain ⟨p, hp, e⟩ := List.mem_map.mp q
    exact (N p hp).2.1 e
  have hLg := hideAll_get (news.map (·.1)) hL nL
  refine wpAny_mono (h (hideAll s.heap (news.map fun (q : Addr × Obj) => q.1)) s.heap.objs.size h₁ ⟨hns, fun b o e => hk₁ b o (of_hideAll _ e), Nat.le_of_eq (hideAll_size _ _)⟩
    (fun p hp => ⟨hk₁ _ _ (N p hp).1, Nat.ne_of_lt (Heap.lt_size (N p hp).1), hideAll_none _ (List.mem_map_of_mem hp)⟩) (X.keeps (fun b o e => st b o e)) (T.keeps (fun b o e => st b o e)) st) (fun fl s' hl => ?_) fun _ _ y => y.elim
  obtain ⟨L', m', news', F', N', k⟩ := hl
  refine k ⟨⟨oL, es, ep, F'.keep L oL hLg, hLd, hLk, hLf⟩, fun b o e => F'.keep b o (st b o e), F.above⟩ fun p hp => ⟨(N' p hp).1, fun q => ?_, ?_⟩
  · have := (N' p hp).2.2; rw [q, hLg] at this; cases this
  · cases q : h₀.get? p.1 with
    | none => rfl
    | some o => have := (N' p hp).2.2; rw [st _ _ q] at this; cases this
end
section
variable {prog : Program} {w : World} {dp un : Nat} {fr : List Env} {gd : Option (List Code)} {E Q : Value → Shared → Prop} {s : Shared} {h₀ : Heap} {L : Addr} {m : Str → Option Value} {news : List (Addr × Obj)} {K : Frag} {p : Program} {loose : List Str} {mean : ExcName → Option Value} {mg mb : Str → Option Value}
  {name qual : Str} {params : Arguments} {body : List Stmt} {scope : Scope} {dV kV doc pm cdv ct oc : Value} {an od : Option Addr} {osl : Array (Option Value)} {f C : Addr} {args : List Value} {kw : List (Str × Value)} {binds : List (Str × Value)}
def RQ (E Q : Value → Shared → Prop) (r : Result) (s' : Shared) : Prop := match r with | .ok (.ret v) => Q v s' | .ok _ => False | .error e => E e s'
/-- a call in which what the caller holds may change -/
theorem call_in (F : Fr h₀ L s.heap m) (N : News h₀ L s.heap news) (X : K.In h₀) (T : Top p loose mean mg mb h₀)
    (ho : K.lookup f = some ⟨oc, od, .func (fnOf name qual params body scope dV kV doc pm an cdv ct), osl⟩) (hcd : codeIn K cdv qual = true) (hroom : dp < recursionLimit)
    (hbind : BindsTo s (fnOf name qual params body scope dV kV doc pm an cdv ct) ⟨args, kw⟩ binds) (hloc : ∀ y ∈ binds, scope.names.lookup y.1 = some .local)
    (hcell : ∀ x ∈ scope.names, x.2 ≠ .cell) (hco : scope.isCoroutine = false) (hgen : scope.isGenerator = false) (hk : scope.kind = .function)
    (h : ∀ g L' h₁, Fr g L' h₁ (fun y => binds.reverse.lookup y) → News g L' h₁ news → K.In g → Top p loose mean mg mb g → h₀.StaysIn g →
      wpAny (model prog w) (amb (dp + 1) (un + 3) (envOf qual scope L' f cdv :: fr) gd) (execs body (envOf qual scope L' f cdv))
        (fun fl s' => LeaveK h₀ L m g (RQ E Q) (match fl with | .ret v => v | _ => .none) s') (fun _ _ => False) { s with heap := h₁, toks := s.toks + binds.length }) :
    wpAny (model prog w) (amb dp un fr gd) (call (.ref f) args kw) Q E s :=
  wpAny_call (code_in (A := amb dp un fr gd) (R := RQ E Q) F N X T ho hcd hroom hbind hloc hcell hco hgen hk h)
end
end Mine
end
section
open PySem PySem.W PySem.Calls PyProof.Rows PyProof.V PySem.Spec
set_option Elab.async false
set_option maxRecDepth 100000
namespace Mine
open PySem.Builtin.Str
theorem slice_ab {x : Str} {a b : Int} (h0 : 0 ≤ a) (h1 : a ≤ b) (h2 : b ≤ x.length) : lst (Txt.slice x (some a) (some b)) = ((lst x).drop a.toNat).take (b - a).toNat := by
  rw [eq_of_beq (slice_closesL h0 h1 h2)]
theorem Abc.of {x : Str} {l : List Nat} (h : ∀ c ∈ l, c = 97 ∨ c = 98 ∨ c = 99) (e : ∀ c ∈ lst x, c ∈ l) : Abc x := fun c hc => h c (e c hc)
end Mine
end
section
open PySem PySem.W PySem.Calls PyProof.Rows PyProof.V PySem.Spec
set_option Elab.async false
set_option maxRecDepth 100000
namespace Mine
section
variable {prog : Program} {w : World} {A : Around} {E : Value → Shared → Prop} {s : Shared} {env : Env} {h₀ : Heap} {target : Expr} {body : List Stmt} {Q : Flow → Shared → Prop}
theorem letGo_rangeiter {Q' : Unit → Shared → Prop} {s' : Shared} {I : Addr} {x l st : Int} {v : Value} (hit : IsRangeIter s'.heap I x l st) (h : Q' () s') : wpAny (model prog w) A (letOwnedTupleGo target (.ref I) v) Q' E s' := by
  unfold letOwnedTupleGo
  cases target <;> first
    | exact wpAny_pure h
    | (cases v <;> first
        | exact wpAny_pure h
        | (refine wpAny_bind (wpAny_load hit ?_)
           exact wpAny_pure h))
theorem it_range {σ : Type} {r : Addr} {n : Nat} {t0 u0 v0 : Tok} {m₀ : Str → Option Value} {keep led₀ : List (Addr × Obj)}
    (Led : σ → List (Addr × Obj)) (ps : σ → List (Str × Value)) (Facts : Nat → σ → Prop) (nm : List Str)
    (hh : A.handled = none) (hr : IsRange s.heap r 0 (n : Int) 1 t0 u0 v0) (hn : n ≤ 100000)
    (F : Fr h₀ env.locals s.heap m₀) (N : News h₀ env.locals s.heap led₀) (hkeep : ∀ c, InLed (Led c) keep) (start : ∃ c₀ : σ, Led c₀ = led₀ ∧ Facts 0 c₀ ∧ PsAre m₀ (ps c₀))
    (turn : ∀ I (i : Nat) (c : σ) t (u : Str → Option Value) h₁ tk₁ oI, i < n → Facts i c → AllLt I led₀ → AllNe I (Led c) → Fr h₀ env.locals h₁ (fmap nm u m₀ (ps c)) → News h₀ env.locals h₁ ((I, oI) :: Led c) →
      wpAny (model prog w) A (assign target env (.int i t)) (fun _ s₂ => wpAny (model prog w) A (execs body env) (LPost h₀ env.locals I oI (SJ Led ps Facts nm m₀ (i + 1)) { s with heap := h₁, toks := tk₁ } Q) E s₂) E { s with heap := h₁, toks := tk₁ })
    (done : ∀ (c : σ) (u : Str → Option Value) h' tk, Facts n c → Fr h₀ env.locals h' (fmap nm u m₀ (ps c)) → News h₀ env.locals h' (Led c) → Q .next { s with heap := h', toks := tk }) :
    wpAny (model prog w) A (pyIter (.ref r)) (fun it s₂ => TurnsAt prog w A h₀ env target body Q E it s₂) E s := by
  refine wpAny_pyIter_range hr (small_one (by decide) (by omega) (by omega) (by omega)) ?_
  have hsz : Builtin.Range.rangeSize 0 (n : Int) 1 = (n : Int) := by rw [rangeSize_nat]; omega
  refine turns_S (tk0 := s.toks) (n := n) (keep := keep) (fp := []) Led ps Facts nm (KTurns.ofWalks (Walks.range hh s.heap.objs.size 0 1 n) fun i v s Q E st q => letGo_rangeiter st q)
    (fun i h st => ⟨_, st⟩) (next_is_new F) (Nat.ne_of_lt F.ns.lt) (fun h => nomatch h) (fun b hb => nomatch hb) (fun p hp => Nat.ne_of_lt (Heap.lt_size (N p hp).1)) ?_ (F.push _)
    (fun p hp => ⟨Heap.get?_push_of_some _ (N p hp).1, (N p hp).2⟩) hkeep start ?_ done
  · show IsRangeIter _ _ _ _ _
    rw [hsz]
    simpa using Heap.get?_push_size _ rfl
  · rintro i c v u h₁ tk₁ oI hi ⟨t, rfl⟩ hf' hne' F₁ N₁
    have := turn _ i c t u h₁ tk₁ oI hi hf' (allLt_of fun p hp => Heap.lt_size (N p hp).1) (AllNe.of hne') F₁ N₁
    simpa using this
end
end Mine
end
section
open PySem PySem.W PySem.Calls PyProof.Rows PyProof.V PySem.Spec
set_option Elab.async false
set_option maxRecDepth 100000
namespace Mine
section
variable {prog : Program} {w : World} {A : Around} {E : Value → Shared → Prop} {R : Result → Shared → Prop} {s : Shared}
theorem turn2_outer (elt t1 i1 t2 i2 : PySem.Expr) (scope : Scope) (pos : Pos) (it acc : Value) (env : Env) :
    compTurn (.ListComp elt [⟨t1, i1, [], 0⟩, ⟨t2, i2, [], 0⟩] scope pos) 0 it acc env = (standAt i1.pos >>= fun _ => pyNext it >>= fun r => match r with
      | none => pure (.done .next)
      | some v => letOwnedTupleGo t1 it v >>= fun _ => assign t1 env v >>= fun _ =>
        eval i2 env >>= fun x => standAt i2.pos >>= fun _ => foldedSetIterable i2 env x >>= fun x => holding [x] (pyIter x) >>= fun it' =>
          runOwn (.compStart (.ListComp elt [⟨t1, i1, [], 0⟩, ⟨t2, i2, [], 0⟩] scope pos) 1 it' acc env) env >>= fun _ =>
          again (.compLoop (.ListComp elt [⟨t1, i1, [], 0⟩, ⟨t2, i2, [], 0⟩] scope pos) 0 it acc env)) := by rfl
theorem turn2_inner (elt t1 i1 t2 i2 : PySem.Expr) (scope : Scope) (pos : Pos) (it acc : Value) (env : Env) :
    compTurn (.ListComp elt [⟨t1, i1, [], 0⟩, ⟨t2, i2, [], 0⟩] scope pos) 1 it acc env = (standAt i2.pos >>= fun _ => pyNext it >>= fun r => match r with
      | none => pure (.done .next)
      | some v => letOwnedTupleGo t2 it v >>= fun _ => assign t2 env v >>= fun _ =>
        (eval elt env >>= fun x => call (.builtin "list.append") [acc, x] >>= fun _ => pure ()) >>= fun _ =>
          again (.compLoop (.ListComp elt [⟨t1, i1, [], 0⟩, ⟨t2, i2, [], 0⟩] scope pos) 1 it acc env)) := by rfl
theorem start2_inner {elt t1 i1 t2 i2 : PySem.Expr} {scope : Scope} {pos : Pos} {it acc : Value} {env : Env}
    (h0 : codeAny (model prog w) A (.compLoop (.ListComp elt [⟨t1, i1, [], 0⟩, ⟨t2, i2, [], 0⟩] scope pos) 1 it acc env) R s)
    (h : wpAny (model prog w) A (pyIter it) (fun it' s' => codeAny (model prog w) A (.compLoop (.ListComp elt [⟨t1, i1, [], 0⟩, ⟨t2, i2, [], 0⟩] scope pos) 1 it' acc env) R s')
      (notedBy (model prog w) A env fun x s' => R (.error x) s') s) :
    codeAny (model prog w) A (.compStart (.ListComp elt [⟨t1, i1, [], 0⟩, ⟨t2, i2, [], 0⟩] scope pos) 1 it acc env) R s := by
  refine codeAny_of_tree ?_
  show wpAny _ _ ((compStart (.ListComp elt [⟨t1, i1, [], 0⟩, ⟨t2, i2, [], 0⟩] scope pos) 1 it acc env).onRaise (fun x => do noteFrame x env; standAt theWindowsPlace)) _ _ s
  refine wpAny_notedAt ?_
  unfold compStart
  show wpAny _ _ (ask >>= _) _ _ s
  refine wpAny_bind (wpAny_askSetting (wpAny_ite ?_))
  split
  · first
      | exact wpAny_bind (wpAny_pure (wpAny_pure (And.intro rfl h0)))
      | exact wpAny_pure (And.intro rfl h0)
  · first
      | exact wpAny_bind (wpAny_rule (wpAny_bind (wpAny_standAt (wpAny_bind (wpAny_mono h (fun it' s' h' => wpAny_pure (And.intro rfl h')) fun _ _ x => x)))))
      | (refine wpAny_bind (wpAny_rule ?_); show wpAny _ _ (standAt i2.pos >>= _) _ _ s; exact wpAny_bind (wpAny_standAt (wpAny_bind (wpAny_mono h (fun it' s' h' => wpAny_pure (And.intro rfl h')) fun _ _ x => x))))
theorem loop2_inner {elt t1 i1 t2 i2 : PySem.Expr} {scope : Scope} {pos : Pos} {it acc : Value} {env : Env} (I : Nat → Shared → Prop)
    (turn : ∀ n s, I n s → wpAny (model prog w) A (pyNext it) (fun r s₁ => match r with
      | none => R (.ok .next) s₁
      | some v => wpAny (model prog w) A (assign t2 env v) (fun _ s₂ => wpAny (model prog w) A (eval elt env) (fun x s₃ =>
          wpAny (model prog w) A (call (.builtin "list.append") [acc, x]) (fun _ s₄ => ∃ m, m < n ∧ I m s₄) (notedBy (model prog w) A env fun e s' => R (.error e) s') s₃)
          (notedBy (model prog w) A env fun e s' => R (.error e) s') s₂) (notedBy (model prog w) A env fun e s' => R (.error e) s') s₁) (notedBy (model prog w) A env fun e s' => R (.error e) s') s)
    (n : Nat) (h : I n s) (ht : ∀ v, letOwnedTupleGo t2 it v = pure () := by intro _; rfl) :
    codeAny (model prog w) A (.compLoop (.ListComp elt [⟨t1, i1, [], 0⟩, ⟨t2, i2, [], 0⟩] scope pos) 1 it acc env) R s := by
  refine codeAny_loop rfl I (fun n s hI => ?_) n h
  show wpAny _ A ((compTurn (.ListComp elt [⟨t1, i1, [], 0⟩, ⟨t2, i2, [], 0⟩] scope pos) 1 it acc env).onRaise (fun x => do noteFrame x env; theTreesLotGoes x)) _ _ s
  refine wpAny_noted ?_
  rw [turn2_inner]
  refine wpAny_bind (wpAny_standAt (wpAny_bind (wpAny_mono (turn n s hI) (fun r s₁ h₁ => ?_) fun _ _ h' => h')))
  cases r with
  | none => exact wpAny_pure h₁
  | some v =>
    refine wpAny_bind (wpAny_of_eq (ht v) ?_)
    exact wpAny_bind (wpAny_mono h₁ (fun _ s₂ h₂ => wpAny_bind (wpAny_bind (wpAny_mono h₂ (fun x s₃ h₃ => wpAny_bind (wpAny_mono h₃
      (fun _ s₄ h₄ => wpAny_pure (wpAny_pure ⟨rfl, h₄⟩)) fun _ _ h' => h')) fun _ _ h' => h'))) fun _ _ h' => h')
theorem loop2_outer {elt t1 i1 t2 i2 : PySem.Expr} {scope : Scope} {pos : Pos} {it acc : Value} {env : Env} (I : Nat → Shared → Prop)
    (turn : ∀ n s, I n s → wpAny (model prog w) A (pyNext it) (fun r s₁ => match r with
      | none => R (.ok .next) s₁
      | some v => wpAny (model prog w) A (assign t1 env v) (fun _ s₂ => wpAny (model prog w) A (eval i2 env) (fun x s₃ =>
          wpAny (model prog w) A (pyIter x) (fun it' s₄ =>
            codeAny (model prog w) A (.compStart (.ListComp elt [⟨t1, i1, [], 0⟩, ⟨t2, i2, [], 0⟩] scope pos) 1 it' acc env) (fun r s₅ => match r with | .ok _ => ∃ m, m < n ∧ I m s₅ | .error _ => False) s₄)
            (notedBy (model prog w) A env fun e s' => R (.error e) s') s₃)
          (notedBy (model prog w) A env fun e s' => R (.error e) s') s₂) (notedBy (model prog w) A env fun e s' => R (.error e) s') s₁) (notedBy (model prog w) A env fun e s' => R (.error e) s') s)
    (n : Nat) (h : I n s) (hs : ∀ x, foldedSetIterable i2 env x = pure x := by intro _; rfl) (ht : ∀ v, letOwnedTupleGo t1 it v = pure () := by intro _; rfl) :
    codeAny (model prog w) A (.compLoop (.ListComp elt [⟨t1, i1, [], 0⟩, ⟨t2, i2, [], 0⟩] scope pos) 0 it acc env) R s := by
  refine codeAny_loop rfl I (fun n s hI => ?_) n h
  show wpAny _ A ((compTurn (.ListComp elt [⟨t1, i1, [], 0⟩, ⟨t2, i2, [], 0⟩] scope pos) 0 it acc env).onRaise (fun x => do noteFrame x env; theTreesLotGoes x)) _ _ s
  refine wpAny_noted ?_
  rw [turn2_outer]
  refine wpAny_bind (wpAny_standAt (wpAny_bind (wpAny_mono (turn n s hI) (fun r s₁ h₁ => ?_) fun _ _ h' => h')))
  cases r with
  | none => exact wpAny_pure h₁
  | some v =>
    refine wpAny_bind (wpAny_of_eq (ht v) ?_)
    refine wpAny_bind (wpAny_mono h₁ (fun _ s₂ h₂ => wpAny_bind (wpAny_mono h₂ (fun x s₃ h₃ => wpAny_bind (wpAny_standAt (wpAny_bind (wpAny_of_eq (hs x) (wpAny_bind (wpAny_holding (wpAny_mono h₃ (fun it' s₄ h₄ => ?_) fun _ _ h' => h'))))))) fun _ _ h' => h')) fun _ _ h' => h')
    refine wpAny_bind (wpAny_runOwn (codeAny_mono h₄ fun r s₅ hr => ?_))
    cases r with
    | ok f => exact wpAny_pure ⟨rfl, hr⟩
    | error e => exact hr.elim
end
end Mine
end
section
open PySem PySem.W PySem.Calls PyProof.Rows PyProof.V PySem.Spec PyProof.Rows.LCg
set_option Elab.async false
set_option maxRecDepth 100000
namespace Mine
structure Apart (h₀ : Heap) (L C D I : Addr) (news : List (Addr × Obj)) : Prop where
  ic : (I : Nat) ≠ C
  id : (I : Nat) ≠ D
  cd : (C : Nat) ≠ D
  cl : C ≠ L
  dl : D ≠ L
  il : I ≠ L
  i0 : h₀.get? I = none
  c0 : h₀.get? C = none
  d0 : h₀.get? D = none
  off : ∀ p ∈ news, p.1 ≠ I ∧ p.1 ≠ C ∧ p.1 ≠ D
structure RowSt (h₀ : Heap) (L : Addr) (m : Str → Option Value) (C D I : Addr) (news : List (Addr × Obj)) (ys : List Value) (i n1 : Nat) (m' : Str → Option Value) (h : Heap) : Prop where
  it : IsRangeIter h I (0 + (i : Nat) * 1) ((n1 : Int) - (i : Nat)) 1
  fr : Fr h₀ L h m
  ns : h.Ns C m'
  nw : News h₀ L h ((D, LCg.lst ys) :: news)
def RowOk (EL : Nat → Value → Prop) (n : Nat) (ys : List Value) : Prop := ys.length = n ∧ ∀ j y, ys[j]? = some y → EL j y
section
variable {prog : Program} {w : World} {A : Around} {E : Value → Shared → Prop} {R : Result → Shared → Prop} {s : Shared} {h₀ : Heap} {L C D I J : Addr} {m : Str → Option Value} {news : List (Addr × Obj)} {env : Env} {scope : Scope} {cl : List (Str × Addr)} {elt i1 i2 : PySem.Expr} {x1 x2 : Str} {px1 px2 pos : Pos}
inductive RowsOk (EL : Nat → Nat → Value → Prop) (n2 : Nat → Nat) : Nat → List Value → Prop
  | nil : RowsOk EL n2 0 []
  | snoc {i ys ys2} : RowsOk EL n2 i ys → RowOk (EL i) (n2 i) ys2 → RowsOk EL n2 (i + 1) (ys ++ ys2)
theorem sz_facts {Z C L : Nat} (hC : C = Z + 2) (hL : L < Z) : Z ≠ C ∧ Z ≠ Z + 1 ∧ C ≠ Z + 1 ∧ C ≠ L ∧ Z + 1 ≠ L ∧ Z ≠ L ∧ Z ≤ C ∧ Z ≤ Z + 1 ∧ Z < C ∧ Z + 1 < C := by omega
theorem sz_lt {Z C b : Nat} (hC : C = Z + 2) (h : b < Z) : b < C ∧ b ≠ C ∧ b ≠ Z + 1 ∧ b ≠ Z := by omega
end
end Mine
end
section
open PySem PySem.W PySem.Calls PyProof.Rows PyProof.V PySem.Spec PyProof.Rows.LCg
set_option Elab.async false
set_option maxRecDepth 100000
namespace Mine
theorem off1_mem {D : Addr} {l : List (Addr × Obj)} (x : LCg.Off1 D l) : ∀ p ∈ l, (p.1 : Nat) ≠ D := by
  induction l with
  | nil => intro p hp; cases hp
  | cons q r ih =>
    intro p hp
    rcases List.mem_cons.mp hp with e | hp
    · rw [e]; exact x.1
    · exact ih x.2 p hp
section
variable {prog : Program} {w : World} {s : Shared} {dp un : Nat} {fr : List Env} {gd : Option (List Code)} {E Q : Value → Shared → Prop} {K : Frag} {p : Program} {loose : List Str} {mean : ExcName → Option Value} {mg mb : Str → Option Value}
  {qual : Str} {name : Str} {params : Arguments} {body : List Stmt} {scope : Scope} {dV kV doc pm cdv ct oc : Value} {an od : Option Addr} {osl : Array (Option Value)} {f : Addr} {args : List Value} {kw : List (Str × Value)} {binds : List (Str × Value)}

/-- a call of a def some of whose names are cells: everything that stands stays -/
theorem call_mc (X : K.In s.heap) (T : Top p loose mean mg mb s.heap)
    (ho : K.lookup f = some ⟨oc, od, .func (fnOf name qual params body scope dV kV doc pm an cdv ct), osl⟩) (hcd : codeIn K cdv qual = true) (hroom : dp < recursionLimit)
    (hbind : BindsTo s (fnOf name qual params body scope dV kV doc pm an cdv ct) ⟨args, kw⟩ binds) (hkind : (binds.all fun y => scope.names.lookup y.1 == some .local || scope.names.lookup y.1 == some .cell) = true)
    (hnd : ((cellsFrom 0 scope.names []).map (·.1)).Nodup)
    (h : ∀ L h₁ tk cells, Fr s.heap L h₁ (bindL (envOfC qual scope L f cdv).kindOf binds fun _ => none) → News s.heap L h₁ cells → CellsAre (bindC (envOfC qual scope L f cdv).kindOf binds fun _ => none) (cellsFrom (L + 1) scope.names []) cells →
      wpAny (model prog w) (amb (dp + 1) (un + 3) (envOfC qual scope L f cdv :: fr) gd) (execs body (envOfC qual scope L f cdv))
        (fun fl s' => Q (match fl with | .ret v => v | _ => .none) s') (fun _ _ => False) { s with heap := h₁, toks := tk })
    (hco : scope.isCoroutine = false) (hgen : scope.isGenerator = false) (hk : scope.kind = .function) :
    wpAny (model prog w) (amb dp un fr gd) (call (.ref f) args kw) Q E s := by
  refine wpAny_call (codeAny_call_function hroom (X _ _ ho) rfl hco hgen rfl (codeRec_of X hcd) (hbind _ _ _ _ ?_))
  refine wpAny_newFunctionEnv_cells hk (kindsX hkind _) fun env' he s' x => ?_
  subst he
  refine ⟨T.nolimit.keeps x.toInCall.keep, codeAny_func ?_⟩
  obtain ⟨h₁, tk, rfl, _⟩ := x.done
  have hk₁ := x.toInCall.keep
  obtain ⟨cells, NC, Y⟩ := Cl.news (h₀ := s.heap) (Nat.le_refl _) fun n c hm => ⟨x.cell n c (lookup_of_mem_nodup (cellsFrom_names scope.names 0 (s.heap.objs.size + 1) [] [] rfl ▸ hnd) hm), x.above n c hm⟩
  exact wpAny_mono (h s.heap.objs.size h₁ tk cells ⟨x.toInCall.ns, hk₁, Nat.le_refl _⟩ NC Y) (fun _ _ x => x) fun _ _ x => x.elim
end
section
variable {prog : Program} {w : World} {A : Around} {E : Value → Shared → Prop} {s : Shared} {h₀ : Heap} {L : Addr} {m : Str → Option Value} {env : Env} {scope : Scope} {cl : List (Str × Addr)} {elt i1 i2 : PySem.Expr} {x1 x2 : Str} {px1 px2 pos : Pos}
end
end Mine
end
section
open PySem PySem.W PySem.Calls PyProof.Rows PyProof.V PySem.Spec PyProof.Rows.LCg
set_option Elab.async false
set_option maxRecDepth 100000
namespace Mine
/-- addresses of a comprehension's own objects -/
structure Own (h₀ : Heap) (L C D I : Addr) : Prop where
  ic : (I : Nat) ≠ C
  id : (I : Nat) ≠ D
  cd : (C : Nat) ≠ D
  cl : C ≠ L
  dl : D ≠ L
  il : I ≠ L
  i0 : h₀.get? I = none
  c0 : h₀.get? C = none
  d0 : h₀.get? D = none
structure GSt (h₀ : Heap) (L : Addr) (m : Str → Option Value) (C D I ax : Addr) (base : List (Addr × Obj)) (ys : List Value) (nw : List (Addr × Obj)) (i : Nat) (m' : Str → Option Value) (h : Heap) : Prop where
  it : h.IsListIter I ax i
  fr : Fr h₀ L h m
  ns : h.Ns C m'
  nws : News h₀ L h ((D, LCg.lst ys) :: (base ++ nw))
  off : ∀ p ∈ base ++ nw, p.1 ≠ I ∧ p.1 ≠ C ∧ p.1 ≠ D
section
variable {prog : Program} {w : World} {A : Around} {E : Value → Shared → Prop} {R : Result → Shared → Prop} {s : Shared} {h₀ : Heap} {L C D I J ax : Addr} {m : Str → Option Value} {base : List (Addr × Obj)} {env : Env} {scope : Scope} {cl : List (Str × Addr)} {elt i1 i2 : PySem.Expr} {x1 x2 : Str} {px1 px2 pos : Pos}
theorem inner_G {JI : Nat → List Value → List (Addr × Obj) → Prop} {v1 : Value} {a : Int} {n2 i : Nat} {ys : List Value} {nw : List (Addr × Obj)} {m' : Str → Option Value} {h : Heap} {tk : Nat}
    (hh : A.handled = none) (hkind : scope.kind = .function) (hx2 : scope.names.lookup x2 = some .local) (hne : x1 ≠ x2)
    (ap : Own h₀ L C D I) (jc : (J : Nat) ≠ C) (jd : (J : Nat) ≠ D) (ji : (J : Nat) ≠ I) (jl : J ≠ L) (j0 : h₀.get? J = none) (jn : ∀ p ∈ base ++ nw, p.1 ≠ J)
    (st : GSt h₀ L m C D I ax base ys nw i m' h) (hm1 : m' x1 = some v1) (hJ : IsRangeIter h J (a + ((0 : Nat) : Int) * 1) ((n2 : Int) - ((0 : Nat) : Int)) 1) (hB : ∀ j ys nw, JI j ys nw → ys.length + 1 ≤ sizeLine) (h0 : JI 0 ys nw)
    (el : ∀ j ys nw oI oJ oC m₂ h tk t2 (E' : Value → Shared → Prop), j < n2 → JI j ys nw → m₂ x1 = some v1 → m₂ x2 = some (.int (a + (j : Int)) t2) → NsObj oC m₂ → Fr h₀ L h m → News h₀ L h ((J, oJ) :: (C, oC) :: (D, LCg.lst ys) :: (I, oI) :: (base ++ nw)) →
      wpAny (model prog w) A (eval elt (compEnvC scope cl C env)) (fun y s' => ∃ h' tk' nw', s' = { s with heap := h', toks := tk' } ∧ Fr h₀ L h' m ∧ News h₀ L h' ((J, oJ) :: (C, oC) :: (D, LCg.lst ys) :: (I, oI) :: (base ++ nw')) ∧ (∀ p ∈ nw', p ∈ nw ∨ (p.1 ≠ J ∧ p.1 ≠ C ∧ p.1 ≠ D ∧ p.1 ≠ I)) ∧ JI (j + 1) (ys ++ [y]) nw') E' { s with heap := h, toks := tk })
    (fin : ∀ h' tk' ys nw m'', JI n2 ys nw → GSt h₀ L m C D I ax base ys nw i m'' h' → R (.ok .next) { s with heap := h', toks := tk' }) :
    codeAny (model prog w) A (.compStart (.ListComp elt [⟨.Name x1 px1, i1, [], 0⟩, ⟨.Name x2 px2, i2, [], 0⟩] scope pos) 1 (.ref J) (.ref D) (compEnvC scope cl C env)) R { s with heap := h, toks := tk } := by
  have W : Walks prog w A J [J] [J] n2 (fun i v => ∃ t, v = .int (a + (i : Int)) t) (fun i h => IsRangeIter h J (a + (i : Nat) * 1) ((n2 : Int) - (i : Nat)) 1) := range_walks hh a n2
  have loop : ∀ s₃ : Shared, s₃ = { s with heap := h, toks := tk } →
      codeAny (model prog w) A (.compLoop (.ListComp elt [⟨.Name x1 px1, i1, [], 0⟩, ⟨.Name x2 px2, i2, [], 0⟩] scope pos) 1 (.ref J) (.ref D) (compEnvC scope cl C env)) R s₃ := by
    rintro s₃ rfl
    refine loop2_inner (fun k s' => ∃ h' tk' j ys nw m'', s' = { s with heap := h', toks := tk' } ∧ j ≤ n2 ∧ k = n2 + 1 - j ∧ JI j ys nw ∧ GSt h₀ L m C D I ax base ys nw i m'' h' ∧ m'' x1 = some v1 ∧ IsRangeIter h' J (a + (j : Nat) * 1) ((n2 : Int) - (j : Nat)) 1 ∧ (∀ p ∈ base ++ nw, p.1 ≠ J)) ?_ (n2 + 1)
      ⟨h, tk, 0, ys, nw, m', rfl, Nat.zero_le _, rfl, h0, st, hm1, hJ, jn⟩
    rintro k s' ⟨h', tk', j, ys, nw, m'', rfl, hj, rfl, hok, st', hm, hJ', jn⟩
    by_cases hlt : j < n2
    · refine W.item j _ _ _ hlt hJ' fun v h₂ tk₂ hPv hJ₂ hk₂ => ?_
      obtain ⟨t2, rfl⟩ := hPv
      have k2 : ∀ b o, b ≠ J → h'.get? b = some o → h₂.get? b = some o := fun b o hb => hk₂ b o (by simpa using hb)
      have hn₂ : h₂.Ns C m'' := st'.ns.at' fun o e => k2 _ o (fun q => jc q.symm) e
      refine wpAny_assign_Name (wpAny_storeName_local (lookup_relabel_local hx2) hn₂ (fun h₃ hn₃ hs₃ => ?_) (by simp [compEnvC, relabel, hkind]))
      have k3 : ∀ b o, b ≠ C → h₂.get? b = some o → h₃.get? b = some o := fun b o hb e => hs₃.extBut b o hb e
      have hJ₃ : IsRangeIter h₃ J (a + ((j + 1 : Nat) : Int) * 1) ((n2 : Int) - ((j + 1 : Nat) : Int)) 1 := k3 _ _ jc hJ₂
      obtain ⟨oC, heC, hoC⟩ := ns_obj hn₃
      obtain ⟨oI, heI, hcI, hdI⟩ := st'.it
      have F₃ : Fr h₀ L h₃ m := (fr_but st'.fr (fun b o hb e => k2 b o (by simpa using hb) e) (fun q => jl q.symm) j0).change hs₃ ap.cl ap.c0
      have N₃ : News h₀ L h₃ ((J, _) :: (C, oC) :: (D, LCg.lst ys) :: (I, oI) :: (base ++ nw)) := fun p hp => by
        rcases List.mem_cons.mp hp with rfl | hp
        · exact ⟨hJ₃, jl, j0⟩
        rcases List.mem_cons.mp hp with rfl | hp
        · exact ⟨heC, ap.cl, ap.c0⟩
        rcases List.mem_cons.mp hp with rfl | hp
        · have z := st'.nws _ (.head _)
          exact ⟨k3 _ _ (fun q => ap.cd q.symm) (k2 _ _ (fun q => jd q.symm) z.1), z.2⟩
        rcases List.mem_cons.mp hp with rfl | hp
        · exact ⟨k3 _ _ ap.ic (k2 _ _ (fun q => ji q.symm) heI), ap.il, ap.i0⟩
        · have z := st'.nws _ (.tail _ hp)
          exact ⟨k3 _ _ (st'.off p hp).2.1 (k2 _ _ (jn p hp) z.1), z.2⟩
      refine wpAny_mono (el j ys nw _ _ oC _ h₃ _ t2 _ hlt hok (by simp [hne]; exact hm) (by simp) hoC F₃ N₃) (fun y s₄ h₄ => ?_) fun _ _ e => e
      obtain ⟨h₄, tk₄, nw', rfl, F₄, N₄, hoff, hy⟩ := h₄
      have zJ := (N₄ _ (.head _)).1
      have zC := (N₄ _ (.tail _ (.head _))).1
      have zD := (N₄ _ (.tail _ (.tail _ (.head _)))).1
      have zI := (N₄ _ (.tail _ (.tail _ (.tail _ (.head _))))).1
      have off' : ∀ p ∈ base ++ nw', p.1 ≠ I ∧ p.1 ≠ C ∧ p.1 ≠ D := fun p hp => by
        rcases List.mem_append.mp hp with hp | hp
        · exact st'.off p (List.mem_append_left _ hp)
        · rcases hoff p hp with hp | ⟨-, q2, q3, q4⟩
          · exact st'.off p (List.mem_append_right _ hp)
          · exact ⟨q4, q2, q3⟩
      have jn' : ∀ p ∈ base ++ nw', p.1 ≠ J := fun p hp => by
        rcases List.mem_append.mp hp with hp | hp
        · exact jn p (List.mem_append_left _ hp)
        · rcases hoff p hp with hp | ⟨q1, -⟩
          · exact jn p (List.mem_append_right _ hp)
          · exact q1
      refine append_at (hsz := by have := hB _ _ _ hok; show ys.toArray.size ≤ sizeLine; rw [List.size_toArray]; omega) zD fun h₅ hs₅ hD₅ => ?_
      have k5 : ∀ b o, b ≠ D → h₄.get? b = some o → h₅.get? b = some o := fun b o hb e => hs₅.extBut b o hb e
      refine ⟨n2 + 1 - (j + 1), by omega, h₅, tk₄, j + 1, ys ++ [y], nw', _, rfl, hlt, rfl, hy, ⟨⟨oI, k5 _ _ ap.id zI, hcI, hdI⟩, F₄.change hs₅ ap.dl ap.d0, (hoC.ns zC).sameBut hs₅ ap.cd, fun p hp => ?_, off'⟩, by simp [hne]; exact hm, k5 _ _ jd zJ, jn'⟩
      rcases List.mem_cons.mp hp with rfl | hp
      · exact ⟨hD₅.trans (congrArg some (lst_snoc ys y)), ap.dl, ap.d0⟩
      · have z := N₄ p (.tail _ (.tail _ (.tail _ (.tail _ hp))))
        exact ⟨k5 _ _ (off' p hp).2.2 z.1, z.2⟩
    · obtain rfl : j = n2 := Nat.le_antisymm hj (Nat.not_lt.mp hlt)
      refine W.done _ _ _ hJ' fun h₂ tk₂ hk₂ => ?_
      have k2 : ∀ b o, b ≠ J → h'.get? b = some o → h₂.get? b = some o := fun b o hb => hk₂ b o (by simpa using hb)
      refine fin h₂ tk₂ ys nw m'' hok ⟨st'.it.at fun o e => k2 _ o (fun q => ji q.symm) e, fr_but st'.fr (fun b o hb e => k2 b o (by simpa using hb) e) (fun q => jl q.symm) j0, st'.ns.at' fun o e => k2 _ o (fun q => jc q.symm) e, fun p hp => ?_, st'.off⟩
      have z := st'.nws p hp
      refine ⟨k2 _ _ ?_ z.1, z.2⟩
      rcases List.mem_cons.mp hp with rfl | hp
      · exact fun q => jd q.symm
      · exact jn p hp
  exact start2_inner (loop _ rfl) (W.self 0 _ _ _ hJ (loop _ rfl))
theorem comp_LR {JO : Nat → List Value → List (Addr × Obj) → Prop} {JI : Nat → Nat → List Value → List (Addr × Obj) → Prop} {a : Nat → Int} {n2 : Nat → Nat} {its : Array Value} {k : Nat} {s₁ : Shared} {RR : Value → Addr → Result → Shared → Prop}
    (hcell : ∀ z ∈ scope.names, z.2 ≠ .cell) (hkind : scope.kind = .function) (hx1 : scope.names.lookup x1 = some .local) (hx2 : scope.names.lookup x2 = some .local) (hne : x1 ≠ x2) (hi2 : ∀ C x, foldedSetIterable i2 (compEnvC scope cl C env) x = pure x)
    (hh : A.handled = none) (F : Fr h₀ L s₁.heap m) (N : News h₀ L s₁.heap base) (hm : (ax, ({ cls := .type "list", data := .seq its k } : Obj)) ∈ base) (hsz : ∀ i j ys nw, JI i j ys nw → ys.length + 1 ≤ sizeLine) (hbd : ∀ i, i < its.size → 0 ≤ a i ∧ a i ≤ 1000 ∧ n2 i ≤ 1000) (hJ0 : JO 0 [] [])
    (hOI : ∀ i ys nw, i < its.size → JO i ys nw → JI i 0 ys nw) (hIO : ∀ i ys nw, i < its.size → JI i (n2 i) ys nw → JO (i + 1) ys nw)
    (it2 : ∀ I C D i v ys nw oI oC m₂ h tk (E' : Value → Shared → Prop), its[i]? = some v → m₂ x1 = some v → JO i ys nw → NsObj oC m₂ → Fr h₀ L h m → News h₀ L h ((I, oI) :: (C, oC) :: (D, LCg.lst ys) :: (base ++ nw)) →
        wpAny (model prog w) A (eval i2 (compEnvC scope cl C env)) (fun x s' => ∃ h' tk' r t u v', x = .ref r ∧ s' = { s₁ with heap := h', toks := tk' } ∧ Fr h₀ L h' m ∧ News h₀ L h' ((I, oI) :: (C, oC) :: (D, LCg.lst ys) :: (base ++ nw)) ∧ IsRange h' r (a i) (a i + (n2 i : Int)) 1 t u v') E' { s₁ with heap := h, toks := tk })
    (el : ∀ J C D I i v j ys nw oI oJ oC m₂ h tk t2 (E' : Value → Shared → Prop), its[i]? = some v → j < n2 i → JI i j ys nw → m₂ x1 = some v → m₂ x2 = some (.int (a i + (j : Int)) t2) → NsObj oC m₂ → Fr h₀ L h m → News h₀ L h ((J, oJ) :: (C, oC) :: (D, LCg.lst ys) :: (I, oI) :: (base ++ nw)) →
        wpAny (model prog w) A (eval elt (compEnvC scope cl C env)) (fun y s' => ∃ h' tk' nw', s' = { s₁ with heap := h', toks := tk' } ∧ Fr h₀ L h' m ∧ News h₀ L h' ((J, oJ) :: (C, oC) :: (D, LCg.lst ys) :: (I, oI) :: (base ++ nw')) ∧ (∀ p ∈ nw', p ∈ nw ∨ (p.1 ≠ J ∧ p.1 ≠ C ∧ p.1 ≠ D ∧ p.1 ≠ I)) ∧ JI i (j + 1) (ys ++ [y]) nw') E' { s₁ with heap := h, toks := tk })
    (fin : ∀ D C h' tk' m' ys nw, JO its.size ys nw → Fr h₀ L h' m → News h₀ L h' ((D, LCg.lst ys) :: (base ++ nw)) → (∀ p ∈ base ++ nw, p.1 ≠ D) → h'.Ns C m' → h₀.get? C = none → C ≠ L → (C : Nat) ≠ D → (∀ p ∈ base ++ nw, p.1 ≠ C) → RR (.ref D) C (.ok .next) { s₁ with heap := h', toks := tk' }) :
    wpAny (model prog w) A (pyIter (.ref ax)) (fun it s₂ => wpAny (model prog w) A (newList []) (fun acc s₃ => wpAny (model prog w) A (newFunctionEnv scope env.globals cl [] env.qual none .none (some env)) (fun cenv s₄ =>
      codeAny (model prog w) A (.compStart (.ListComp elt [⟨.Name x1 px1, i1, [], 0⟩, ⟨.Name x2 px2, i2, [], 0⟩] scope pos) 0 it acc { cenv with scope := relabel scope env }) (RR acc cenv.locals) s₄) E s₃) E s₂) E s₁ := by
  have hl : s₁.heap.IsList ax its := ⟨_, (N _ hm).1, rfl, _, rfl⟩
  have hax : ax < s₁.heap.objs.size := Heap.lt_size (N _ hm).1
  refine wpAny_pyIter_list hl ?_
  have up : ∀ b o, s₁.heap.get? b = some o → (s₁.heap.push { cls := .type "list_iterator", data := .fields #[.ref ax, .int 0 0] }).get? b = some o := fun b o e => Heap.get?_push_of_some _ e
  have hI : (s₁.heap.push { cls := .type "list_iterator", data := .fields #[.ref ax, .int 0 0] }).get? s₁.heap.objs.size = some { cls := .type "list_iterator", data := .fields #[.ref ax, .int 0 0] } := Heap.get?_push_size _ rfl
  have hz1 : (s₁.heap.push { cls := .type "list_iterator", data := .fields #[.ref ax, .int 0 0] }).objs.size = s₁.heap.objs.size + 1 := Heap.size_push ..
  generalize s₁.heap.push { cls := .type "list_iterator", data := .fields #[.ref ax, .int 0 0] } = H1 at up hI hz1 ⊢
  refine wpAny_newObj_type (wpAny_newFunctionEnv hcell (by intro y hy; simp at hy) (fun h₁ hns₁ hsb₁ => ?_) hkind)
  dsimp only at hns₁ hsb₁ ⊢
  generalize hH2 : H1.push { cls := .type "list", dict := none, data := .seq ([] : List Value).toArray } = H2 at hns₁ hsb₁ ⊢
  have hC : H2.objs.size = s₁.heap.objs.size + 2 := by rw [← hH2, Heap.size_push, hz1]
  rw [hz1]
  have fresh₀ : ∀ a, s₁.heap.objs.size ≤ a → h₀.get? a = none := fun a ha => by
    cases e : h₀.get? a with
    | none => rfl
    | some o' => exact absurd (Heap.lt_size (F.keep a o' e)) (Nat.not_lt.mpr ha)
  have hLlt : L < s₁.heap.objs.size := F.ns.lt
  have zf := sz_facts hC hLlt
  have old1 : ∀ b o, b < H2.objs.size → H1.get? b = some o → h₁.get? b = some o := fun b o hb e => hsb₁.extBut b o (Nat.ne_of_lt hb) (Heap.get?_push_of_some _ (hH2 ▸ Heap.get?_push_of_some _ e))
  have old : ∀ b o, s₁.heap.get? b = some o → h₁.get? b = some o := fun b o e => old1 b o (sz_lt hC (Heap.lt_size e)).1 (up b o e)
  have hacc0 : H2.get? (s₁.heap.objs.size + 1) = some (LCg.lst []) := hH2 ▸ hz1 ▸ Heap.get?_push_size _ rfl
  have hacc : h₁.get? (s₁.heap.objs.size + 1) = some (LCg.lst []) := hsb₁.extBut _ _ (Nat.ne_of_lt zf.2.2.2.2.2.2.2.2.2) (Heap.get?_push_of_some _ hacc0)
  have ap : Own h₀ L H2.objs.size (s₁.heap.objs.size + 1) s₁.heap.objs.size :=
    ⟨zf.1, zf.2.1, zf.2.2.1, zf.2.2.2.1, zf.2.2.2.2.1, zf.2.2.2.2.2.1, fresh₀ _ (Nat.le_refl _), fresh₀ _ zf.2.2.2.2.2.2.1, fresh₀ _ zf.2.2.2.2.2.2.2.1⟩
  have hI1 : h₁.get? s₁.heap.objs.size = some { cls := .type "list_iterator", data := .fields #[.ref ax, .int 0 0] } := old1 _ _ zf.2.2.2.2.2.2.2.2.1 hI
  have st0 : GSt h₀ L m H2.objs.size (s₁.heap.objs.size + 1) s₁.heap.objs.size ax base [] [] 0 (fun x => ([] : List (Str × Value)).reverse.lookup x) h₁ :=
    ⟨⟨_, hI1, rfl, rfl⟩, F.keeps old, hns₁, fun p hp => by
      rcases List.mem_cons.mp hp with rfl | hp
      · exact ⟨hacc, ap.dl, ap.d0⟩
      · rw [List.append_nil] at hp
        exact ⟨old _ _ (N p hp).1, (N p hp).2⟩, fun p hp => by
      rw [List.append_nil] at hp
      have q := sz_lt hC (Heap.lt_size (N p hp).1)
      exact ⟨q.2.2.2, q.2.1, q.2.2.1⟩⟩
  have hne' : ax ≠ s₁.heap.objs.size := Nat.ne_of_lt hax
  clear hacc0 hacc hI1 old old1 hH2 hsb₁ hns₁ hI zf
  generalize H2.objs.size = C at ap st0 ⊢
  generalize s₁.heap.objs.size + 1 = D at ap st0 ⊢
  generalize s₁.heap.objs.size = I at ap st0 hne' ⊢
  have W : Walks prog w A I [I, ax] [I] its.size (fun i v => its[i]? = some v) (fun i h => h.IsListIter I ax i ∧ h.IsList ax its) := Walks.list hh I ax hne' its
  have lst_of : ∀ {h : Heap} {ys : List Value} {nw : List (Addr × Obj)}, News h₀ L h ((D, LCg.lst ys) :: (base ++ nw)) → h.IsList ax its := fun N => ⟨_, (N _ (.tail _ (List.mem_append_left _ hm))).1, rfl, _, rfl⟩
  have loop : ∀ s₃ : Shared, s₃ = { s₁ with heap := h₁, toks := s₁.toks + ([] : List (Str × Value)).length } →
      codeAny (model prog w) A (.compLoop (.ListComp elt [⟨.Name x1 px1, i1, [], 0⟩, ⟨.Name x2 px2, i2, [], 0⟩] scope pos) 0 (.ref I) (.ref D) (compEnvC scope cl C env)) (RR (.ref D) C) s₃ := by
    rintro s₃ rfl
    refine loop2_outer (fun k s' => ∃ h' tk' i ys nw m', s' = { s₁ with heap := h', toks := tk' } ∧ i ≤ its.size ∧ k = its.size + 1 - i ∧ JO i ys nw ∧ GSt h₀ L m C D I ax base ys nw i m' h') ?_ (its.size + 1) ⟨h₁, _, 0, [], [], _, rfl, Nat.zero_le _, rfl, hJ0, st0⟩ (hi2 C)
    rintro k s' ⟨h', tk', i, ys, nw, m', rfl, hi, rfl, hok, st'⟩
    by_cases hlt : i < its.size
    · refine W.item i _ _ _ hlt ⟨st'.it, lst_of st'.nws⟩ fun v h₂ tk₂ hPv hI₂ hk₂ => ?_
      obtain ⟨hI₂, -⟩ := hI₂
      have k2 : ∀ b o, b ≠ I → h'.get? b = some o → h₂.get? b = some o := fun b o hb => hk₂ b o (by simpa using hb)
      have hn₂ : h₂.Ns C m' := st'.ns.at' fun o e => k2 _ o (fun q => ap.ic q.symm) e
      refine wpAny_assign_Name (wpAny_storeName_local (lookup_relabel_local hx1) hn₂ (fun h₃ hn₃ hs₃ => ?_) (by simp [compEnvC, relabel, hkind]))
      have k3 : ∀ b o, b ≠ C → h₂.get? b = some o → h₃.get? b = some o := fun b o hb e => hs₃.extBut b o hb e
      obtain ⟨oI, heI, hcI, hdI⟩ := hI₂.at fun o e => k3 _ o ap.ic e
      obtain ⟨oC, heC, hoC⟩ := ns_obj hn₃
      have F₃ : Fr h₀ L h₃ m := (fr_but st'.fr (fun b o hb e => k2 b o (by simpa using hb) e) (fun q => ap.il q.symm) ap.i0).change hs₃ ap.cl ap.c0
      have N₃ : News h₀ L h₃ ((I, oI) :: (C, oC) :: (D, LCg.lst ys) :: (base ++ nw)) := fun p hp => by
        rcases List.mem_cons.mp hp with rfl | hp
        · exact ⟨heI, ap.il, ap.i0⟩
        rcases List.mem_cons.mp hp with rfl | hp
        · exact ⟨heC, ap.cl, ap.c0⟩
        rcases List.mem_cons.mp hp with rfl | hp
        · have z := st'.nws _ (.head _)
          exact ⟨k3 _ _ (fun q => ap.cd q.symm) (k2 _ _ (fun q => ap.id q.symm) z.1), z.2⟩
        · have z := st'.nws _ (.tail _ hp)
          exact ⟨k3 _ _ (st'.off p hp).2.1 (k2 _ _ (st'.off p hp).1 z.1), z.2⟩
      refine wpAny_mono (it2 I C D i v ys nw oI oC _ h₃ _ _ hPv (by simp) hok hoC F₃ N₃) (fun x s₄ h₄ => ?_) fun _ _ e => e
      obtain ⟨h₄, tk₄, r₄, t₄, u₄, v₄, rfl, rfl, F₄, N₄, hR₄⟩ := h₄
      obtain ⟨ha0, ha1, hn1⟩ := hbd i hlt
      refine wpAny_pyIter_range hR₄ (small_one (by omega) (by omega) (by omega) (by omega)) ?_
      have hsz4 : Builtin.Range.rangeSize (a i) (a i + (n2 i : Int)) 1 = (n2 i : Int) := by rw [rangeSize_nat]; omega
      rw [hsz4]
      have zI := N₄ _ (.head _)
      have zC := N₄ _ (.tail _ (.head _))
      have zD := N₄ _ (.tail _ (.tail _ (.head _)))
      have jlt : ∀ {p : Addr × Obj}, h₄.get? p.1 = some p.2 → p.1 ≠ h₄.objs.size := fun e => Nat.ne_of_lt (Heap.lt_size e)
      have up4 : ∀ b o, h₄.get? b = some o → (h₄.push { cls := .type "range_iterator", data := .fields #[rawInt (a i), rawInt (n2 i : Int), rawInt 1] }).get? b = some o := fun b o e => Heap.get?_push_of_some _ e
      refine inner_G (s := s₁) (JI := JI i) (v1 := v) (a := a i) (n2 := n2 i) (i := i + 1) (ys := ys) (nw := nw) hh hkind hx2 hne ap (fun q => jlt zC.1 q.symm) (fun q => jlt zD.1 q.symm) (fun q => jlt zI.1 q.symm) (Nat.ne_of_gt F₄.ns.lt) (next_is_new F₄)
        (fun p hp => jlt (N₄ p (.tail _ (.tail _ (.tail _ hp)))).1)
        ⟨⟨oI, up4 _ _ zI.1, hcI, hdI⟩, F₄.keeps up4, (hoC.ns (up4 _ _ zC.1)), fun p hp => ?_, st'.off⟩ (by simp) ?hJ (hsz i) (hOI i ys nw hlt hok)
        (fun j ys nw oI oJ oC m₂ h tk t2 E' hj hJi hm1 hm2 hoC' F' N' => el _ _ _ _ i v j ys nw oI oJ oC m₂ h tk t2 E' hPv hj hJi hm1 hm2 hoC' F' N') ?fin2
      case hJ =>
        have : (h₄.push { cls := .type "range_iterator", data := .fields #[rawInt (a i), rawInt (n2 i : Int), rawInt 1] }).get? h₄.objs.size = some _ := Heap.get?_push_size _ rfl
        simpa using this
      case fin2 =>
        intro h₅ tk₅ ys2 nw2 m₅ hok2 st₅
        exact ⟨its.size + 1 - (i + 1), by omega, h₅, tk₅, i + 1, ys2, nw2, m₅, rfl, hlt, rfl, hIO i ys2 nw2 hlt hok2, st₅⟩
      rcases List.mem_cons.mp hp with rfl | hp
      · exact ⟨up4 _ _ zD.1, zD.2⟩
      · have z := N₄ p (.tail _ (.tail _ (.tail _ hp)))
        exact ⟨up4 _ _ z.1, z.2⟩
    · obtain rfl : i = its.size := Nat.le_antisymm hi (Nat.not_lt.mp hlt)
      refine W.done _ _ _ ⟨st'.it, lst_of st'.nws⟩ fun h₂ tk₂ hk₂ => ?_
      have k2 : ∀ b o, b ≠ I → h'.get? b = some o → h₂.get? b = some o := fun b o hb => hk₂ b o (by simpa using hb)
      refine fin D C h₂ tk₂ m' ys nw hok (fr_but st'.fr (fun b o hb e => k2 b o (by simpa using hb) e) (fun q => ap.il q.symm) ap.i0) (fun p hp => ?_) (fun p hp => (st'.off p hp).2.2) (st'.ns.at' fun o e => k2 _ o (fun q => ap.ic q.symm) e) ap.c0 ap.cl ap.cd (fun p hp => (st'.off p hp).2.1)
      have z := st'.nws p hp
      refine ⟨k2 _ _ ?_ z.1, z.2⟩
      rcases List.mem_cons.mp hp with rfl | hp
      · exact fun q => ap.id q.symm
      · exact (st'.off p hp).1
  exact codeAny_compStart_list (loop _ rfl) (W.self 0 _ _ _ ⟨st0.it, lst_of st0.nws⟩ (loop _ rfl))
theorem Assign_LR {y : Str} {py spos : Pos} {Q : Flow → Shared → Prop} (_F₀ : Fr h₀ L s.heap m) (hLe : env.locals = L)
    (hsw : swapsWith (.ListComp elt [⟨.Name x1 px1, i1, [], 0⟩, ⟨.Name x2 px2, i2, [], 0⟩] scope pos) (some (.Name y py)) spos.line env = pure true)
    (hclos : closureFor scope env = pure cl) (hcell : ∀ z ∈ scope.names, z.2 ≠ .cell) (hkind : scope.kind = .function)
    (hnames : ∀ z ∈ scope.names, z.2 = .local → scope.names.lookup z.1 = some .local) (hx1 : scope.names.lookup x1 = some .local) (hx2 : scope.names.lookup x2 = some .local) (hne : x1 ≠ x2)
    (hy : env.kindOf y = some .local) (hp : (env.scope.kind == .class || (env.scope.kind == .module && env.locals != env.globals)) = false)
    (hs : ∀ x, foldedSetIterable i1 env x = pure x) (hi2 : ∀ C x, foldedSetIterable i2 (compEnvC scope cl C env) x = pure x)
    (h : wpAny (model prog w) A (eval i1 env) (fun xv s₁ => ∃ (JO : Nat → List Value → List (Addr × Obj) → Prop) (JI : Nat → Nat → List Value → List (Addr × Obj) → Prop) (a : Nat → Int) (n2 : Nat → Nat) (ax : Addr) (its : Array Value) (k : Nat) (base : List (Addr × Obj)),
      xv = .ref ax ∧ A.handled = none ∧ Fr h₀ L s₁.heap m ∧ News h₀ L s₁.heap base ∧ (ax, ({ cls := .type "list", data := .seq its k } : Obj)) ∈ base ∧ (∀ i j ys nw, JI i j ys nw → ys.length + 1 ≤ sizeLine) ∧ (∀ i, i < its.size → 0 ≤ a i ∧ a i ≤ 1000 ∧ n2 i ≤ 1000) ∧ JO 0 [] [] ∧
      (∀ i ys nw, i < its.size → JO i ys nw → JI i 0 ys nw) ∧ (∀ i ys nw, i < its.size → JI i (n2 i) ys nw → JO (i + 1) ys nw) ∧
      (∀ I C D i v ys nw oI oC m₂ h tk (E' : Value → Shared → Prop), its[i]? = some v → m₂ x1 = some v → JO i ys nw → NsObj oC m₂ → Fr h₀ L h m → News h₀ L h ((I, oI) :: (C, oC) :: (D, LCg.lst ys) :: (base ++ nw)) →
        wpAny (model prog w) A (eval i2 (compEnvC scope cl C env)) (fun x s' => ∃ h' tk' r t u v', x = .ref r ∧ s' = { s₁ with heap := h', toks := tk' } ∧ Fr h₀ L h' m ∧ News h₀ L h' ((I, oI) :: (C, oC) :: (D, LCg.lst ys) :: (base ++ nw)) ∧ IsRange h' r (a i) (a i + (n2 i : Int)) 1 t u v') E' { s₁ with heap := h, toks := tk }) ∧
      (∀ J C D I i v j ys nw oI oJ oC m₂ h tk t2 (E' : Value → Shared → Prop), its[i]? = some v → j < n2 i → JI i j ys nw → m₂ x1 = some v → m₂ x2 = some (.int (a i + (j : Int)) t2) → NsObj oC m₂ → Fr h₀ L h m → News h₀ L h ((J, oJ) :: (C, oC) :: (D, LCg.lst ys) :: (I, oI) :: (base ++ nw)) →
        wpAny (model prog w) A (eval elt (compEnvC scope cl C env)) (fun y s' => ∃ h' tk' nw', s' = { s₁ with heap := h', toks := tk' } ∧ Fr h₀ L h' m ∧ News h₀ L h' ((J, oJ) :: (C, oC) :: (D, LCg.lst ys) :: (I, oI) :: (base ++ nw')) ∧ (∀ p ∈ nw', p ∈ nw ∨ (p.1 ≠ J ∧ p.1 ≠ C ∧ p.1 ≠ D ∧ p.1 ≠ I)) ∧ JI i (j + 1) (ys ++ [y]) nw') E' { s₁ with heap := h, toks := tk }) ∧
      (∀ D h' tk' ys nw, JO its.size ys nw → Fr h₀ L h' (fun z => if z = y then some (.ref D) else m z) → News h₀ L h' ((D, LCg.lst ys) :: (base ++ nw)) → (∀ p ∈ base ++ nw, p.1 ≠ D) → Q .next { s₁ with heap := h', toks := tk' })) E s) :
    wpAny (model prog w) A (exec (.Assign [.Name y py] (.ListComp elt [⟨.Name x1 px1, i1, [], 0⟩, ⟨.Name x2 px2, i2, [], 0⟩] scope pos) spos) env) Q E s := by
  subst hLe
  rw [exec_Assign_Name_used _ _ _ _ hsw]
  refine wpAny_bind (wpAny_standAt (wpAny_bind ?_))
  show wpAny _ A (do let _ ← comprehension (.ListComp elt [⟨.Name x1 px1, i1, [], 0⟩, ⟨.Name x2 px2, i2, [], 0⟩] scope pos) scope env _ (newList []) false (eval i1 env) (some (assign (.Name y py) env))) _ _ s
  refine wpAny_bind (wpAny_mono (wpAny_comprehension_free (use := some (assign (.Name y py) env)) (Q := fun _ s' => Q .next s') rfl hs hclos hkind hnames
    (wpAny_mono h (fun xv s₁ h₁ => ?_) fun _ _ e => e)) (fun _ s' hq => wpAny_pure (wpAny_pure hq)) fun _ _ e => e)
  obtain ⟨JO, JI, a, n2, ax, its, k, base, rfl, hh, F, N, hm, hsz, hbd, hJ0, hOI, hIO, it2, el, fin⟩ := h₁
  refine comp_LR (k := k) hcell hkind hx1 hx2 hne hi2 hh F N hm hsz hbd hJ0 hOI hIO it2 el fun D C h' tk' m' ys nw hok F' N' hD hn hC₀ hCL hCD offC => ?_
  show wpAny _ A (assign (.Name y py) env (.ref D)) _ _ _
  refine wpAny_assign_Name (wpAny_storeName_local hy F'.ns (fun h₂ hn₂ hs₂ => ?_) hp)
  have hL₀ : h₀.get? env.locals = none := Heap.get?_none_of_le F'.above
  have F₂ : Fr h₀ env.locals h₂ (fun z => if z = y then some (.ref D) else m z) := ⟨hn₂, fun b o e => hs₂.extBut b o (fun q => by rw [q, hL₀] at e; cases e) (F'.keep b o e), F'.above⟩
  refine ⟨m', hn.sameBut hs₂ hCL, fun h'' hs'' => fin D h'' _ ys nw hok (F₂.change hs'' hCL hC₀) (fun p hp => ?_) hD⟩
  have z : h₂.get? p.1 = some p.2 := hs₂.extBut _ _ (N' p hp).2.1 (N' p hp).1
  refine ⟨hs''.extBut _ _ ?_ z, (N' p hp).2⟩
  rcases List.mem_cons.mp hp with rfl | hp
  · exact fun q => hCD q.symm
  · exact offC p hp
end
end Mine
end
section
open PySem PySem.W PySem.Calls PyProof.Rows PyProof.V PySem.Spec
set_option Elab.async false
set_option maxRecDepth 100000
set_option maxHeartbeats 8000000
set_option linter.unusedSimpArgs false
set_option linter.unusedVariables false
namespace Mine
local macro_rules | `(tactic| k_tabat) => `(tactic| exact TabAt.ofFr (by assumption) (by assumption))
local macro_rules | `(tactic| walk_at "exec For Name Call cons nil") => `(tactic| (k_here; (rename Fr _ _ _ _ => lF'); (with_unfolding_all refine' For_turns lF' ?_); k_whole))
local macro_rules | `(tactic| walk_at "exec For Name Name cons nil") => `(tactic| (k_here; (rename Fr _ _ _ _ => lF'); (with_unfolding_all refine' For_turns lF' ?_); k_whole))
local macro_rules | `(tactic| walk_at "exec For Tuple Call cons nil") => `(tactic| (k_here; (rename Fr _ _ _ _ => lF'); (with_unfolding_all refine' For_turns lF' ?_); k_whole))
local macro_rules | `(tactic| walk_at "call builtin:dict.values") => `(tactic| (k_here; (try dsimp only); (with_reducible show wpAny _ _ (call (Value.builtin "dict.values") [Value.ref _]) _ _ _); k_dflt (refine call_values (by k_asm) (by k_asm) (by k_tabat) ?_); intro D' h' F' N' l1; (try k_lt l1); (try k_sweep)))
local macro_rules | `(tactic| walk_at "call builtin:dict.items") => `(tactic| (k_here; (try dsimp only); (with_reducible show wpAny _ _ (call (Value.builtin "dict.items") [Value.ref _]) _ _ _); k_dflt (refine call_items (by k_asm) (by k_asm) (by k_tabat) ?_); intro D' h' F' N' l1; (try k_lt l1); (try k_sweep)))
local macro_rules | `(tactic| walk_at "LPost") => `(tactic| (dsimp only [LPost]))
local macro_rules | `(tactic| walk_at "call builtin:len") => `(tactic| (k_here; (with_reducible show wpAny _ _ (call (Value.builtin "len") [Value.str _ _]) _ _ _); (refine P.len_str (by first | omega | decide) ?_)))
local macro_rules | `(tactic| walk_at "truthy str") => `(tactic| (k_here; (refine P.truthy_str (by first | omega | decide) ?_)))
theorem reset_C1 {M : Model} {A : Around} {E : Value → Shared → Prop} {Q : Flow → Shared → Prop} {s : Shared} {env : Env} (h : Q .next s) : wpAny M A (execs [] env) Q E s := by
  w_top off
  walk1
  w_top off
  exact h
section
def sumv (c : List (Str × Int)) : Int := (c.map (·.2)).sum
theorem sumv_take {c : List (Str × Int)} {i : Nat} {k : Str} {x : Int} (h : c[i]? = some (k, x)) : sumv (c.take (i + 1)) = sumv (c.take i) + x := by
  unfold sumv
  rw [List.take_add_one, h]
  simp

theorem count_calls_spec {w : World} {loose : List Str} {mean : ExcName → Option Value} {mg mb : Str → Option Value} {s : Shared} {dp un : Nat} {fr : List Env} {gd : Option (List Code)} {d : Addr} {c : List (Str × Int)} {E Q : Value → Shared → Prop} :
    (hd.heap_39 w.params).In s.heap → Top hd.view_39 loose mean mg mb s.heap → dp + 10 < recursionLimit → un + 100 < cLine → StrTab PySem.Challenge.rw_pm0056_02.row.prog w s.heap d (kdpD c) →
    (∀ h' tk t, s.heap.StaysIn h' → Q (.int (sumv c) t) { s with heap := h', toks := tk }) →
    wpAny (model PySem.Challenge.rw_pm0056_02.row.prog w) (amb dp un fr gd) (call (.ref 214) [.ref d]) Q E s := by
  k_fill
  intro X T hdp hun Ta ret
  k_dflt (refine' call_me (binds := [("callers", .ref d)]) X T ?ho ?hcd ?hroom ?hb ?hl ?hc ?hco ?hgen ?hk ?_; (case ho => k_is); (case hcd => k_is); (case hroom => omega); (case hb => exact BindsTo.of_eq rfl); (case hl => exact locs rfl); (case hc => decide); (case hco => exact rfl); (case hgen => exact rfl); (case hk => exact rfl))
  intro L h₁ F N
  k_steps
  rename Fr _ _ _ _ => F1
  rename News _ _ _ _ => N1
  refine it_values (c := c) (σ := Int × Tok) (keep := []) (fun _ => []) (fun a => [("nc", .int a.1 a.2)]) (fun i a => a.1 = sumv (c.take i)) ["calls", "nc"] rfl ⟨_, (N1 _ (.head _)).1, rfl, rfl⟩ (Ta.ofFr F1) (src_base F1 (tab_obj Ta).choose_spec) F1 News.nil (fun _ => trivial) ⟨(0, _), rfl, rfl, by with_unfolding_all exact ⟨rfl, trivial⟩⟩ ?_ ?_
  · intro I i a k x t u h₂ tk₂ oI hx ha _ _ F2 N2
    k_steps
    refine turn_end (_, _) (by assumption) (by assumption) (by k_mem) trivial trivial ?_ ⟨rfl, trivial⟩ ?_
    · dsimp only; rw [ha, sumv_take hx]
    · intro z hz
      have hz' := hz
      obtain ⟨h1, h2, -⟩ := hz'
      simp only [h1, h2, if_false]
      rw [fmap_off ?hs hz]
      case hs => with_unfolding_all rfl
      simp only [h1, h2, if_false]
  · rintro ⟨av, at'⟩ u h₂ tk₂ ha F2 N2
    k_steps
    rw [List.take_length] at ha
    dsimp only at ha ⊢
    subst ha
    exact ret _ _ _ F2.keep
end
theorem reset_C2 {M : Model} {A : Around} {E : Value → Shared → Prop} {Q : Flow → Shared → Prop} {s : Shared} {env : Env} (h : Q .next s) : wpAny M A (execs [] env) Q E s := by
  w_top off
  walk1
  w_top off
  exact h
section
def copyC (c : List (Str × Int)) : List (Str × Int) := c.foldl (fun a p => kdpPut a p.1 p.2) []
def addC (a c : List (Str × Int)) : List (Str × Int) := c.foldl (fun a p => kdpPut a p.1 (kdpLook a p.1 0 + p.2)) a
theorem foldl_take {α β : Type} {f : β → α → β} {b : β} {l : List α} {i : Nat} {x : α} (h : l[i]? = some x) : (l.take (i + 1)).foldl f b = f ((l.take i).foldl f b) x := by
  rw [List.take_add_one, h]; simp
theorem copy_len (c : List (Str × Int)) : (copyC c).length ≤ c.length := by
  suffices h : ∀ a : List (Str × Int), (c.foldl (fun a p => kdpPut a p.1 p.2) a).length ≤ a.length + c.length by simpa [copyC] using h []
  induction c with
  | nil => intro a; simp
  | cons p r ih =>
    intro a
    rw [List.foldl_cons, List.length_cons]
    have h1 := ih (kdpPut a p.1 p.2)
    have h2 := kdpPut_len a p.1 p.2
    omega
theorem add_len (c : List (Str × Int)) : ∀ a : List (Str × Int), (addC a c).length ≤ a.length + c.length := by
  induction c with
  | nil => intro a; simp [addC]
  | cons p r ih =>
    intro a
    have h1 := ih (kdpPut a p.1 (kdpLook a p.1 0 + p.2))
    have h2 := kdpPut_len a p.1 (kdpLook a p.1 0 + p.2)
    unfold addC at *
    rw [List.foldl_cons, List.length_cons]
    omega
theorem kdpLook_no {c : List (Str × Int)} {k : Str} (h : kdpHas c k = false) (d : Int) : kdpLook c k d = d := by
  unfold kdpHas at h
  unfold kdpLook
  have : c.find? (fun p => decide (p.1 = k)) = none := by
    rw [List.find?_eq_none]
    intro p hp
    rw [List.any_eq_false] at h
    exact h p hp
  rw [this]; rfl

def DS (prog : Program) (w : World) (o : Obj) (c : List (Str × Int)) : Prop := ∃ kvs, o.IsDictOf (PySem.strKind prog w) kvs ∧ FlatPairs PyData.str kvs (kdpD c)

theorem add_callers_spec {w : World} {loose : List Str} {mean : ExcName → Option Value} {mg mb : Str → Option Value} {s : Shared} {dp un : Nat} {fr : List Env} {gd : Option (List Code)} {d1 d2 : Addr} {c1 c2 : List (Str × Int)} {E Q : Value → Shared → Prop} :
    (hd.heap_39 w.params).In s.heap → Top hd.view_39 loose mean mg mb s.heap → dp + 10 < recursionLimit → un + 100 < cLine → StrTab PySem.Challenge.rw_pm0056_02.row.prog w s.heap d1 (kdpD c1) → StrTab PySem.Challenge.rw_pm0056_02.row.prog w s.heap d2 (kdpD c2) →
    c1.length + c2.length ≤ 10000 →
    (∀ a o kvs h' tk, s.heap.StaysIn h' → s.heap.get? a = none → h'.get? a = some o → (a == sysModules) = false → o.IsDictOf (PySem.strKind PySem.Challenge.rw_pm0056_02.row.prog w) kvs → FlatPairs PyData.str kvs (kdpD (addC (copyC c1) c2)) → Q (.ref a) { s with heap := h', toks := tk }) →
    wpAny (model PySem.Challenge.rw_pm0056_02.row.prog w) (amb dp un fr gd) (call (.ref 207) [.ref d1, .ref d2]) Q E s := by
  k_fill
  intro X T hdp hun T1 T2 hsz ret
  k_dflt (refine' call_me (binds := [("target", .ref d1), ("source", .ref d2)]) X T ?ho ?hcd ?hroom ?hb ?hl ?hc ?hco ?hgen ?hk ?_; (case ho => k_is); (case hcd => k_is); (case hroom => omega); (case hb => exact BindsTo.of_eq rfl); (case hl => exact locs rfl); (case hc => decide); (case hco => exact rfl); (case hgen => exact rfl); (case hk => exact rfl))
  intro L h₁ F N
  k_steps
  rename_i d0 hx0 o0 lo0 hs0 fs0 hi0 fi0 l0 hx1 V hV F1 N1 lV
  clear hi0 fi0
  refine it_items (c := c1) (σ := Obj × List (Str × Int)) (keep := []) (fun a => [(d0, a.1)]) (fun _ => []) (fun i a => DS PySem.Challenge.rw_pm0056_02.row.prog w a.1 a.2 ∧ a.2 = copyC (c1.take i)) ["func", "caller"] rfl ⟨_, (N1 _ (.head _)).1, rfl, rfl⟩ (T1.ofFr F1) (src_base F1 (tab_obj T1).choose_spec) F1 (fun p hp => N1 p (.tail _ hp)) (fun _ => trivial) ⟨(o0, []), rfl, ⟨⟨[], hs0, fs0⟩, rfl⟩, trivial⟩ ?_ ?_
  · rintro I i ⟨od, c⟩ k x tk t Tp u h₂ tk₂ oI hx hT ⟨⟨kvs, hd2, hf2⟩, hc⟩ hlt hne F2 N2
    dsimp only at *
    obtain ⟨hne0, -⟩ := hne
    have hlt0 := hlt.1
    have hi : i < c1.length := (List.getElem?_eq_some_iff.mp hx).1
    have hcl : c.length ≤ 10000 := by
      have := copy_len (c1.take i)
      rw [List.length_take] at this
      rw [hc]; omega
    k_steps
    rename Obj.IsDictOf _ _ _ => hdn
    rename FlatPairs _ _ _ => hfn
    refine turn_end (_, kdpPut c k x) (by assumption) (by assumption) (by k_mem) ⟨by k_mem, trivial⟩ ⟨by exact hne0, trivial⟩ ⟨⟨_, hdn, hfn⟩, ?_⟩ trivial ?_
    · dsimp only; rw [hc]; unfold copyC; rw [foldl_take hx]
    · intro z hz
      obtain ⟨h1, h2, -⟩ := id hz
      simp only [h1, h2, if_false]
      rw [fmap_off ?hs hz]
      case hs => rfl
  · rintro ⟨od, c⟩ u h₂ tk₂ ⟨⟨kvs, hd2, hf2⟩, hc⟩ F2 N2
    dsimp only at *
    rw [List.take_length] at hc
    k_steps
    rename_i V2 hV2 F3 N3 lV2
    refine it_items (c := c2) (σ := Obj × List (Str × Int)) (keep := []) (fun a => [(d0, a.1)]) (fun _ => []) (fun i a => DS PySem.Challenge.rw_pm0056_02.row.prog w a.1 a.2 ∧ a.2 = addC c (c2.take i)) ["func", "caller"] rfl ⟨_, (N3 _ (.head _)).1, rfl, rfl⟩ (T2.ofFr F3) (src_base F3 (tab_obj T2).choose_spec) F3 (fun p hp => N3 p (.tail _ hp)) (fun _ => trivial) ⟨(od, c), rfl, ⟨⟨_, hd2, hf2⟩, rfl⟩, trivial⟩ ?_ ?_
    · rintro I i ⟨oe, e⟩ k x tk t Tp u' h₃ tk₃ oI hx hT ⟨⟨kvs', hd3, hf3⟩, he⟩ hlt hne F4 N4
      dsimp only at *
      obtain ⟨hne0, -⟩ := hne
      have hlt0 := hlt.1
      have hi : i < c2.length := (List.getElem?_eq_some_iff.mp hx).1
      have hel : e.length ≤ 10000 := by
        have h1 := copy_len c1
        have h2 := add_len (c2.take i) c
        rw [List.length_take] at h2
        rw [he]; rw [hc] at h2 ⊢; omega
      have hnext : addC c (c2.take (i + 1)) = kdpPut e k (kdpLook e k 0 + x) := by rw [he]; unfold addC; rw [foldl_take hx]
      k_steps
      all_goals (
        rename Obj.IsDictOf _ _ _ => hdn
        rename FlatPairs _ _ _ => hfn
        rename kdpHas _ _ = _ => hhas
        refine turn_end (_, kdpPut e k (kdpLook e k 0 + x)) (by assumption) (by assumption) (by k_mem) ⟨by k_mem, trivial⟩ ⟨by exact hne0, trivial⟩ ⟨⟨_, hdn, by first | exact hfn | (rw [kdpLook_no hhas, Int.zero_add]; exact hfn)⟩, hnext.symm⟩ trivial ?_
        intro z hz
        obtain ⟨h1, h2, -⟩ := id hz
        simp only [h1, h2, if_false]
        rw [fmap_off ?hs hz]
        case hs => rfl)
    · rintro ⟨oe, e⟩ u' h₃ tk₃ ⟨⟨kvs', hd3, hf3⟩, he⟩ F4 N4
      dsimp only at *
      rw [List.take_length] at he
      k_steps
      dsimp only
      subst he hc
      exact ret _ _ _ _ _ F4.keep (N4 _ (.head _)).2.2 (N4 _ (.head _)).1 lo0 hd3 hf3
end
theorem reset_C3 {M : Model} {A : Around} {E : Value → Shared → Prop} {Q : Flow → Shared → Prop} {s : Shared} {env : Env} (h : Q .next s) : wpAny M A (execs [] env) Q E s := by
  w_top off
  walk1
  w_top off
  exact h
section
theorem new_at {s : Shared} {h₀ h' : Heap} {L a : Addr} {o : Obj} {m : Str → Option Value} {news : List (Addr × Obj)} (F : Fr h₀ L s.heap m) (N : News h₀ L s.heap news) (st : s.heap.StaysIn h') (hn : s.heap.get? a = none) (ho : h'.get? a = some o) :
    Fr h₀ L h' m ∧ News h₀ L h' ((a, o) :: news) ∧ AllNe a news := by
  refine ⟨F.keeps st, ?_, AllNe.of fun p hp e => ?_⟩
  · intro p hp
    rcases List.mem_cons.mp hp with rfl | hp
    · refine ⟨ho, fun e => ?_, ?_⟩
      · obtain ⟨oL, _, _, hL, _⟩ := F.ns
        have e' : a = L := e
        rw [e', hL] at hn; cases hn
      · cases q : h₀.get? a with
        | none => rfl
        | some x => have := F.keep _ _ q; rw [hn] at this; cases this
    · exact N.grown st p hp
  · have := (N p hp).1
    rw [e, hn] at this; cases this

section
variable {w : World} {loose : List Str} {mean : ExcName → Option Value} {mg mb : Str → Option Value} {s : Shared} {dp un : Nat} {fr : List Env} {gd : Option (List Code)} {E Q : Value → Shared → Prop} {h₀ : Heap} {L : Addr} {m : Str → Option Value} {news : List (Addr × Obj)}
theorem count_calls_use {d : Addr} {c : List (Str × Int)} (F : Fr h₀ L s.heap m) (N : News h₀ L s.heap news) (X : (hd.heap_39 w.params).In h₀) (T : Top hd.view_39 loose mean mg mb h₀) (hdp : dp + 10 < recursionLimit) (hun : un + 100 < cLine)
    (Ta : StrTab PySem.Challenge.rw_pm0056_02.row.prog w s.heap d (kdpD c))
    (ret : ∀ h' tk t, Fr h₀ L h' m → News h₀ L h' news → Q (.int (sumv c) t) { s with heap := h', toks := tk }) :
    wpAny (model PySem.Challenge.rw_pm0056_02.row.prog w) (amb dp un fr gd) (call (.ref 214) [.ref d]) Q E s :=
  count_calls_spec (X.keeps F.keep) (T.keeps F.keep) hdp hun Ta fun h' tk t st => ret h' tk t (F.keeps st) (N.grown st)
theorem add_callers_use {d1 d2 : Addr} {c1 c2 : List (Str × Int)} (F : Fr h₀ L s.heap m) (N : News h₀ L s.heap news) (X : (hd.heap_39 w.params).In h₀) (T : Top hd.view_39 loose mean mg mb h₀) (hdp : dp + 10 < recursionLimit) (hun : un + 100 < cLine)
    (T1 : StrTab PySem.Challenge.rw_pm0056_02.row.prog w s.heap d1 (kdpD c1)) (T2 : StrTab PySem.Challenge.rw_pm0056_02.row.prog w s.heap d2 (kdpD c2)) (hsz : c1.length + c2.length ≤ 10000)
    (ret : ∀ a o kvs h' tk, Fr h₀ L h' m → News h₀ L h' ((a, o) :: news) → AllNe a news → (a == sysModules) = false → o.IsDictOf (PySem.strKind PySem.Challenge.rw_pm0056_02.row.prog w) kvs → FlatPairs PyData.str kvs (kdpD (addC (copyC c1) c2)) → Q (.ref a) { s with heap := h', toks := tk }) :
    wpAny (model PySem.Challenge.rw_pm0056_02.row.prog w) (amb dp un fr gd) (call (.ref 207) [.ref d1, .ref d2]) Q E s :=
  add_callers_spec (X.keeps F.keep) (T.keeps F.keep) hdp hun T1 T2 hsz fun a o kvs h' tk st hn ho lo hd hf => by
    obtain ⟨F', N', ne⟩ := new_at F N st hn ho
    exact ret a o kvs h' tk F' N' ne lo hd hf
end

local macro_rules | `(tactic| walk_at "call ref") => `(tactic| (k_here; (with_reducible show wpAny _ _ (call (Value.ref 214) [Value.ref _]) _ _ _); k_dflt (refine' count_calls_use ?k1 ?k2 ?k3 ?k4 ?k5 ?k6 ?k7 ?_; (case k1 => k_asm); (case k2 => k_asm); (case k3 => assumption); (case k4 => assumption); (case k5 => omega); (case k6 => omega); (case k7 => k_tabat)); intro h' tk' t' F' N'; (try k_sweep)))
local macro_rules | `(tactic| walk_at "call ref") => `(tactic| (k_here; (with_reducible show wpAny _ _ (call (Value.ref 207) [Value.ref _, Value.ref _]) _ _ _); k_dflt (refine' add_callers_use ?k1 ?k2 ?k3 ?k4 ?k5 ?k6 ?k7 ?k8 ?k9 ?_; (case k1 => k_asm); (case k2 => k_asm); (case k3 => assumption); (case k4 => assumption); (case k5 => omega); (case k6 => omega); (case k7 => k_tabat); (case k8 => k_tabat); (case k9 => omega)); intro a' o' kvs' h' tk' F' N' ne' lo' hd' hf'; (try simp only [AllNe, and_true] at ne'); (try k_sweep)))

theorem add_func_stats_spec {w : World} {loose : List Str} {mean : ExcName → Option Value} {mg mb : Str → Option Value} {s : Shared} {dp un : Nat} {fr : List Env} {gd : Option (List Code)} {A B d1 d2 : Addr} {a1 a2 a3 a4 b1 b2 b3 b4 : Int} {t1 t2 t3 t4 u1 u2 u3 u4 : Tok} {c1 c2 : List (Str × Int)} {E Q : Value → Shared → Prop} :
    (hd.heap_39 w.params).In s.heap → Top hd.view_39 loose mean mg mb s.heap → dp + 20 < recursionLimit → un + 200 < cLine →
    IsTup s.heap A #[.int a1 t1, .int a2 t2, .int a3 t3, .int a4 t4, .ref d1] → IsTup s.heap B #[.int b1 u1, .int b2 u2, .int b3 u3, .int b4 u4, .ref d2] →
    StrTab PySem.Challenge.rw_pm0056_02.row.prog w s.heap d1 (kdpD c1) → StrTab PySem.Challenge.rw_pm0056_02.row.prog w s.heap d2 (kdpD c2) →
    c1.length + c2.length ≤ 10000 →
    (∀ Tp a o kvs h' tk v1 v2 v3 v4, s.heap.StaysIn h' → s.heap.get? Tp = none → h'.get? Tp = some { cls := .type "tuple", data := .seq #[.int (b1 + a1) v1, .int (b2 + a2) v2, .int (b3 + a3) v3, .int (b4 + a4) v4, .ref a] } → s.heap.get? a = none → h'.get? a = some o → Tp ≠ a → (a == sysModules) = false → o.IsDictOf (PySem.strKind PySem.Challenge.rw_pm0056_02.row.prog w) kvs → FlatPairs PyData.str kvs (kdpD (addC (copyC c1) c2)) → Q (.ref Tp) { s with heap := h', toks := tk }) →
    wpAny (model PySem.Challenge.rw_pm0056_02.row.prog w) (amb dp un fr gd) (call (.ref 200) [.ref A, .ref B]) Q E s := by
  k_fill
  intro X T hdp hun TA TB T1 T2 hsz ret
  k_dflt (refine' call_me (binds := [("target", .ref A), ("source", .ref B)]) X T ?ho ?hcd ?hroom ?hb ?hl ?hc ?hco ?hgen ?hk ?_; (case ho => k_is); (case hcd => k_is); (case hroom => omega); (case hb => exact BindsTo.of_eq rfl); (case hl => exact locs rfl); (case hc => decide); (case hco => exact rfl); (case hgen => exact rfl); (case hk => exact rfl))
  intro L h₁ F N
  have TA' := TA.keeps F.keep
  have TB' := TB.keeps F.keep
  k_steps
  rename Fr _ _ _ _ => FZ
  rename News _ _ _ _ => NZ
  rename Obj.IsDictOf _ _ _ => hdz
  rename FlatPairs _ _ _ => hfz
  rename (_ == sysModules) = false => loz
  exact ret _ _ _ _ _ _ _ _ _ _ FZ.keep (NZ _ (.head _)).2.2 (NZ _ (.head _)).1 (NZ _ (.tail _ (.head _))).2.2 (NZ _ (.tail _ (.head _))).1 (by k_ne) loz hdz hfz
end
theorem reset_C4 {M : Model} {A : Around} {E : Value → Shared → Prop} {Q : Flow → Shared → Prop} {s : Shared} {env : Env} (h : Q .next s) : wpAny M A (execs [] env) Q E s := by
  w_top off
  walk1
  w_top off
  exact h
section
theorem last_mid {a b : Value} {l : List Value} : (a :: (l ++ [b])).getLast? = some b := List.getLast?_concat (l := a :: l)
section
local macro_rules | `(tactic| walk_at "call builtin:str.split") => `(tactic| (k_here; (try dsimp only [List.cons_append, List.nil_append]); (with_reducible show wpAny _ _ (call (Value.builtin "str.split") [Value.str _ _, Value.str _ _]) _ _ _); refine hold_in ?_))
local macro_rules | `(tactic| walk_at "call builtin:len") => `(tactic| (k_here; (try dsimp only [List.cons_append, List.nil_append]); (with_reducible show wpAny _ _ (call (Value.builtin "len") [Value.ref _]) _ _ _); (refine len_led (by k_asm) (by k_mem) ?_ ?_); (simp only [strValues, List.length_cons, List.length_append, List.length_map, List.length_nil]; omega); (simp only [strValues, List.length_cons, List.length_append, List.length_map, List.length_nil])))
local macro_rules | `(tactic| walk_at "subscriptTail Name Constant ref int") => `(tactic| (k_here; (refine item_led (by k_asm) (by k_mem) (by decide) (by decide) (by exact rfl) ?_)))
local macro_rules | `(tactic| walk_at "subscriptTail Name UnaryOp ref int") => `(tactic| (k_here; (refine last_led (by k_asm) (by k_mem) (by (simp only [strValues, List.length_cons, List.length_append, List.length_map, List.length_nil]; omega)) last_mid ?_)))
local macro_rules | `(tactic| walk_at "call builtin:str.find") => `(tactic| (k_here; (refine find_to ?_)))
local macro_rules | `(tactic| walk_at "pyIter ref") => `(tactic| (refine hold_in ?_))

theorem em_mid_spec {w : World} {loose : List Str} {mean : ExcName → Option Value} {mg mb : Str → Option Value} {s : Shared} {dp un : Nat} {fr : List Env} {gd : Option (List Code)} {W G : Str} {mid : List Str} {tw tg : Tok} {E Q : Value → Shared → Prop} :
    (hd.heap_39 w.params).In s.heap → Top hd.view_39 loose mean mg mb s.heap → dp + 10 < recursionLimit → un + 100 < cLine → W.length ≤ 100 → G.length ≤ 100 →
    Txt.contains W "..." = true → Txt.split W "..." = Str.empty :: (mid ++ [Str.empty]) → mid.length ≤ 100 → (∀ x ∈ mid, x.length ≤ 100) →
    (∀ h' tk, s.heap.StaysIn h' → Q (.bool (chase G (Str.empty :: (mid ++ [Str.empty])) 0)) { s with heap := h', toks := tk }) →
    wpAny (model PySem.Challenge.rw_pm0056_02.row.prog w) (amb dp un fr gd) (call (.ref 193) [.str W tw, .str G tg]) Q E s := by
  k_fill
  intro X T hdp hun hW hG hcon hsp hmid hsm ret
  k_dflt (refine' call_me (binds := [("want", .str W tw), ("got", .str G tg)]) X T ?ho ?hcd ?hroom ?hb ?hl ?hc ?hco ?hgen ?hk ?_; (case ho => k_is); (case hcd => k_is); (case hroom => omega); (case hb => exact BindsTo.of_eq rfl); (case hl => exact locs rfl); (case hc => decide); (case hco => exact rfl); (case hgen => exact rfl); (case hk => exact rfl))
  intro L h₁ F N
  k_steps
  · exfalso
    rename (_ = true) => hx
    rw [show (Builtin.Str.occurrences W "..." 0 W.length 1).isEmpty = !Txt.contains W "..." by unfold Txt.contains; rw [Bool.not_not], hcon] at hx
    cases hx
  unfold Hold
  rename (_ = false) => hocc
  clear hocc
  refine split_mid (by k_asm) (by k_asm) (by decide) (by assumption) ?_ (by rw [sizeLine_eq]; omega)
  intro DL t0 lm t1 h2 k hlm hln F1 N1 l1
  clear l1 F N
  k_steps
  unfold Hold
  rename Fr _ _ _ _ => F1
  rename News _ _ _ _ => N1
  have hS : ∀ (i : Nat) (v : Value), (Value.str Str.empty t0 :: (strValues lm ++ [Value.str Str.empty t1]))[i]? = some v → ∃ (x : Str) (t : Tok), v = Value.str x t ∧ (Str.empty :: (mid ++ [Str.empty]))[i]? = some x ∧ x.length ≤ 100 := by
    intro i v hv
    have e : Value.str Str.empty t0 :: (strValues lm ++ [Value.str Str.empty t1]) = ((Str.empty, t0) :: (lm ++ [(Str.empty, t1)])).map (fun p : Str × Tok => Value.str p.1 p.2) := by simp [strValues]
    rw [e, List.getElem?_map] at hv
    cases hq : ((Str.empty, t0) :: (lm ++ [(Str.empty, t1)]))[i]? with
    | none => rw [hq] at hv; cases hv
    | some q =>
      rw [hq] at hv
      obtain ⟨x, t⟩ := q
      cases hv
      have e2 : Str.empty :: (mid ++ [Str.empty]) = ((Str.empty, t0) :: (lm ++ [(Str.empty, t1)])).map (·.1) := by simp [hlm]
      have hx : (Str.empty :: (mid ++ [Str.empty]))[i]? = some x := by rw [e2, List.getElem?_map, hq]; rfl
      refine ⟨x, t, rfl, hx, ?_⟩
      have hm := List.mem_of_getElem? hx
      simp only [List.mem_cons, List.mem_append, List.not_mem_nil, or_false] at hm
      rcases hm with rfl | hm | rfl
      · exact Nat.zero_le _
      · exact hsm x hm
      · exact Nat.zero_le _
  have hlenS : (Str.empty :: (mid ++ [Str.empty])).length = (Value.str Str.empty t0 :: (strValues lm ++ [Value.str Str.empty t1])).length := by simp [strValues, hln]
  generalize hSS : Str.empty :: (mid ++ [Str.empty]) = SS at *
  generalize hVV : Value.str Str.empty t0 :: (strValues lm ++ [Value.str Str.empty t1]) = VV at *
  refine it_list (vs := VV) (σ := Int × Tok) (keep := [(DL, listOf VV.toArray 0)]) (fun _ => [(DL, listOf VV.toArray 0)]) (fun a => [("startpos", .int a.1 a.2)]) (fun i a => chase G SS 0 = chase G (SS.drop i) a.1 ∧ 0 ≤ a.1) ["w", "startpos"] rfl (list_led N1 (.tail _ (.head _))) (src_news N1 (.tail _ (.head _))) F1 (fun p hp => N1 p (.tail _ hp)) (fun _ => ⟨.head _, trivial⟩) ⟨(0, _), rfl, ⟨by rw [List.drop_zero], Int.le_refl 0⟩, by with_unfolding_all exact ⟨rfl, trivial⟩⟩ ?_ ?_
  · rintro I i ⟨p0, pt⟩ v u h₂ tk₂ oI hv ⟨hc1, hc2⟩ hlt hne F2 N2
    obtain ⟨x, xt, rfl, hx, hxl⟩ := hS i v hv
    dsimp only at hc1 hc2
    obtain ⟨hne0, -⟩ := hne
    have hlt0 := hlt.1
    dsimp only at hne0 hlt0
    have hd : SS.drop i = x :: SS.drop (i + 1) := by
      obtain ⟨hi, e⟩ := List.getElem?_eq_some_iff.mp hx
      rw [← e]; exact List.drop_eq_getElem_cons hi
    rw [hd, chase] at hc1
    k_steps
    · rename Txt.find3 _ _ _ < 0 => hneg
      rename Fr _ _ _ _ => FZ
      rw [if_pos hneg] at hc1
      rw [hc1] at ret
      exact ret _ _ FZ.keep
    · rename ¬ Txt.find3 _ _ _ < 0 => hneg
      rw [if_neg hneg] at hc1
      replace hneg : ¬ Txt.find3 G x p0 < 0 := hneg
      refine turn_end (Txt.find3 G x p0 + (x.length : Nat), _) (by assumption) (by assumption) (by k_mem) ⟨by k_mem, trivial⟩ ⟨by exact hne0, trivial⟩ ⟨hc1, by dsimp only; omega⟩ (by with_unfolding_all exact ⟨rfl, trivial⟩) ?_
      intro z hz
      obtain ⟨h1, h2, -⟩ := id hz
      simp only [h1, h2, if_false]
      rw [fmap_off ?hs hz]
      case hs => with_unfolding_all rfl
      simp only [h1, h2, if_false]
  · rintro ⟨p0, pt⟩ u h₂ tk₂ ⟨hc1, hc2⟩ F2 N2
    k_steps
    dsimp only at hc1 ⊢
    rw [List.drop_eq_nil_of_le (by omega)] at hc1
    rw [hc1] at ret
    exact ret _ _ F2.keep
end
end
theorem reset_C6a {M : Model} {A : Around} {E : Value → Shared → Prop} {Q : Flow → Shared → Prop} {s : Shared} {env : Env} (h : Q .next s) : wpAny M A (execs [] env) Q E s := by
  w_top off
  walk1
  w_top off
  exact h
section
theorem map_lst_inj {a : List Str} {b : List (List Nat)} {c : List Str} (h : a.map lst = b) (h' : c.map lst = b) : a = c := by
  subst h'
  induction a generalizing c with
  | nil => cases c with
    | nil => rfl
    | cons _ _ => cases h
  | cons x r ih => cases c with
    | nil => cases h
    | cons y q =>
      rw [List.map_cons, List.map_cons, List.cons.injEq] at h
      rw [lst_inj h.1, ih h.2]

section
variable {w : World} {loose : List Str} {mean : ExcName → Option Value} {mg mb : Str → Option Value} {s : Shared} {dp un : Nat} {fr : List Env} {gd : Option (List Code)} {E Q : Value → Shared → Prop} {h₀ : Heap} {L : Addr} {m : Str → Option Value} {news : List (Addr × Obj)}
theorem em_mid_use {W G : Str} {mid : List Str} {tw tg : Tok} (F : Fr h₀ L s.heap m) (N : News h₀ L s.heap news) (X : (hd.heap_39 w.params).In h₀) (T : Top hd.view_39 loose mean mg mb h₀) (hdp : dp + 10 < recursionLimit) (hun : un + 100 < cLine)
    (hW : W.length ≤ 100) (hG : G.length ≤ 100) (hm : mid.length ≤ 100) (hm2 : ∀ x ∈ mid, x.length ≤ 100) (hno : ∀ x ∈ mid, 46 ∉ lst x) (hWl : lst W = dotted ([] :: (mid.map lst ++ [[]])))
    (ret : ∀ h' tk, Fr h₀ L h' m → News h₀ L h' news → Q (.bool (chaseL (mid.map lst) (lst G))) { s with heap := h', toks := tk }) :
    wpAny (model PySem.Challenge.rw_pm0056_02.row.prog w) (amb dp un fr gd) (call (.ref 193) [.str W tw, .str G tg]) Q E s := by
  obtain ⟨q, r, hqr⟩ : ∃ q r, mid.map lst ++ [[]] = q :: r := by
    cases mid.map lst with
    | nil => exact ⟨_, _, rfl⟩
    | cons a b => exact ⟨_, _, rfl⟩
  have hsp := split_dotted W [] q r (by
    rw [← hqr]
    intro z hz
    rcases List.mem_cons.mp hz with rfl | hz
    · simp
    rcases List.mem_append.mp hz with hz | hz
    · obtain ⟨x, hx, rfl⟩ := List.mem_map.mp hz
      exact hno x hx
    · rw [List.mem_singleton.mp hz]; simp) (by rw [hWl, hqr])
  have hsp2 : Txt.split W "..." = Str.empty :: (mid ++ [Str.empty]) := map_lst_inj hsp.2 (by rw [← hqr]; simp [lst_empty])
  refine em_mid_spec (X.keeps F.keep) (T.keeps F.keep) hdp hun hW hG hsp.1 hsp2 hm hm2 fun h' tk st => ?_
  have e : chase G (Str.empty :: (mid ++ [Str.empty])) 0 = chaseL (mid.map lst) (lst G) := by
    rw [chase_eq G _ 0 (Int.le_refl 0) (by omega)]
    show chaseL (lst Str.empty :: (mid ++ [Str.empty]).map lst) ((lst G).drop 0) = _
    rw [List.map_append, List.drop_zero]
    exact chaseL_mid (mid.map lst) (lst G)
  rw [e]
  exact ret h' tk (F.keeps st) (N.grown st)
end
end
theorem reset_C8 {M : Model} {A : Around} {E : Value → Shared → Prop} {Q : Flow → Shared → Prop} {s : Shared} {env : Env} (h : Q .next s) : wpAny M A (execs [] env) Q E s := by
  w_top off
  walk1
  w_top off
  exact h
section
section
variable {prog : Program} {w : World} {A : Around} {E : Value → Shared → Prop} {s : Shared} {h₀ : Heap} {L P C : Addr} {m : Str → Option Value} {K : Frag} {x : Str} {t : Tok} {pl : Sem Bool}
theorem sm_K {d : Data} {sl : Array (Option Value)} {Q : Value × List Value → Shared → Prop} (F : Fr h₀ L s.heap m) (X : K.In h₀) (hl : K.lookup P = some ⟨.type "re.Pattern", none, d, sl⟩) (h : Q (.builtin "re.Pattern.search", [.ref P]) s) : wpAny (model prog w) A (getMethod (.ref P) "search" pl) Q E s :=
  search_meth ((X.keeps F.keep) _ _ hl) rfl rfl h
theorem chars_no {code : Array Nat} (hx : ∀ c ∈ lst x, 32 < c ∧ c < 127) (hh : ∀ c, 32 < c → c < 127 → NoHit code c) : ∀ i, i < x.cps.size → NoHit code (x.cps.getD i 0) := by
  intro i hi
  have hg : (lst x)[i]? = some (x.cps.getD i 0) := by
    rw [Array.getElem?_toList, Array.getElem?_eq_getElem hi]
    simp [hi]
  obtain ⟨a, b⟩ := hx _ (List.mem_of_getElem? hg)
  exact hh _ a b
open PySem.Builtin.Re in
theorem sr_KN {pv fl gi ix cc : Value} {dd : Option Addr} {cs : Array Value} {n : Nat} {z0 z1 : Tok} {sl sl' : Array (Option Value)} {Q : Value → Shared → Prop} (F : Fr h₀ L s.heap m) (X : K.In h₀)
    (hl : K.lookup P = some ⟨.type "re.Pattern", none, .fields #[pv, fl, .int 0 z0, gi, ix, .ref C, .int 0 z1], sl⟩) (hc : K.lookup C = some ⟨cc, dd, .seq cs n, sl'⟩) (hcode : (cs.map reRawOf).map (·.toNat) = codeN) (hx : x.length ≤ 1000) (hx2 : ∀ c ∈ lst x, 32 < c ∧ c < 127)
    (h : Q .none s) : wpAny (model prog w) A (call (.builtin "re.Pattern.search") [.ref P, .str x t]) Q E s :=
  search_rule ((X.keeps F.keep) _ _ hl) rfl rfl ((X.keeps F.keep) _ _ hc) rfl hcode (search_N _ (chars_no hx2 fun _ => noHitN)) hx h
open PySem.Builtin.Re in
theorem sr_KV {pv fl gi ix cc : Value} {dd : Option Addr} {cs : Array Value} {n : Nat} {z0 z1 : Tok} {sl sl' : Array (Option Value)} {Q : Value → Shared → Prop} (F : Fr h₀ L s.heap m) (X : K.In h₀)
    (hl : K.lookup P = some ⟨.type "re.Pattern", none, .fields #[pv, fl, .int 0 z0, gi, ix, .ref C, .int 0 z1], sl⟩) (hc : K.lookup C = some ⟨cc, dd, .seq cs n, sl'⟩) (hcode : (cs.map reRawOf).map (·.toNat) = codeV) (hx : x.length ≤ 1000) (hx2 : ∀ c ∈ lst x, 32 < c ∧ c < 127)
    (h : Q .none s) : wpAny (model prog w) A (call (.builtin "re.Pattern.search") [.ref P, .str x t]) Q E s :=
  search_rule ((X.keeps F.keep) _ _ hl) rfl rfl ((X.keeps F.keep) _ _ hc) rfl hcode (search_V _ (chars_no hx2 fun _ => noHitV)) hx h
end

section
local macro_rules | `(tactic| walk_at "getMethod ref") => `(tactic| (k_here; (with_reducible show wpAny _ _ (getMethod (Value.ref _) (Str.ofString "search") _) _ _ _); k_dflt (refine' sm_K ?k1 ?k2 ?k3 ?_; (case k1 => k_asm); (case k2 => assumption); (case k3 => k_is))))
local macro_rules | `(tactic| walk_at "call builtin:re.Pattern.search") => `(tactic| (k_here; (try dsimp only [List.cons_append, List.nil_append]); (with_reducible show wpAny _ _ (call (Value.builtin "re.Pattern.search") [Value.ref _, Value.str _ _]) _ _ _); k_dflt (first
  | (refine' sr_KN ?k1 ?k2 ?k3 ?k4 ?k5 ?k6 ?k7 ?_; (case k1 => k_asm); (case k2 => assumption); (case k3 => k_is); (case k4 => k_is); (case k5 => decide +kernel); (case k6 => omega); (case k7 => assumption))
  | (refine' sr_KV ?k1 ?k2 ?k3 ?k4 ?k5 ?k6 ?k7 ?_; (case k1 => k_asm); (case k2 => assumption); (case k3 => k_is); (case k4 => k_is); (case k5 => decide +kernel); (case k6 => omega); (case k7 => assumption)))))
theorem conv_spec {w : World} {loose : List Str} {mean : ExcName → Option Value} {mg mb : Str → Option Value} {s : Shared} {dp un : Nat} {fr : List Env} {gd : Option (List Code)} {sf : Value} {x : Str} {tx : Tok} {b : Bool} {E Q : Value → Shared → Prop} :
    (hd.heap_39 w.params).In s.heap → Top hd.view_39 loose mean mg mb s.heap → dp + 20 < recursionLimit → un + 200 < cLine → x.length ≤ 100 → (∀ c ∈ lst x, 32 < c ∧ c < 127) →
    (∀ h' tk, s.heap.StaysIn h' → Q (.str x tx) { s with heap := h', toks := tk }) →
    wpAny (model PySem.Challenge.rw_pm0056_02.row.prog w) (amb dp un fr gd) (call (.ref 83) [sf, .str x tx] [("name", .bool b)]) Q E s := by
  k_fill
  intro X T hdp hun hx1 hx2 ret
  k_dflt (refine' call_me (binds := [("self", sf), ("value", .str x tx), ("name", .bool b)]) X T ?ho ?hcd ?hroom ?hb ?hl ?hc ?hco ?hgen ?hk ?_; (case ho => k_is); (case hcd => k_is); (case hroom => omega); (case hb => exact BindsTo.of_eq rfl); (case hl => exact locs rfl); (case hc => decide); (case hco => exact rfl); (case hgen => exact rfl); (case hk => exact rfl))
  intro L h₁ F N
  k_steps
  all_goals (exact ret _ _ (Fr.keep (by assumption)))
end
end
theorem reset_C8b {M : Model} {A : Around} {E : Value → Shared → Prop} {Q : Flow → Shared → Prop} {s : Shared} {env : Env} (h : Q .next s) : wpAny M A (execs [] env) Q E s := by
  w_top off
  walk1
  w_top off
  exact h
section
section
variable {w : World} {loose : List Str} {mean : ExcName → Option Value} {mg mb : Str → Option Value} {s : Shared} {dp un : Nat} {fr : List Env} {gd : Option (List Code)} {E Q : Value → Shared → Prop} {h₀ : Heap} {L : Addr} {m : Str → Option Value} {news : List (Addr × Obj)}
theorem conv_use {x : Str} {tx : Tok} {sf : Value} {b : Bool} (F : Fr h₀ L s.heap m) (N : News h₀ L s.heap news) (X : (hd.heap_39 w.params).In h₀) (T : Top hd.view_39 loose mean mg mb h₀) (hdp : dp + 20 < recursionLimit) (hun : un + 200 < cLine)
    (hx : x.length ≤ 100) (hx2 : ∀ c ∈ lst x, 32 < c ∧ c < 127)
    (ret : ∀ h' tk, Fr h₀ L h' m → News h₀ L h' news → Q (.str x tx) { s with heap := h', toks := tk }) :
    wpAny (model PySem.Challenge.rw_pm0056_02.row.prog w) (amb dp un fr gd) (call (.ref 83) [sf, .str x tx] [("name", .bool b)]) Q E s :=
  conv_spec (X.keeps F.keep) (T.keeps F.keep) hdp hun hx hx2 fun h' tk st => ret h' tk (F.keeps st) (N.grown st)
end
section
variable {prog : Program} {w : World} {A : Around} {E : Value → Shared → Prop} {s : Shared} {Q : Value → Shared → Prop} {x : Str} {t : Tok}
theorem lower_abc (hx : Abc x) (hl : x.length ≤ 20) (h : Q (.str x s.toks) { s with toks := s.toks + 1 }) : wpAny (model prog w) A (call (.builtin "str.lower") [.str x t]) Q E s :=
  SCL.lower (by omega) fun _ => by rw [low_abc hx]; exact h
theorem upper_abc (hx : Abc x) (hl : x.length ≤ 20) (h : Q (.str (Txt.upper x) s.toks) { s with toks := s.toks + 1 }) : wpAny (model prog w) A (call (.builtin "str.upper") [.str x t]) Q E s :=
  SCL.upper (by omega) fun _ => h
end
theorem InLed.of_all {big : List (Addr × Obj)} : ∀ {l : List (Addr × Obj)}, (∀ p ∈ l, p ∈ big) → InLed big l
  | [], _ => trivial
  | _ :: _, h => ⟨h _ (.head _), InLed.of_all fun q hq => h q (.tail _ hq)⟩
end
theorem reset_C12a {M : Model} {A : Around} {E : Value → Shared → Prop} {Q : Flow → Shared → Prop} {s : Shared} {env : Env} (h : Q .next s) : wpAny M A (execs [] env) Q E s := by
  w_top off
  walk1
  w_top off
  exact h
section
def tup (vs : List Value) : Obj := { cls := .type "tuple", data := .seq vs.toArray }
theorem new_two {s : Shared} {h₀ h' : Heap} {L a b : Addr} {oa ob : Obj} {m : Str → Option Value} {news : List (Addr × Obj)} (F : Fr h₀ L s.heap m) (N : News h₀ L s.heap news) (st : s.heap.StaysIn h') (hna : s.heap.get? a = none) (hoa : h'.get? a = some oa) (hnb : s.heap.get? b = none) (hob : h'.get? b = some ob) :
    Fr h₀ L h' m ∧ News h₀ L h' ((a, oa) :: (b, ob) :: news) ∧ AllNe a news ∧ AllNe b news := by
  obtain ⟨F1, N1, A1⟩ := new_at F N st hna hoa
  obtain ⟨F2, N2, A2⟩ := new_at F N st hnb hob
  refine ⟨F1, ?_, A1, A2⟩
  intro p hp
  rcases List.mem_cons.mp hp with rfl | hp
  · exact N1 _ (.head _)
  · exact N2 _ hp
theorem add_func_stats_use {w : World} {loose : List Str} {mean : ExcName → Option Value} {mg mb : Str → Option Value} {s : Shared} {dp un : Nat} {fr : List Env} {gd : Option (List Code)} {E Q : Value → Shared → Prop} {h₀ : Heap} {L : Addr} {m : Str → Option Value} {news : List (Addr × Obj)}
    {A B d1 d2 : Addr} {a1 a2 a3 a4 b1 b2 b3 b4 : Int} {t1 t2 t3 t4 u1 u2 u3 u4 : Tok} {c1 c2 : List (Str × Int)}
    (F : Fr h₀ L s.heap m) (N : News h₀ L s.heap news) (X : (hd.heap_39 w.params).In h₀) (T : Top hd.view_39 loose mean mg mb h₀) (hdp : dp + 20 < recursionLimit) (hun : un + 200 < cLine)
    (hA : (A, tup [.int a1 t1, .int a2 t2, .int a3 t3, .int a4 t4, .ref d1]) ∈ news) (hB : (B, tup [.int b1 u1, .int b2 u2, .int b3 u3, .int b4 u4, .ref d2]) ∈ news)
    (T1 : StrTab PySem.Challenge.rw_pm0056_02.row.prog w s.heap d1 (kdpD c1)) (T2 : StrTab PySem.Challenge.rw_pm0056_02.row.prog w s.heap d2 (kdpD c2)) (hsz : c1.length + c2.length ≤ 10000)
    (ret : ∀ Tp a o kvs h' tk v1 v2 v3 v4, Fr h₀ L h' m → News h₀ L h' ((Tp, tup [.int (b1 + a1) v1, .int (b2 + a2) v2, .int (b3 + a3) v3, .int (b4 + a4) v4, .ref a]) :: (a, o) :: news) → AllNe Tp news → AllNe a news → (Tp : Nat) ≠ a → (a == sysModules) = false → o.IsDictOf (PySem.strKind PySem.Challenge.rw_pm0056_02.row.prog w) kvs → FlatPairs PyData.str kvs (kdpD (addC (copyC c1) c2)) → Q (.ref Tp) { s with heap := h', toks := tk }) :
    wpAny (model PySem.Challenge.rw_pm0056_02.row.prog w) (amb dp un fr gd) (call (.ref 200) [.ref A, .ref B]) Q E s :=
  add_func_stats_spec (X.keeps F.keep) (T.keeps F.keep) hdp hun ⟨_, (N _ hA).1, rfl, _, rfl⟩ ⟨_, (N _ hB).1, rfl, _, rfl⟩ T1 T2 hsz fun Tp a o kvs h' tk v1 v2 v3 v4 st hnT hoT hna hoa hne lo hd hf => by
    obtain ⟨F', N', A1, A2⟩ := new_two F N st hnT hoT hna hoa
    exact ret Tp a o kvs h' tk v1 v2 v3 v4 F' N' A1 A2 hne lo hd hf
end
theorem reset_D0 {M : Model} {A : Around} {E : Value → Shared → Prop} {Q : Flow → Shared → Prop} {s : Shared} {env : Env} (h : Q .next s) : wpAny M A (execs [] env) Q E s := by
  w_top off
  walk1
  w_top off
  exact h
section
section
variable {prog : Program} {w : World} {A : Around} {h₀ : Heap} {L : Addr} {m : Str → Option Value} {env : Env} {elt : PySem.Expr} {x : Str} {scope : Scope} {cl : List (Str × Addr)} {s : Shared} {P : Nat → Value → Prop} {Fin : List Value → List (Addr × Obj) → Prop} {S : List (Addr × Obj) → Prop}
/-- the turns of a comprehension whose elements make nothing new -/
theorem turnsM {n : Nat} {base : List (Addr × Obj)} (J : Nat → List Value → Prop) (hS : S base)
    (turn : ∀ i ys v I oI C oC D m₂ h tk (E' : Value → Shared → Prop), i < n → J i ys → P i v → LCg.NsObj oC m₂ → m₂ x = some v → Fr h₀ L h m → News h₀ L h ((I, oI) :: (C, oC) :: (D, LCg.lst ys) :: base) →
      wpAny (model prog w) A (eval elt (compEnvC scope cl C env)) (fun y s₂ => (∃ tk', s₂ = { s with heap := h, toks := tk' }) ∧ J (i + 1) (ys ++ [y])) E' { s with heap := h, toks := tk })
    (fin : ∀ ys, J n ys → Fin ys base) (h0 : J 0 []) : LCg.CompRest prog w A h₀ L m env elt x scope cl s S P Fin n 0 [] base := by
  have gen : ∀ k i, i + k = n → ∀ ys, J i ys → LCg.CompRest prog w A h₀ L m env elt x scope cl s S P Fin k i ys base := by
    intro k
    induction k with
    | zero =>
      intro i hi ys hJ
      obtain rfl : i = n := hi
      exact fin ys hJ
    | succ k ih =>
      intro i hi ys hJ
      refine LCg.CompRest.succ fun v I oI C oC D m₂ h tk E' hP hC hx F N off ne => ?_
      refine wpAny_mono (turn i ys v I oI C oC D m₂ h tk E' (by omega) hJ hP hC hx F N) (fun y s₂ h₂ => ?_) fun _ _ e => e
      obtain ⟨⟨tk2, rfl⟩, hJ'⟩ := h₂
      exact ⟨h, tk2, base, rfl, F, N, off, hS, ih (i + 1) (by omega) _ hJ'⟩
  exact gen n 0 (by omega) [] h0
end
theorem strs_snoc {vs : List Value} {xs : List Str} (h : StrsAre vs xs) (x : Str) (t : Tok) : StrsAre (vs ++ [.str x t]) (xs ++ [x]) := h.append' (.cons _ _ .nil)
theorem take_snoc {α : Type} {l : List α} {i : Nat} {a : α} (h : l[i]? = some a) : l.take (i + 1) = l.take i ++ [a] := by rw [List.take_add_one, h]; rfl
theorem ints_item : ∀ {vs : List Value} {ns : List Int}, IntsAre vs ns → ∀ (i : Nat) (v : Value), vs[i]? = some v → ∃ n t, v = .int n t ∧ ns[i]? = some n
  | _, _, .nil, i, v, h => by simp at h
  | _, _, .cons n t hr, 0, v, h => by
    cases Option.some.inj h
    exact ⟨n, t, rfl, rfl⟩
  | _, _, .cons n t hr, i + 1, v, h => ints_item hr i v h
theorem hold_src {prog : Program} {w : World} {A : Around} {h₀ : Heap} {L : Addr} {m : Str → Option Value} {env : Env} {elt : PySem.Expr} {x : Str} {scope : Scope} {cl : List (Str × Addr)} {Fin : Shared → List Value → List (Addr × Obj) → Prop} {xv : Value} {s : Shared}
    (h : Hold (LCg.CompSrc prog w A h₀ L m env elt x scope cl Fin xv s)) : LCg.CompSrc prog w A h₀ L m env elt x scope cl Fin xv s := h
theorem join_led {prog : Program} {w : World} {A : Around} {E : Value → Shared → Prop} {s : Shared} {h₀ : Heap} {L l : Addr} {news : List (Addr × Obj)} {ys : List Value} {k : Nat} {xs : List Str} {x : Str} {t : Tok} {Q : Value → Shared → Prop}
    (N : News h₀ L s.heap news) (hm : (l, ({ cls := .type "list", data := .seq ys.toArray k } : Obj)) ∈ news) (hi : StrsAre ys xs) (hok : (xs.map (·.length)).sum + xs.length * x.length ≤ 16777216)
    (h : ∀ t' k, Q (.str (Txt.join x xs) t') { s with toks := k }) : wpAny (model prog w) A (call (.builtin "str.join") [.str x t, .ref l]) Q E s :=
  join_list ⟨_, (N _ hm).1, rfl, _, rfl⟩ hi hok h
theorem strs_slice {prog : Program} {w : World} {A : Around} {E : Value → Shared → Prop} {s : Shared} {h₀ : Heap} {L l : Addr} {m : Str → Option Value} {news : List (Addr × Obj)} {value slice : PySem.Expr} {Q : Value → Shared → Prop} {ys : List Value} {k : Nat} {vl vu : Value} {lo hi : Option Int}
    (F : Fr h₀ L s.heap m) (N : News h₀ L s.heap news) (hm : (l, ({ cls := .type "list", data := .seq ys.toArray k } : Obj)) ∈ news) (hz : ys.length ≤ 1000) (pl : IsPart vl lo) (pu : IsPart vu hi)
    (h : ∀ D h', Fr h₀ L h' m → News h₀ L h' ((D, W.listOf (kms_pick ys lo hi).toArray 0) :: news) → (∀ p ∈ news, p.1 < D) → Q (.ref D) { s with heap := h' })
    (hs : subscripted slice false (.ref l) (.ref s.heap.objs.size) = operate [.ref s.heap.objs.size, .ref l] (getItem (.ref l) (.ref s.heap.objs.size))) (ht : ∀ r, letTemporaryGo value (.ref l) r = pure ()) :
    wpAny (model prog w) A (subscriptTail value slice (.ref l) (.ref s.heap.objs.size)) Q E { s with heap := s.heap.push { cls := .type "slice", data := .fields #[vl, vu, .none] } } :=
  kms_slice_lit F N ⟨_, (N _ hm).1, rfl, _, rfl⟩ pl pu rfl h hs ht (by show ys.toArray.size ≤ sizeLine; rw [List.size_toArray, sizeLine_eq]; omega)
theorem pick_to (l : List Value) (k : Nat) : kms_pick l none (some (k : Int)) = l.take k := by
  unfold kms_pick
  have e : kms_hi (some (k : Int)) l.length = min k l.length := by
    unfold kms_hi
    show (if (k : Int) < 0 then _ else _) = _
    rw [if_neg (by omega), Int.toNat_natCast]
  rw [e, show kms_lo none l.length = 0 from rfl, List.drop_zero, Nat.sub_zero, ← List.take_eq_take_min]
theorem pick_from' (l : List Value) (k : Nat) : kms_pick l (some (k : Int)) none = l.drop k := by
  unfold kms_pick
  have e : kms_lo (some (k : Int)) l.length = min k l.length := by
    unfold kms_lo
    show (if (k : Int) < 0 then _ else _) = _
    rw [if_neg (by omega), Int.toNat_natCast]
  rw [e, show kms_hi none l.length = l.length from rfl, List.take_of_length_le (by rw [List.length_drop]; omega)]
  by_cases h : k ≤ l.length
  · rw [Nat.min_eq_left h]
  · rw [Nat.min_eq_right (by omega), List.drop_of_length_le (Nat.le_refl _), List.drop_of_length_le (by omega)]
section
variable {prog : Program} {w : World} {A : Around} {E : Value → Shared → Prop} {s : Shared} {h₀ : Heap} {L l : Addr} {m : Str → Option Value} {news : List (Addr × Obj)} {value slice : PySem.Expr} {Q : Value → Shared → Prop} {ys : List Value} {xs : List Str} {n k : Nat} {u : Tok}
theorem strs_to (F : Fr h₀ L s.heap m) (N : News h₀ L s.heap news) (hm : (l, ({ cls := .type "list", data := .seq ys.toArray n } : Obj)) ∈ news) (hi : StrsAre ys xs) (hz : xs.length ≤ 1000)
    (h : ∀ D zs h', Fr h₀ L h' m → News h₀ L h' ((D, W.listOf (List.toArray zs) 0) :: news) → (∀ p ∈ news, p.1 < D) → StrsAre zs (xs.take k) → Q (.ref D) { s with heap := h' })
    (hs : subscripted slice false (.ref l) (.ref s.heap.objs.size) = operate [.ref s.heap.objs.size, .ref l] (getItem (.ref l) (.ref s.heap.objs.size))) (ht : ∀ r, letTemporaryGo value (.ref l) r = pure ()) :
    wpAny (model prog w) A (subscriptTail value slice (.ref l) (.ref s.heap.objs.size)) Q E { s with heap := s.heap.push { cls := .type "slice", data := .fields #[.none, .int (k : Int) u, .none] } } :=
  strs_slice F N hm (by rw [hi.length]; exact hz) IsPart.none (IsPart.int _ _) (fun D h' F' N' l' => h D (ys.take k) h' F' (by rw [← pick_to]; exact N') l' (hi.take' k)) hs ht
theorem strs_from (F : Fr h₀ L s.heap m) (N : News h₀ L s.heap news) (hm : (l, ({ cls := .type "list", data := .seq ys.toArray n } : Obj)) ∈ news) (hi : StrsAre ys xs) (hz : xs.length ≤ 1000)
    (h : ∀ D zs h', Fr h₀ L h' m → News h₀ L h' ((D, W.listOf (List.toArray zs) 0) :: news) → (∀ p ∈ news, p.1 < D) → StrsAre zs (xs.drop k) → Q (.ref D) { s with heap := h' })
    (hs : subscripted slice false (.ref l) (.ref s.heap.objs.size) = operate [.ref s.heap.objs.size, .ref l] (getItem (.ref l) (.ref s.heap.objs.size))) (ht : ∀ r, letTemporaryGo value (.ref l) r = pure ()) :
    wpAny (model prog w) A (subscriptTail value slice (.ref l) (.ref s.heap.objs.size)) Q E { s with heap := s.heap.push { cls := .type "slice", data := .fields #[.int (k : Int) u, .none, .none] } } :=
  strs_slice F N hm (by rw [hi.length]; exact hz) (IsPart.int _ _) IsPart.none (fun D h' F' N' l' => h D (ys.drop k) h' F' (by rw [← pick_from']; exact N') l' (hi.drop' k)) hs ht
end
theorem sum_len {xs : List Str} (h : ∀ x ∈ xs, x.length ≤ 1) : (xs.map (·.length)).sum ≤ xs.length := by
  induction xs with
  | nil => exact Nat.le_refl _
  | cons x r ih =>
    rw [List.map_cons, List.sum_cons, List.length_cons]
    have h1 := h x (.head _)
    have h2 := ih fun y hy => h y (.tail _ hy)
    omega
theorem sep_empty : (Str.ofString "").length = 0 := by rfl
section
variable {prog : Program} {w : World} {A : Around} {E : Value → Shared → Prop} {s : Shared} {env : Env} {h₀ : Heap} {target : PySem.Expr} {body : List Stmt} {Q : Flow → Shared → Prop}
theorem letGo_striter {Q' : Unit → Shared → Prop} {s' : Shared} {I : Addr} {x : Str} {t : Tok} {i : Nat} {v : Value} (hit : s'.heap.IsStrIter I "str_ascii_iterator" x t i) (h : Q' () s') : wpAny (model prog w) A (letOwnedTupleGo target (.ref I) v) Q' E s' := by
  obtain ⟨⟨cls, dd, data, sl⟩, ho, hc, hd⟩ := hit
  simp only at hc hd
  subst hc hd
  unfold letOwnedTupleGo
  cases target <;> first
    | exact wpAny_pure h
    | (cases v <;> first
        | exact wpAny_pure h
        | (refine wpAny_bind (wpAny_load ho ?_)
           exact wpAny_pure h))
theorem it_str {σ : Type} {x : Str} {tx : Tok} {m₀ : Str → Option Value} {keep led₀ : List (Addr × Obj)}
    (Led : σ → List (Addr × Obj)) (ps : σ → List (Str × Value)) (Facts : Nat → σ → Prop) (nm : List Str)
    (hh : A.handled = none) (ha : Abc x)
    (F : Fr h₀ env.locals s.heap m₀) (N : News h₀ env.locals s.heap led₀) (hkeep : ∀ c, InLed (Led c) keep) (start : ∃ c₀ : σ, Led c₀ = led₀ ∧ Facts 0 c₀ ∧ PsAre m₀ (ps c₀))
    (turn : ∀ I (i : Nat) (c : σ) ch t (u : Str → Option Value) h₁ tk₁ oI, (lst x)[i]? = some ch → Facts i c → AllLt I led₀ → AllNe I (Led c) → Fr h₀ env.locals h₁ (fmap nm u m₀ (ps c)) → News h₀ env.locals h₁ ((I, oI) :: Led c) →
      wpAny (model prog w) A (assign target env (.str ⟨#[ch]⟩ t)) (fun _ s₂ => wpAny (model prog w) A (execs body env) (LPost h₀ env.locals I oI (SJ Led ps Facts nm m₀ (i + 1)) { s with heap := h₁, toks := tk₁ } Q) E s₂) E { s with heap := h₁, toks := tk₁ })
    (done : ∀ (c : σ) (u : Str → Option Value) h' tk, Facts x.length c → Fr h₀ env.locals h' (fmap nm u m₀ (ps c)) → News h₀ env.locals h' (Led c) → Q .next { s with heap := h', toks := tk }) :
    wpAny (model prog w) A (pyIter (.str x tx)) (fun it s₂ => TurnsAt prog w A h₀ env target body Q E it s₂) E s := by
  have hasc : x.cps.all (· < 128) = true := by
    rw [Array.all_eq_true']
    intro c hc
    have := ha c (by simpa using hc)
    exact decide_eq_true (by omega)
  refine wpAny_pyIter_ascii hasc ?_
  refine turns_S (tk0 := s.toks) (n := x.cps.size) (keep := keep) (fp := []) Led ps Facts nm (KTurns.ofWalks (Walks.strAscii hh s.heap.objs.size x tx) fun i v s Q E st q => letGo_striter st q)
    (fun i h st => by obtain ⟨o, ho, _⟩ := st; exact ⟨o, ho⟩) (next_is_new F) (Nat.ne_of_lt F.ns.lt) (fun h => nomatch h) (fun b hb => nomatch hb) (fun p hp => Nat.ne_of_lt (Heap.lt_size (N p hp).1)) ?_ (F.push _)
    (fun p hp => ⟨Heap.get?_push_of_some _ (N p hp).1, (N p hp).2⟩) hkeep start ?_ done
  · exact ⟨_, Heap.get?_push_size _ rfl, rfl, rfl⟩
  · rintro i c v u h₁ tk₁ oI hi ⟨ch, t, hx, rfl⟩ hf' hne' F₁ N₁
    exact turn _ i c ch t u h₁ tk₁ oI (by rw [Array.getElem?_toList]; exact hx) hf' (allLt_of fun p hp => Heap.lt_size (N p hp).1) (AllNe.of hne') F₁ N₁
end
section
variable {prog : Program} {w : World} {A : Around} {h₀ : Heap} {L : Addr} {m : Str → Option Value} {env : Env} {ct elt : PySem.Expr} {x : Str} {scope : Scope} {cl : List (Str × Addr)} {s : Shared} {P : Nat → Value → Prop} {Fin : List Value → List (Addr × Obj) → Prop} {S : List (Addr × Obj) → Prop}
/-- a filter of the ledger's own list -/
theorem turnsF {n : Nat} {base : List (Addr × Obj)} (J : Nat → List Value → Prop) (hS : S base)
    (turn : ∀ i ys v I oI C oC D m₂ h tk (E' : Value → Shared → Prop), i < n → J i ys → P i v → LCg.NsObj oC m₂ → m₂ x = some v → Fr h₀ L h m → News h₀ L h ((I, oI) :: (C, oC) :: (D, LCg.lst ys) :: base) →
      wpAny (model prog w) A (isTrue ct (compEnvC scope cl C env) (eval ct (compEnvC scope cl C env))) (fun ok s' => (∃ tk', s' = { s with heap := h, toks := tk' }) ∧ if ok = true then
        wpAny (model prog w) A (eval elt (compEnvC scope cl C env)) (fun y s₂ => (∃ tk', s₂ = { s with heap := h, toks := tk' }) ∧ J (i + 1) (ys ++ [y])) E' s'
        else J (i + 1) ys) E' { s with heap := h, toks := tk })
    (fin : ∀ ys, J n ys → Fin ys base) (h0 : J 0 []) : LCt.CompRestT prog w A h₀ L m env ct elt x scope cl s S P Fin n 0 [] base := by
  have gen : ∀ k i, i + k = n → ∀ ys, J i ys → LCt.CompRestT prog w A h₀ L m env ct elt x scope cl s S P Fin k i ys base := by
    intro k
    induction k with
    | zero =>
      intro i hi ys hJ
      obtain rfl : i = n := hi
      exact fin ys hJ
    | succ k ih =>
      intro i hi ys hJ
      refine LCt.CompRestT.succ fun v I oI C oC D m₂ h tk E' hP hC hx F N off ne => ?_
      refine wpAny_mono (turn i ys v I oI C oC D m₂ h tk E' (by omega) hJ hP hC hx F N) (fun ok s' h' => ?_) fun _ _ e => e
      obtain ⟨⟨tk', rfl⟩, h'⟩ := h'
      cases ok with
      | true =>
        simp only [if_true] at h' ⊢
        refine wpAny_mono h' (fun y s₂ h₂ => ?_) fun _ _ e => e
        obtain ⟨⟨tk2, rfl⟩, hJ'⟩ := h₂
        exact ⟨h, tk2, base, rfl, F, N, off, hS, ih (i + 1) (by omega) _ hJ'⟩
      | false =>
        simp only [Bool.false_eq_true, if_false] at h' ⊢
        exact ⟨h, tk', base, rfl, F, N, off, hS, ih (i + 1) (by omega) _ h'⟩
  exact gen n 0 (by omega) [] h0
end
/-- letters a, b, c, small or great -/
def AbcU (x : Str) : Prop := ∀ c ∈ lst x, (97 ≤ c ∧ c ≤ 99) ∨ (65 ≤ c ∧ c ≤ 67)
def chr (x : Str) (k : Nat) : Nat := (lst x).getD k 0
def isUp (c : Nat) : Bool := decide (65 ≤ c ∧ c ≤ 90)
theorem chr_mem {x : Str} {k : Nat} (h : k < x.length) : chr x k ∈ lst x := by
  unfold chr
  rw [← lst_len] at h
  rw [List.getD_eq_getElem?_getD, List.getElem?_eq_getElem h]
  exact List.getElem_mem h
theorem isup_call {prog : Program} {w : World} {A : Around} {E : Value → Shared → Prop} {s : Shared} {x : Str} {c : Nat} {t : Tok} {Q : Value → Shared → Prop} (hx : lst x = [c]) (hc : c < 128) (h : Q (.bool (isUp c)) s) :
    wpAny (model prog w) A (call (.builtin "str.isupper") [.str x t]) Q E s := by
  have e : x = ⟨#[c]⟩ := lst_inj (by rw [hx])
  subst e
  refine SC.isupper ?_
  have : Txt.isupper ⟨#[c]⟩ = isUp c := by
    rw [one_isupper c hc]
    exact (by decide +kernel : ∀ c, c < 128 → inR 65 90 ⟨#[c]⟩ = isUp c) c hc
  rw [this]
  exact h
theorem hold_srcT {prog : Program} {w : World} {A : Around} {h₀ : Heap} {L : Addr} {m : Str → Option Value} {env : Env} {ct elt : PySem.Expr} {x : Str} {scope : Scope} {cl : List (Str × Addr)} {Fin : Shared → List Value → List (Addr × Obj) → Prop} {xv : Value} {s : Shared}
    (h : Hold (LCt.CompSrcT prog w A h₀ L m env ct elt x scope cl Fin xv s)) : LCt.CompSrcT prog w A h₀ L m env ct elt x scope cl Fin xv s := h
theorem ints_snoc : ∀ {vs : List Value} {ns : List Int}, IntsAre vs ns → ∀ (n : Int) (t : Tok), IntsAre (vs ++ [.int n t]) (ns ++ [n])
  | _, _, .nil, n, t => .cons _ _ .nil
  | _, _, .cons a u h, n, t => .cons _ _ (ints_snoc h n t)
theorem item_chr {x : Str} {k : Nat} (h : k < x.length) : lst (Txt.item x (k : Int)) = [chr x k] := by
  have hk : k < x.cps.size := h
  rw [eq_of_beq (item_closes (x := x) (i := (k : Int)) ⟨by omega, by omega⟩)]
  show [x.cps.getD (k : Int).toNat 0] = _
  unfold chr lst
  rw [Int.toNat_natCast, List.getD_eq_getElem?_getD, Array.getElem?_toList]
  simp [hk]
end
local macro_rules | `(tactic| k_room) => `(tactic| ((try simp only [depth_under_make, depth_under_kw, depth_in1, depth_deeper, depth_caller]); (try dsimp only [amb]); omega))
local macro_rules | `(tactic| k_mem) => `(tactic| assumption)
local macro_rules | `(tactic| k_all) => `(tactic| (with_reducible assumption))
local macro_rules | `(tactic| walk_at "pyIter ref") => `(tactic| (refine hold_in ?_))
local macro_rules | `(tactic| walk_at "pyIter str") => `(tactic| (refine hold_in ?_))
local macro_rules | `(tactic| walk_at "CompSrc") => `(tactic| (refine hold_src ?_))
local macro_rules | `(tactic| walk_at "CompSrcT") => `(tactic| (refine hold_srcT ?_))
local macro_rules | `(tactic| walk_at "call builtin:str.upper") => `(tactic| (k_here; (with_reducible show wpAny _ _ (call (Value.builtin "str.upper") [Value.str _ _]) _ _ _); k_dflt (refine upper_abc (by assumption) (by assumption) ?_)))
local macro_rules | `(tactic| walk_at "call ref") => `(tactic| (k_here; (try dsimp only); (with_reducible show wpAny _ _ (call (Value.ref 83) [_, Value.str _ _] _) _ _ _); k_dflt (refine' conv_use ?k1 ?k2 ?k3 ?k4 ?k5 ?k6 ?k7 ?k8 ?_; (case k1 => k_asm); (case k2 => k_asm); (case k3 => assumption); (case k4 => assumption); (case k5 => ((try dsimp only [amb, Around.deeper]); omega)); (case k6 => ((try dsimp only [amb, Around.deeper]); omega)); (case k7 => omega); (case k8 => assumption)); intro h' tk' F' N'; (try k_sweep)))
local macro_rules | `(tactic| walk_at "call builtin:list.append") => `(tactic| (k_here; (try dsimp only [List.cons_append, List.nil_append]); (with_reducible show wpAny _ _ (call (Value.builtin _) [Value.ref _, _]) _ _ _); k_dflt (refine' append_K ?k1 ?k2 ?k3 ?_ ?z; (case k1 => k_asm); (case k2 => k_asm); (case k3 => k_upd); (case z => assumption); k_whole); intro h' F' N'; (try k_sweep)))
local macro_rules | `(tactic| walk_at "call builtin:list.append") => `(tactic| (k_here; dsimp only [List.cons_append, List.nil_append]))
theorem reset_D1 {M : Model} {A : Around} {E : Value → Shared → Prop} {Q : Flow → Shared → Prop} {s : Shared} {env : Env} (h : Q .next s) : wpAny M A (execs [] env) Q E s := by
  w_top off
  walk1
  w_top off
  exact h
section
theorem letter_lst (x : Int) : lst (Txt.item (Str.ofString "abc") (x.fmod 3)) = [(97 + x.fmod 3).toNat] ∧ Abc (Txt.item (Str.ofString "abc") (x.fmod 3)) := by
  have h0 := fmod_lo x (n := 3) (by decide)
  have h1 := fmod_hi x (n := 3) (by decide)
  generalize x.fmod 3 = r at h0 h1
  have : r = 0 ∨ r = 1 ∨ r = 2 := by omega
  rcases this with rfl | rfl | rfl
  · have e : lst (Txt.item (Str.ofString "abc") 0) = [97] := by decide +kernel
    exact ⟨e, fun c hc => by rw [e] at hc; rw [List.mem_singleton.mp hc]; simp⟩
  · have e : lst (Txt.item (Str.ofString "abc") 1) = [98] := by decide +kernel
    exact ⟨e, fun c hc => by rw [e] at hc; rw [List.mem_singleton.mp hc]; simp⟩
  · have e : lst (Txt.item (Str.ofString "abc") 2) = [99] := by decide +kernel
    exact ⟨e, fun c hc => by rw [e] at hc; rw [List.mem_singleton.mp hc]; simp⟩
theorem join_lst (l : List Str) : lst (Txt.join (Str.ofString "") l) = (l.map lst).flatten := by
  rw [eq_of_beq (join_plain_closes _ _)]
  match l with
  | [] => rfl
  | [x] => show lst x = _; simp
  | x :: y :: r =>
    show lst (x ++ Str.ofString "" ++ Str.join (Str.ofString "") (y :: r)) = _
    have ih := join_lst (y :: r)
    rw [eq_of_beq (join_plain_closes _ _)] at ih
    rw [lst_append, lst_append, ih]
    rw [show lst (Str.ofString "") = [] from rfl]
    simp
/-- what `_law_drawn` gives -/
structure Drawn2 (wd one two : Str) : Prop where
  wabc : Abc wd
  oabc : Abc one
  tabc : Abc two
  wlen : wd.length = 4
  olen : one.length = 2
  tlen : two.length = 2 ∨ two.length = 3
theorem abc_join {l : List Str} (h : ∀ x ∈ l, Abc x) : Abc (Txt.join (Str.ofString "") l) := by
  intro z hz
  rw [join_lst] at hz
  obtain ⟨q, hq, hz⟩ := List.mem_flatten.mp hz
  obtain ⟨x, hx, rfl⟩ := List.mem_map.mp hq
  exact h x hx z hz
theorem letter_len (x : Int) : (Txt.item (Str.ofString "abc") (x.fmod 3)).length = 1 := by rw [← lst_len, (letter_lst x).1]; rfl
theorem len_join {l : List Str} (h : ∀ x ∈ l, x.length = 1) : (Txt.join (Str.ofString "") l).length = l.length := by
  rw [← lst_len, join_lst]
  induction l with
  | nil => rfl
  | cons x r ih =>
    rw [List.map_cons, List.flatten_cons, List.length_append, ih fun y hy => h y (.tail _ hy), lst_len, h x (.head _), List.length_cons]
    omega
theorem hold_led {M : Model} {A : Around} {Q E : Value → Shared → Prop} {s : Shared} {h₀ h : Heap} {L a : Addr} {arr : Array Value} {n : Nat} {news : List (Addr × Obj)} (_N : News h₀ L h news) (_m : (a, W.listOf arr n) ∈ news) (k : Hold (wpAny M A (call (.builtin "len") [.ref a]) Q E s)) : wpAny M A (call (.builtin "len") [.ref a]) Q E s := k
theorem slice_0431 {prog : Program} {w : World} {A : Around} {E : Value → Shared → Prop} {s : Shared} {h₀ : Heap} {L l : Addr} {m : Str → Option Value} {news : List (Addr × Obj)} {value slice : PySem.Expr} {Q : Value → Shared → Prop} {t1 t2 t3 t4 tk : Tok} {k : Nat}
    (F : Fr h₀ L s.heap m) (N : News h₀ L s.heap ((l, W.listOf #[.int 0 t1, .int 4 t2, .int 3 t3, .int 1 t4] 0) :: news))
    (h : ∀ D ws h', Fr h₀ L h' m → News h₀ L h' ((D, W.listOf (List.toArray ws) 0) :: (l, W.listOf #[.int 0 t1, .int 4 t2, .int 3 t3, .int 1 t4] 0) :: news) → (∀ p ∈ (l, W.listOf #[.int 0 t1, .int 4 t2, .int 3 t3, .int 1 t4] 0) :: news, p.1 < D) → IntsAre ws ([0, 4, 3, 1].drop k) → Q (.ref D) { s with heap := h' })
    (hs : subscripted slice false (.ref l) (.ref s.heap.objs.size) = operate [.ref s.heap.objs.size, .ref l] (getItem (.ref l) (.ref s.heap.objs.size))) (ht : ∀ r, letTemporaryGo value (.ref l) r = pure ()) :
    wpAny (model prog w) A (subscriptTail value slice (.ref l) (.ref s.heap.objs.size)) Q E { s with heap := s.heap.push { cls := .type "slice", data := .fields #[.int (k : Int) tk, .none, .none] } } := by
  have hi : IntsAre [.int 0 t1, .int 4 t2, .int 3 t3, .int 1 t4] [0, 4, 3, 1] := .cons _ _ (.cons _ _ (.cons _ _ (.cons _ _ .nil)))
  have hm := slice_ints_fromW hi (x := (k : Int)) (by omega)
  rw [Int.toNat_natCast] at hm
  exact kmk_slice_ints (c := _) F N ⟨_, (N _ (.head _)).1, rfl, _, rfl⟩ (IsPart.int _ _) IsPart.none hi hm rfl (fun D ws h' F' N' l' hI _ _ => h D ws h' F' N' l' hI) hs ht (by show (4 : Nat) ≤ sizeLine; rw [sizeLine_eq]; decide)
section
local macro_rules | `(tactic| walk_at "subscriptTail") => `(tactic| (k_here; (with_reducible show wpAny _ _ (subscriptTail (PySem.Expr.List _ _) _ _ _) _ _ _); (refine hold_in ?_)))
local macro_rules | `(tactic| walk_at "exec Assign cons ListComp") => `(tactic| (k_here; k_dflt (refine' LCg.Assign_ListComp_U ?uF ?uL ?uS ?uC ?uN ?uK ?uM ?uX ?uY ?uP ?_ ?uH; (case uF => k_asm); (case uL => rfl); (case uS => with_unfolding_all rfl); (case uC => rfl); (case uN => decide); (case uK => rfl); (case uM => decide); (case uX => rfl); (case uY => rfl); (case uP => rfl); (case uH => intro _; rfl)); k_dflt lcg_toSrc))
local macro_rules | `(tactic| walk_at "exec Assign cons ListComp") => `(tactic| (k_here; (with_reducible rename IntsAre _ (_ ++ _) => hhI); (refine hold_in ?_)))
local macro_rules | `(tactic| walk_at "call builtin:str.join") => `(tactic| (refine hold_in ?_))
local macro_rules | `(tactic| walk_at "subscriptTail Name Slice ref ref") => `(tactic| (k_here; (with_reducible show wpAny _ _ (subscriptTail _ (PySem.Expr.Slice none _ none _) (Value.ref _) (Value.ref _)) _ _ _); k_dflt (refine' strs_to (k := 2) ?F ?N ?kmm ?S ?z ?_ ?d ?e; (case F => k_asm); (case N => k_asm); (case kmm => k_mem); (case S => with_reducible assumption); (case z => ((try simp only [List.length_map]); omega)); (case d => with_unfolding_all rfl); (case e => intro _; with_unfolding_all rfl)); intro D' zs' h' F' N' l1 hZ'; (try k_lt l1); (try k_sweep)))
local macro_rules | `(tactic| walk_at "subscriptTail Name Slice ref ref") => `(tactic| (k_here; (with_reducible show wpAny _ _ (subscriptTail _ (PySem.Expr.Slice _ none none _) (Value.ref _) (Value.ref _)) _ _ _); k_dflt (refine' strs_from (k := 2) ?F ?N ?kmm ?S ?z ?_ ?d ?e; (case F => k_asm); (case N => k_asm); (case kmm => k_mem); (case S => with_reducible assumption); (case z => ((try simp only [List.length_map]); omega)); (case d => with_unfolding_all rfl); (case e => intro _; with_unfolding_all rfl)); intro D' zs' h' F' N' l1 hZ'; (try k_lt l1); (try k_sweep)))
theorem drawn_spec {w : World} {loose : List Str} {mean : ExcName → Option Value} {mg mb : Str → Option Value} {s : Shared} {dp un : Nat} {fr : List Env} {gd : Option (List Code)} {l : Addr} {vs : List Value} {ns : List Int} {E Q : Value → Shared → Prop} :
    (hd.heap_39 w.params).In s.heap → Top hd.view_39 loose mean mg mb s.heap → dp + 40 < recursionLimit → un + 400 < cLine → s.heap.IsList l vs.toArray → IntsAre vs ns → ns.length ≤ 63 →
    (∀ Tp wd one two t1 t2 t3 h' tk, s.heap.StaysIn h' → s.heap.get? Tp = none → h'.get? Tp = some (tup [.str wd t1, .str one t2, .str two t3]) → Drawn2 wd one two → Q (.ref Tp) { s with heap := h', toks := tk }) →
    wpAny (model PySem.Challenge.rw_pm0056_02.row.prog w) (amb dp un fr gd) (call (.ref 219) [.ref l]) Q E s := by
  k_fill
  intro X T hdp hun hl hns hnl ret
  k_dflt (refine' call_me (binds := [("script", .ref l)]) X T ?ho ?hcd ?hroom ?hb ?hl ?hc ?hco ?hgen ?hk ?_; (case ho => k_is); (case hcd => k_is); (case hroom => exact Nat.lt_of_le_of_lt (Nat.le_add_right _ _) hdp); (case hb => exact BindsTo.of_eq rfl); (case hl => exact locs rfl); (case hc => decide); (case hco => exact rfl); (case hgen => exact rfl); (case hk => exact rfl))
  intro L h₁ F N
  have hl1 := hl.at fun o e => F.keep l o e
  k_steps
  unfold Hold
  rename Fr _ _ _ _ => F1
  rename News _ _ _ _ => N1
  rename IntsAre _ (List.take 5 ns) => hI1
  k_dflt (refine' kba_turn (value' := PySem.Expr.Name (PySem.Str.ofString "_") ⟨0, 0, 0, 0⟩) (fun _ => rfl) ?_)
  k_dflt (refine' slice_0431 F1 N1 ?_ ?ss ?tt)
  (case ss => with_unfolding_all rfl)
  (case tt => intro _; with_unfolding_all rfl)
  intro D2 ws2 h2 F2 N2 l2 hI2
  k_lt l2
  clear F1 N1
  k_steps
  unfold Hold
  rename Fr _ _ _ _ => F1
  rename News _ _ _ _ => N1
  rename IntsAre _ (_ ++ _) => hI3
  generalize hrow : (List.take 5 ns ++ List.drop ns.length [0, 4, 3, 1]) = row at hI3
  have hrl : 4 ≤ row.length ∧ row.length ≤ 5 := by rw [← hrow]; simp only [List.length_append, List.length_take, List.length_drop, List.length_cons, List.length_nil]; omega
  clear hrow
  k_steps
  unfold Hold
  rename IntsAre _ row => hI4
  have hvl := hI4.length
  refine LCg.CompSrc.ledger rfl F1 N1 (.head _) (by rw [List.size_toArray, sizeLine_eq]; omega) ?_
  intro g
  refine turnsM (fun i ys => StrsAre ys ((row.take i).map fun x => Txt.item (Str.ofString "abc") ((x.fdiv 3).fmod 3))) (.inr ⟨_, .head _, rfl, _, rfl⟩) ?_ ?_ .nil
  · intro i ys v I oI C oC D m₂ h3 tk3 E' hi hJ hv hC hx F3 N3
    obtain ⟨n, t, rfl, hn⟩ := ints_item hI4 i v (by simpa using hv)
    clear F1 N1
    k_steps
    rw [take_snoc hn, List.map_append]
    exact strs_snoc hJ _ _
  · intro ys hys D h3 tk3 F3 N3 o3
    clear F1 N1
    dsimp only
    rw [List.take_of_length_le (by rw [List.size_toArray]; omega)] at hys
    have hyl := hys.length
    rw [List.length_map] at hyl
    k_steps
    unfold Hold
    rename Fr _ _ _ _ => F4
    rename News _ _ _ _ => N4
    rename IntsAre _ (List.take 4 row) => hI5
    have hvl5 := hI5.length
    rw [List.length_take] at hvl5
    refine LCg.CompSrc.ledger rfl F4 N4 (.head _) (by rw [List.size_toArray, sizeLine_eq]; omega) ?_
    intro g
    refine turnsM (fun i ys => StrsAre ys (((row.take 4).take i).map fun x => Txt.item (Str.ofString "abc") (x.fmod 3))) (.inr ⟨_, .head _, rfl, _, rfl⟩) ?_ ?_ .nil
    · intro i ys v I oI C oC D m₂ h3 tk3 E' hi hJ hv hC hx F3 N3
      obtain ⟨n, t, rfl, hn⟩ := ints_item hI5 i v (by simpa using hv)
      clear F4 N4
      k_steps
      rw [take_snoc hn, List.map_append]
      exact strs_snoc hJ _ _
    · intro ys5 hys5 D5 h5 tk5 F5 N5 o5
      clear F4 N4
      dsimp only
      rw [List.take_of_length_le (by rw [List.size_toArray]; omega)] at hys5
      have l5 : ∀ x ∈ (row.take 4).map (fun x => Txt.item (Str.ofString "abc") (x.fmod 3)), Abc x ∧ x.length = 1 := fun x hx => by
        obtain ⟨n, -, rfl⟩ := List.mem_map.mp hx
        exact ⟨(letter_lst n).2, letter_len n⟩
      have l1 : ∀ x ∈ row.map (fun x => Txt.item (Str.ofString "abc") ((x.fdiv 3).fmod 3)), Abc x ∧ x.length = 1 := fun x hx => by
        obtain ⟨n, -, rfl⟩ := List.mem_map.mp hx
        exact ⟨(letter_lst _).2, letter_len _⟩
      have n5 : ((row.take 4).map fun x => Txt.item (Str.ofString "abc") (x.fmod 3)).length = 4 := by rw [List.length_map, List.length_take]; omega
      have n1 : (row.map fun x => Txt.item (Str.ofString "abc") ((x.fdiv 3).fmod 3)).length = row.length := List.length_map _
      generalize (row.take 4).map (fun x => Txt.item (Str.ofString "abc") (x.fmod 3)) = q5 at hys5 l5 n5
      generalize row.map (fun x => Txt.item (Str.ofString "abc") ((x.fdiv 3).fmod 3)) = q1 at hys l1 n1
      have jo : ∀ q : List Str, (∀ x ∈ q, Abc x ∧ x.length = 1) → q.length ≤ 5 → (q.map (·.length)).sum + q.length * (Str.ofString "").length ≤ 16777216 := fun q hq hn => by
        have := sum_len (xs := q) fun x hx => by rw [(hq x hx).2]; exact Nat.le_refl _
        rw [sep_empty]; omega
      have lt : ∀ x ∈ q1.take 2, Abc x ∧ x.length = 1 := fun x hx => l1 x (List.mem_of_mem_take hx)
      have ld : ∀ x ∈ q1.drop 2, Abc x ∧ x.length = 1 := fun x hx => l1 x (List.mem_of_mem_drop hx)
      k_steps
      unfold Hold
      k_dflt (refine' join_led N5 (.head _) hys5 (jo q5 l5 (by omega)) ?_)
      intro t6 k6
      k_steps
      unfold Hold
      rename News _ _ _ _ => N6
      rename StrsAre _ (List.take 2 q1) => h6
      k_dflt (refine' join_led N6 (.head _) h6 (jo _ lt (by rw [List.length_take]; omega)) ?_)
      intro t7 k7
      clear h6
      k_steps
      unfold Hold
      rename News _ _ _ _ => N7
      rename StrsAre _ (List.drop 2 q1) => h7
      k_dflt (refine' join_led N7 (.head _) h7 (jo _ ld (by rw [List.length_drop]; omega)) ?_)
      intro t8 k8
      k_steps
      rename Fr _ _ _ _ => FZ
      rename News _ _ _ _ => NZ
      refine ret _ _ _ _ _ _ _ _ _ FZ.keep (NZ _ (.head _)).2.2 (NZ _ (.head _)).1 ⟨abc_join fun x hx => (l5 x hx).1, abc_join fun x hx => (lt x hx).1, abc_join fun x hx => (ld x hx).1, ?_, ?_, ?_⟩
      · rw [len_join fun x hx => (l5 x hx).2]; exact n5
      · rw [len_join fun x hx => (lt x hx).2, List.length_take]; omega
      · rw [len_join fun x hx => (ld x hx).2, List.length_drop]; omega
end
end
theorem reset_D2 {M : Model} {A : Around} {E : Value → Shared → Prop} {Q : Flow → Shared → Prop} {s : Shared} {env : Env} (h : Q .next s) : wpAny M A (execs [] env) Q E s := by
  w_top off
  walk1
  w_top off
  exact h
section
structure SumSt where
  cc : Int
  nc : Int
  cal : List (Str × Int)
def longC (c : List (Str × Int)) (sg : Str) : List (Str × Int) := c.foldl (fun a p => kdpPut a (p.1 ++ sg) p.2) []
def signAt (wd : Str) (k : Nat) : Str := ⟨#[(lst wd).getD k 0]⟩
def scatC (wd : Str) : Nat → SumSt
  | 0 => ⟨0, 0, [(Str.ofString "", 1)]⟩
  | k + 1 => ⟨1 + (scatC wd k).cc, sumv (longC (scatC wd k).cal (signAt wd k)) + (scatC wd k).nc, addC (copyC (scatC wd k).cal) (longC (scatC wd k).cal (signAt wd k))⟩
theorem longC_len (c : List (Str × Int)) (sg : Str) : (longC c sg).length ≤ c.length := by
  suffices h : ∀ a : List (Str × Int), (c.foldl (fun a p => kdpPut a (p.1 ++ sg) p.2) a).length ≤ a.length + c.length by simpa [longC] using h []
  induction c with
  | nil => intro a; simp
  | cons p r ih =>
    intro a
    rw [List.foldl_cons, List.length_cons]
    have h1 := ih (kdpPut a (p.1 ++ sg) p.2)
    have h2 := kdpPut_len a (p.1 ++ sg) p.2
    omega
theorem longC_take {c : List (Str × Int)} {sg : Str} {i : Nat} {k : Str} {x : Int} (h : c[i]? = some (k, x)) : longC (c.take (i + 1)) sg = kdpPut (longC (c.take i) sg) (k ++ sg) x := foldl_take h
theorem addC_len (c1 c2 : List (Str × Int)) : (addC c1 c2).length ≤ c1.length + c2.length := by
  unfold addC
  induction c2 generalizing c1 with
  | nil => exact Nat.le_refl _
  | cons p r ih =>
    rw [List.foldl_cons, List.length_cons]
    have h1 := ih (kdpPut c1 p.1 (kdpLook c1 p.1 0 + p.2))
    have h2 := kdpPut_len c1 p.1 (kdpLook c1 p.1 0 + p.2)
    omega
theorem keys_put {c : List (Str × Int)} {k : Str} {v : Int} {P : Str → Prop} (hk : P k) (hc : ∀ p ∈ c, P p.1) : ∀ p ∈ kdpPut c k v, P p.1 := by
  intro p hp
  unfold kdpPut at hp
  split at hp
  · obtain ⟨q, hq, rfl⟩ := List.mem_map.mp hp
    split <;> exact hc q hq
  · rcases List.mem_append.mp hp with hp | hp
    · exact hc p hp
    · rw [List.mem_singleton.mp hp]; exact hk
theorem keys_fold {β : Type} {P : Str → Prop} {f : List (Str × Int) → β → List (Str × Int)} (hf : ∀ a b, (∀ p ∈ a, P p.1) → ∀ p ∈ f a b, P p.1) : ∀ (l : List β) (a : List (Str × Int)), (∀ p ∈ a, P p.1) → ∀ p ∈ l.foldl f a, P p.1
  | [], a, h => h
  | b :: l, a, h => keys_fold hf l (f a b) (hf a b h)
theorem scat_keys {c : List (Str × Int)} {ch : Nat} {i : Nat} (h : ∀ p ∈ c, p.1.length ≤ i) : ∀ p ∈ addC (copyC c) (longC c ⟨#[ch]⟩), p.1.length ≤ i + 1 := by
  have h1 : ∀ p ∈ copyC c, p.1.length ≤ i + 1 := by
    have gen : ∀ (l : List (Str × Int)), (∀ p ∈ l, p.1.length ≤ i) → ∀ a : List (Str × Int), (∀ p ∈ a, p.1.length ≤ i + 1) → ∀ p ∈ l.foldl (fun a p => kdpPut a p.1 p.2) a, p.1.length ≤ i + 1 := by
      intro l
      induction l with
      | nil => intro _ a ha; exact ha
      | cons q r ih => intro hl a ha; exact ih (fun p hp => hl p (.tail _ hp)) _ (keys_put (P := fun s => s.length ≤ i + 1) (Nat.le_succ_of_le (hl q (.head _))) ha)
    exact gen c h [] fun p hp => nomatch hp
  have h2 : ∀ p ∈ longC c ⟨#[ch]⟩, p.1.length ≤ i + 1 := by
    have gen : ∀ (l : List (Str × Int)), (∀ p ∈ l, p.1.length ≤ i) → ∀ a : List (Str × Int), (∀ p ∈ a, p.1.length ≤ i + 1) → ∀ p ∈ l.foldl (fun a p => kdpPut a (p.1 ++ ⟨#[ch]⟩) p.2) a, p.1.length ≤ i + 1 := by
      intro l
      induction l with
      | nil => intro _ a ha; exact ha
      | cons q r ih =>
        intro hl a ha
        refine ih (fun p hp => hl p (.tail _ hp)) _ (keys_put (P := fun s => s.length ≤ i + 1) ?_ ha)
        have := hl q (.head _)
        show (q.1 ++ ⟨#[ch]⟩ : Str).length ≤ i + 1
        rw [Str.length_append]
        exact Nat.succ_le_succ this
    exact gen c h [] fun p hp => nomatch hp
  have gen : ∀ (l : List (Str × Int)), (∀ p ∈ l, p.1.length ≤ i + 1) → ∀ a : List (Str × Int), (∀ p ∈ a, p.1.length ≤ i + 1) → ∀ p ∈ l.foldl (fun a p => kdpPut a p.1 (kdpLook a p.1 0 + p.2)) a, p.1.length ≤ i + 1 := by
    intro l
    induction l with
    | nil => intro _ a ha; exact ha
    | cons q r ih => intro hl a ha; exact ih (fun p hp => hl p (.tail _ hp)) _ (keys_put (P := fun s => s.length ≤ i + 1) (hl q (.head _)) ha)
  exact gen _ h2 _ h1
structure SS where
  tp : Addr
  a : Addr
  o : Obj
  v1 : Tok
  v2 : Tok
  v3 : Tok
  v4 : Tok
  cc : Int
  nc : Int
  x3 : Int
  x4 : Int
  c : List (Str × Int)
section
local macro_rules | `(tactic| walk_at "call ref") => `(tactic| (k_here; (with_reducible show wpAny _ _ (call (Value.ref 214) [Value.ref _]) _ _ _); k_dflt (refine' count_calls_use ?k1 ?k2 ?k3 ?k4 ?k5 ?k6 ?k7 ?_; (case k1 => k_asm); (case k2 => k_asm); (case k3 => assumption); (case k4 => assumption); (case k5 => omega); (case k6 => omega); (case k7 => k_tabat)); intro h' tk' t' F' N'; (try k_sweep)))
local macro_rules | `(tactic| walk_at "call ref") => `(tactic| (k_here; (try dsimp only [List.cons_append, List.nil_append]); (with_reducible show wpAny _ _ (call (Value.ref 200) [Value.ref _, Value.ref _]) _ _ _); (refine hold_in ?_)))
theorem scattered_spec {w : World} {loose : List Str} {mean : ExcName → Option Value} {mg mb : Str → Option Value} {s : Shared} {dp un : Nat} {fr : List Env} {gd : Option (List Code)} {wd : Str} {tw : Tok} {E Q : Value → Shared → Prop} :
    (hd.heap_39 w.params).In s.heap → Top hd.view_39 loose mean mg mb s.heap → dp + 40 < recursionLimit → un + 400 < cLine → wd.length = 4 → Abc wd →
    (∀ Tp a o kvs h' tk v1 v2 v3 v4, s.heap.StaysIn h' → s.heap.get? Tp = none → h'.get? Tp = some (tup [.int (scatC wd 4).cc v1, .int (scatC wd 4).nc v2, .int 0 v3, .int 0 v4, .ref a]) → s.heap.get? a = none → h'.get? a = some o → (Tp : Nat) ≠ a → (a == sysModules) = false → o.IsDictOf (PySem.strKind PySem.Challenge.rw_pm0056_02.row.prog w) kvs → FlatPairs PyData.str kvs (kdpD (scatC wd 4).cal) → Q (.ref Tp) { s with heap := h', toks := tk }) →
    wpAny (model PySem.Challenge.rw_pm0056_02.row.prog w) (amb dp un fr gd) (call (.ref 226) [.str wd tw]) Q E s := by
  k_fill
  intro X T hdp hun hwd hab ret
  k_dflt (refine' call_me (binds := [("word", .str wd tw)]) X T ?ho ?hcd ?hroom ?hb ?hl ?hc ?hco ?hgen ?hk ?_; (case ho => k_is); (case hcd => k_is); (case hroom => exact Nat.lt_of_le_of_lt (Nat.le_add_right _ _) hdp); (case hb => exact BindsTo.of_eq rfl); (case hl => exact locs rfl); (case hc => decide); (case hco => exact rfl); (case hgen => exact rfl); (case hk => exact rfl))
  intro L h₁ F N
  k_steps
  unfold Hold
  rename Fr _ _ _ _ => F1
  rename News _ _ _ _ => N1
  rename Obj.IsDictOf (PySem.strKind _ _) _ _ => hs0
  rename FlatPairs PyData.str _ _ => fs0
  rename (_ == sysModules) = false => lo0
  refine it_str (σ := SS) (keep := []) (fun q => [(q.tp, tup [.int q.cc q.v1, .int q.nc q.v2, .int q.x3 q.v3, .int q.x4 q.v4, .ref q.a]), (q.a, q.o)]) (fun q => [("entry", .ref q.tp)])
    (fun i q => DS PySem.Challenge.rw_pm0056_02.row.prog w q.o q.c ∧ (q.cc = (scatC wd i).cc ∧ q.nc = (scatC wd i).nc ∧ q.c = (scatC wd i).cal) ∧ (q.x3 = 0 ∧ q.x4 = 0) ∧ (q.a == sysModules) = false ∧ (q.c.length ≤ 2 ^ i ∧ (∀ p ∈ q.c, p.1.length ≤ i)) ∧ (q.tp : Nat) ≠ q.a) ["entry", "sign", "longer", "text", "often"] rfl hab F1 N1 (fun _ => trivial) ⟨⟨_, _, _, _, _, _, _, 0, 0, 0, 0, [(Str.ofString "", 1)]⟩, rfl, ⟨⟨_, hs0, fs0⟩, ⟨rfl, rfl, rfl⟩, ⟨rfl, rfl⟩, lo0, ⟨Nat.le_refl _, fun p hp => by rw [List.mem_singleton.mp hp]; exact Nat.zero_le _⟩, Nat.ne_of_gt (by assumption)⟩, by with_unfolding_all exact ⟨rfl, trivial⟩⟩ ?_ ?_
  · rintro I i ⟨tp, a, o, v1, v2, v3, v4, cc, nc, x3, x4, c⟩ ch ti u h₂ tk₂ oI hi ⟨⟨kvs, hd2, hf2⟩, ⟨hc1, hc2, hc3⟩, ⟨hx3, hx4⟩, hlo, ⟨hcl, hck⟩, hta⟩ hlt hne F2 N2
    have hne0 := hne.1
    have hne1 := hne.2.1
    dsimp only at *
    clear F1 N1
    have hi4 : i < 4 := by have := (List.getElem?_eq_some_iff.mp hi).1; rw [lst_len, hwd] at this; exact this
    have hcl2 : c.length ≤ 16 := Nat.le_trans hcl (Nat.pow_le_pow_right (by decide) (by omega : i ≤ 4))
    k_steps
    unfold Hold
    rename Fr _ _ _ _ => F3
    rename News _ _ _ _ => N3
    rename Obj.IsDictOf (PySem.strKind _ _) _ [] => hsB
    rename FlatPairs PyData.str [] _ => fsB
    rename (_ == sysModules) = false => loB
    rename_i z1 dB z2 oB hiB fiB lB z3 vB z4 lV
    clear hiB fiB
    obtain ⟨lB1, lB2, lB3⟩ := lB
    have hNa := N3 _ (.tail _ (.tail _ (.tail _ (.tail _ (.head _)))))
    refine it_items (c := c) (σ := Obj × List (Str × Int)) (keep := [(a, o)]) (fun q => [(dB, q.1), (I, oI), (tp, tup [.int cc v1, .int nc v2, .int x3 v3, .int x4 v4, .ref a]), (a, o)]) (fun _ => [])
      (fun j q => DS PySem.Challenge.rw_pm0056_02.row.prog w q.1 q.2 ∧ q.2 = longC (c.take j) ⟨#[ch]⟩) ["text", "often"] rfl ⟨_, (N3 _ (.head _)).1, rfl, rfl⟩ (TabAt.ofNews N3 (.tail _ (.tail _ (.tail _ (.tail _ (.head _))))) hlo hd2 hf2) ⟨.inr ⟨o, .head _⟩, hNa.2.1⟩ F3 (fun p hp => N3 p (.tail _ hp)) (fun _ => ⟨.tail _ (.tail _ (.tail _ (.head _))), trivial⟩) ⟨(oB, []), rfl, ⟨⟨[], hsB, fsB⟩, rfl⟩, trivial⟩ ?_ ?_
    · rintro J j ⟨oe, e⟩ k x tkk tx Tp u' h₃ tk₃ oJ hx hT ⟨⟨kvs', hd3, hf3⟩, he⟩ hltJ hneJ F4 N4
      have hnJ := hneJ.1
      have hnJ2 := hneJ.2.1
      have hnJ3 := hneJ.2.2.1
      have hnJ4 := hneJ.2.2.2.1
      have hlJ := hltJ.1
      have hlJ2 := hltJ.2.1
      have hlJ3 := hltJ.2.2.1
      have hlJ4 := hltJ.2.2.2.1
      dsimp only at *
      have hel : e.length ≤ 1000 := by have := longC_len (c.take j) ⟨#[ch]⟩; rw [List.length_take] at this; rw [he]; omega
      have hkl : k.length ≤ 10 := Nat.le_trans (hck (k, x) (List.mem_of_getElem? hx)) (by omega)
      have hsl : (⟨#[ch]⟩ : Str).length = 1 := rfl
      have hnext := longC_take (sg := ⟨#[ch]⟩) hx
      k_steps
      rename Obj.IsDictOf _ _ _ => hdn
      rename FlatPairs _ _ _ => hfn
      refine turn_end (_, longC (c.take (j + 1)) ⟨#[ch]⟩) (by assumption) (by assumption) (.head _) ⟨.tail _ (.head _), .tail _ (.tail _ (.head _)), .tail _ (.tail _ (.tail _ (.head _))), .tail _ (.tail _ (.tail _ (.tail _ (.head _)))), trivial⟩ ⟨by exact hnJ, by exact hnJ2, by exact hnJ3, by exact hnJ4, trivial⟩ ⟨⟨_, hdn, by rw [hnext, ← he]; exact hfn⟩, rfl⟩ trivial ?_
      intro z hz
      obtain ⟨h1, h2, -⟩ := id hz
      simp only [h1, h2, if_false]
      rw [fmap_off ?hs hz]
      case hs => rfl
    · rintro ⟨oe, e⟩ u' h₃ tk₃ ⟨⟨kvs', hd3, hf3⟩, he⟩ F4 N4
      dsimp only at *
      rw [List.take_length] at he
      clear F3 N3
      have hel : e.length ≤ 1000 := by have := longC_len c ⟨#[ch]⟩; rw [he]; omega
      k_steps
      unfold Hold
      rename Fr _ _ _ _ => F5
      rename News _ _ _ _ => N5
      k_dflt (refine' add_func_stats_use (c1 := c) (c2 := e) F5 N5 X T ?q1 ?q2 (.tail _ (.tail _ (.tail _ (.head _)))) (.head _) ?T1 ?T2 ?q3 ?_)
      (case q1 => omega)
      (case q2 => omega)
      (case T1 => exact TabAt.ofNews N5 (.tail _ (.tail _ (.tail _ (.tail _ (.head _))))) hlo hd2 hf2)
      (case T2 => exact TabAt.ofNews N5 (.tail _ (.head _)) loB hd3 hf3)
      (case q3 => omega)
      intro Tp2 a2 o2 kvs2 h5 tk5 w1 w2 w3 w4 F6 N6 A1 A2 hne2 lo2 hdz hfz
      have e1 := A1.2.2.1
      have e2 := A2.2.2.1
      clear A1 A2 F5 N5
      k_steps
      have hsg : signAt wd i = ⟨#[ch]⟩ := by unfold signAt; rw [List.getD_eq_getElem?_getD, hi]; rfl
      have hE : longC (scatC wd i).cal (signAt wd i) = e := by rw [hsg, he, hc3]
      refine turn_end ⟨Tp2, a2, o2, w1, w2, w3, w4, 1 + cc, sumv e + nc, 0 + x3, 0 + x4, addC (copyC c) e⟩ (by assumption) (by assumption) (.tail _ (.tail _ (.tail _ (.tail _ (.head _))))) ⟨.head _, .tail _ (.head _), trivial⟩ ⟨by exact e1.symm, by exact e2.symm, trivial⟩
        ⟨⟨_, hdz, hfz⟩, ⟨by dsimp only; rw [hc1]; rfl, by dsimp only; rw [← hE, hc2]; rfl, by dsimp only; rw [← hE, hc3]; rfl⟩, ⟨by dsimp only; rw [hx3]; rfl, by dsimp only; rw [hx4]; rfl⟩, lo2, ⟨?len, by dsimp only; rw [he]; exact scat_keys hck⟩, hne2⟩ (by with_unfolding_all exact ⟨rfl, trivial⟩) ?_
      case len =>
        have h1 := addC_len (copyC c) e
        have h2 := copy_len c
        have h3 := longC_len c ⟨#[ch]⟩
        rw [← he] at h3
        dsimp only
        rw [Nat.pow_succ]
        omega
      intro z hz
      obtain ⟨h1, h2, h3, h4, h5, -⟩ := id hz
      simp only [h1, if_false]
      rw [fmap_off ?hs (show OffL z ["text", "often"] from ⟨h4, h5, trivial⟩)]
      case hs => rfl
      simp only [h2, h3, if_false]
      rw [fmap_off ?hs2 hz]
      case hs2 => rfl
      simp only [h1, if_false]
  · rintro ⟨tp, a, o, v1, v2, v3, v4, cc, nc, x3, x4, c⟩ u h₂ tk₂ ⟨⟨kvs, hd2, hf2⟩, ⟨hc1, hc2, hc3⟩, ⟨hx3, hx4⟩, hlo, hcl, hta⟩ F2 N2
    dsimp only at *
    subst hx3 hx4 hc1 hc2 hc3
    rw [hwd] at *
    k_steps
    exact ret _ _ _ _ _ _ _ _ _ _ F2.keep (N2 _ (.head _)).2.2 (N2 _ (.head _)).1 (N2 _ (.tail _ (.head _))).2.2 (N2 _ (.tail _ (.head _))).1 hta hlo hd2 hf2
end
end
theorem reset_D3 {M : Model} {A : Around} {E : Value → Shared → Prop} {Q : Flow → Shared → Prop} {s : Shared} {env : Env} (h : Q .next s) : wpAny M A (execs [] env) Q E s := by
  w_top off
  walk1
  w_top off
  exact h
section
/-- the letters of a part, great, each by itself -/
def greats (p : Str) : List (List Nat) := (lst p).map fun c => [c - 32]
theorem dotted_last : ∀ (l : List (List Nat)), l ≠ [] → dotted (l ++ [[]]) = dotted l ++ [46, 46, 46]
  | [], h => absurd rfl h
  | [a], _ => by show a ++ [46, 46, 46] ++ [] = a ++ [46, 46, 46]; rw [List.append_nil]
  | a :: b :: r, _ => by
    show a ++ [46, 46, 46] ++ dotted (b :: r ++ [[]]) = a ++ [46, 46, 46] ++ dotted (b :: r) ++ [46, 46, 46]
    rw [dotted_last (b :: r) (by simp), List.append_assoc, List.append_assoc, List.append_assoc]
theorem dotted_wrap (l : List (List Nat)) (h : l ≠ []) : dotted ([] :: (l ++ [[]])) = [46, 46, 46] ++ dotted l ++ [46, 46, 46] := by
  cases l with
  | nil => exact absurd rfl h
  | cons a r =>
    show [] ++ [46, 46, 46] ++ dotted (a :: r ++ [[]]) = _
    rw [dotted_last _ h, List.nil_append, List.append_assoc]
theorem join_dots : ∀ l : List Str, lst (Txt.join (Str.ofString "...") l) = dotted (l.map lst) := by
  intro l
  rw [eq_of_beq (join_plain_closes _ _)]
  induction l with
  | nil => rfl
  | cons x r ih =>
    match r, ih with
    | [], _ => rfl
    | y :: r, ih =>
      show lst (x ++ Str.ofString "..." ++ Str.join (Str.ofString "...") (y :: r)) = lst x ++ [46, 46, 46] ++ dotted ((y :: r).map lst)
      rw [lst_append, lst_append, ih]; rfl
theorem signs_lst (x : Str) : (PyProof.Rows.signs x).map lst = (lst x).map fun c => [c] := by
  unfold PyProof.Rows.signs
  rw [List.map_map]; rfl
theorem dotted_len : ∀ l : List (List Nat), (dotted l).length ≤ (l.map List.length).sum + 3 * l.length
  | [] => Nat.zero_le _
  | [a] => by show a.length ≤ _; simp
  | a :: b :: r => by
    have ih := dotted_len (b :: r)
    show (a ++ [46, 46, 46] ++ dotted (b :: r)).length ≤ _
    rw [List.length_append, List.length_append, List.map_cons, List.sum_cons, List.length_cons (a := a)]
    simp only [List.length_cons, List.length_nil] at ih ⊢
    omega
theorem ones_sum (l : List Nat) : ((l.map fun c => [c]).map List.length).sum = l.length := by
  induction l with
  | nil => rfl
  | cons a r ih => rw [List.map_cons, List.map_cons, List.sum_cons, ih]; simp only [List.length_cons, List.length_nil]; omega
section
local macro_rules | `(tactic| walk_at "call builtin:str.join") => `(tactic| (refine hold_in ?_))
theorem pattern_spec {w : World} {loose : List Str} {mean : ExcName → Option Value} {mg mb : Str → Option Value} {s : Shared} {dp un : Nat} {fr : List Env} {gd : Option (List Code)} {p : Str} {tp : Tok} {E Q : Value → Shared → Prop} :
    (hd.heap_39 w.params).In s.heap → Top hd.view_39 loose mean mg mb s.heap → dp + 40 < recursionLimit → un + 400 < cLine → 1 ≤ p.length ∧ p.length ≤ 3 → Abc p →
    (∀ P t h' tk, s.heap.StaysIn h' → lst P = dotted ([] :: (greats p ++ [[]])) → Q (.str P t) { s with heap := h', toks := tk }) →
    wpAny (model PySem.Challenge.rw_pm0056_02.row.prog w) (amb dp un fr gd) (call (.ref 233) [.str p tp]) Q E s := by
  k_fill
  intro X T hdp hun hpl hab ret
  obtain ⟨hp1, hp3⟩ := hpl
  k_dflt (refine' call_me (binds := [("part", .str p tp)]) X T ?ho ?hcd ?hroom ?hb ?hl ?hc ?hco ?hgen ?hk ?_; (case ho => k_is); (case hcd => k_is); (case hroom => exact Nat.lt_of_le_of_lt (Nat.le_add_right _ _) hdp); (case hb => exact BindsTo.of_eq rfl); (case hl => exact locs rfl); (case hc => decide); (case hco => exact rfl); (case hgen => exact rfl); (case hk => exact rfl))
  intro L h₁ F N
  k_steps
  unfold Hold
  rename CarriedAll _ _ => hc
  rename Heap.IsList _ _ _ => hl
  have hS := StrsAre.ofCarried hc
  have hsl : (PyProof.Rows.signs (Txt.upper p)).map lst = (greats p).map id := by
    rw [signs_lst, up_lst hab, List.map_id]
    unfold greats
    rw [List.map_map]; rfl
  rw [List.map_id] at hsl
  have hgl : (greats p).length = p.length := by unfold greats; rw [List.length_map, lst_len]
  have hsn : (PyProof.Rows.signs (Txt.upper p)).length = p.length := by
    have := congrArg List.length hsl
    rw [List.length_map, hgl] at this; exact this
  have hone : ∀ x ∈ PyProof.Rows.signs (Txt.upper p), x.length ≤ 1 := fun x hx => by
    obtain ⟨c, -, rfl⟩ := List.mem_map.mp hx
    exact Nat.le_refl _
  have hjl : (Txt.join (Str.ofString "...") (PyProof.Rows.signs (Txt.upper p))).length ≤ 20 := by
    rw [← lst_len, join_dots, hsl]
    have h1 := dotted_len (greats p)
    have h2 : ((greats p).map List.length).sum = (lst p).length := by
      unfold greats
      have := ones_sum ((lst p).map (· - 32))
      rw [List.length_map, List.map_map (g := fun c => [c])] at this
      exact this
    rw [lst_len] at h2
    omega
  have h3 := dots_len
  k_dflt (refine' join_list hl hS ?jo ?_)
  case jo => have := sum_len hone; rw [h3]; omega
  k_steps
  rename Fr _ _ h₁ _ => FA
  rename Fr _ _ _ _ => FB
  refine ret _ _ _ _ FB.keep ?_
  have hne : greats p ≠ [] := by intro e; rw [e] at hgl; simp at hgl; omega
  rw [lst_append, lst_append, join_dots, hsl, dots_lst, dotted_wrap _ hne]
end
end
theorem reset_D4 {M : Model} {A : Around} {E : Value → Shared → Prop} {Q : Flow → Shared → Prop} {s : Shared} {env : Env} (h : Q .next s) : wpAny M A (execs [] env) Q E s := by
  w_top off
  walk1
  w_top off
  exact h
section
section
local macro_rules | `(tactic| walk_at "exec Assign cons ListComp") => `(tactic| (refine hold_in ?_))
local macro_rules | `(tactic| walk_at "call builtin:str.isupper") => `(tactic| (refine hold_in ?_))
def itemAt (x : Str) (k : Nat) : Str := Txt.item x (k : Int)
/-- the places at which either is great -/
def ups (f g : Str) (n : Nat) : List Nat := (List.range n).filter fun k => isUp (chr f k) || isUp (chr g k)
theorem ups_succ (f g : Str) (n : Nat) : ups f g (n + 1) = ups f g n ++ (if (isUp (chr f n) || isUp (chr g n)) = true then [n] else []) := by
  unfold ups
  rw [List.range_succ, List.filter_append]
  congr 1
  simp only [List.filter_cons, List.filter_nil]
local macro_rules | `(tactic| walk_at "call builtin:str.join") => `(tactic| (refine hold_in ?_))
def pairL (f g : Str) : List Nat := (ups f g 4).map (chr f) ++ [58] ++ (ups f g 4).map (chr g)
theorem join_items {x : Str} {U : List Nat} (h : ∀ k ∈ U, k < x.length) : lst (Txt.join (Str.ofString "") (U.map (itemAt x))) = U.map (chr x) := by
  rw [join_lst, List.map_map]
  induction U with
  | nil => rfl
  | cons k r ih =>
    rw [List.map_cons, List.flatten_cons, List.map_cons, ih fun y hy => h y (.tail _ hy)]
    show lst (Txt.item x (k : Int)) ++ _ = _
    rw [item_chr (h k (.head _))]; rfl
theorem pair_spec {w : World} {loose : List Str} {mean : ExcName → Option Value} {mg mb : Str → Option Value} {s : Shared} {dp un : Nat} {fr : List Env} {gd : Option (List Code)} {f g : Str} {tf tg : Tok} {E Q : Value → Shared → Prop} :
    (hd.heap_39 w.params).In s.heap → Top hd.view_39 loose mean mg mb s.heap → dp + 40 < recursionLimit → un + 400 < cLine → f.length = 4 → g.length = 4 → AbcU f → AbcU g →
    (∀ P t h' tk, s.heap.StaysIn h' → lst P = pairL f g → Q (.str P t) { s with heap := h', toks := tk }) →
    wpAny (model PySem.Challenge.rw_pm0056_02.row.prog w) (amb dp un fr gd) (call (.ref 250) [.str f tf, .str g tg]) Q E s := by
  k_fill
  intro X T hdp hun hf4 hg4 hfa hga ret
  k_dflt (refine' call_mc (binds := [("first", .str f tf), ("second", .str g tg)]) X T ?ho ?hcd ?hroom ?hb ?hl ?hc ?_ ?hco ?hgen ?hk; (case ho => k_is); (case hcd => k_is); (case hroom => exact Nat.lt_of_le_of_lt (Nat.le_add_right _ _) hdp); (case hb => exact BindsTo.of_eq rfl); (case hl => exact rfl); (case hc => decide +kernel); (case hco => exact rfl); (case hgen => exact rfl); (case hk => exact rfl))
  intro L h₁ tk₁ cells F N Y
  k_cells Y
  k_steps
  unfold Hold
  rename Fr _ _ _ _ => F1
  rename News _ _ _ _ => N1
  k_dflt (refine' LCt.Assign_ListComp_T F1 ?a0 ?a1 ?a3 ?a4 ?a5 ?a6 ?a7 ?a9 ?a10 ?_ ?a8; (case a0 => rfl); (case a1 => with_unfolding_all rfl); (case a3 => with_unfolding_all rfl); (case a4 => decide); (case a5 => rfl); (case a6 => decide); (case a7 => rfl); (case a8 => intro _; rfl); (case a9 => rfl); (case a10 => rfl))
  k_steps
  unfold Hold
  rename Fr _ _ _ _ => F2
  rename News _ _ _ _ => N2
  rename IsRange _ _ _ _ _ _ _ _ => R2
  rw [hf4] at R2
  refine LCt.CompSrcT.range (n := 4) rfl F2 N2 R2 (small_one (by decide) (by decide) (by decide) (by decide)) (by rw [rangeSize_nat]; rfl) (by rw [sizeLine_eq]; decide) ?_
  intro gh
  refine turnsF (fun i ys => IntsAre ys ((ups f g i).map Int.ofNat)) trivial ?_ ?_ .nil
  · intro i ys v I oI C oC D m₂ h3 tk3 E' hi hJ hv hC hx F3 N3
    obtain ⟨tv, rfl⟩ := hv
    rw [Int.zero_add] at hx
    have h1 := item_chr (x := f) (k := i) (by omega)
    have h2 := item_chr (x := g) (k := i) (by omega)
    have b1 : chr f i < 128 := by have := hfa _ (chr_mem (x := f) (k := i) (by omega)); omega
    have b2 : chr g i < 128 := by have := hga _ (chr_mem (x := g) (k := i) (by omega)); omega
    clear F2 N2
    k_steps
    unfold Hold
    k_dflt (refine' isup_call h1 b1 ?_)
    have eU := ups_succ f g i
    cases e1 : isUp (chr f i) with
    | true =>
      rw [e1, Bool.true_or, if_pos rfl] at eU
      k_steps
      rw [eU, List.map_append]
      exact ints_snoc hJ _ _
    | false =>
      rw [e1, Bool.false_or] at eU
      k_steps
      unfold Hold
      k_dflt (refine' isup_call h2 b2 ?_)
      cases e2 : isUp (chr g i) with
      | true =>
        rw [e2, if_pos rfl] at eU
        k_steps
        rw [eU, List.map_append]
        exact ints_snoc hJ _ _
      | false =>
        rw [e2, if_neg (by decide), List.append_nil] at eU
        k_steps
        rw [eU]
        exact hJ
  · intro ys hys D h3 tk3 F3 N3 o3
    clear F2 N2
    dsimp only
    have hyl := hys.length
    rw [List.length_map] at hyl
    have hul : (ups f g 4).length ≤ 4 := by have := List.length_filter_le (fun k => isUp (chr f k) || isUp (chr g k)) (List.range 4); rwa [List.length_range] at this
    have hu4 : ∀ k ∈ ups f g 4, k < 4 := fun k hk => List.mem_range.mp (List.mem_filter.mp hk).1
    generalize hU : ups f g 4 = U at hys hyl hul hu4
    have hat : ∀ (i : Nat) (v : Value), ys[i]? = some v → ∃ (k : Nat) (t : Tok), v = .int (k : Int) t ∧ U[i]? = some k := by
      intro i v hv
      obtain ⟨n, t, rfl, hn⟩ := ints_item hys i v hv
      rw [List.getElem?_map] at hn
      cases q : U[i]? with
      | none => rw [q] at hn; cases hn
      | some k => rw [q] at hn; cases Option.some.inj hn; exact ⟨k, t, rfl, rfl⟩
    have jo : ∀ x : Str, x.length = 4 → ((U.map (itemAt x)).map (·.length)).sum + (U.map (itemAt x)).length * (Str.ofString "").length ≤ 16777216 ∧ (∀ q ∈ U.map (itemAt x), q.length = 1) := fun x hx => by
      have h1 : ∀ q ∈ U.map (itemAt x), q.length = 1 := fun q hq => by
        obtain ⟨k, hk, rfl⟩ := List.mem_map.mp hq
        rw [← lst_len]; unfold itemAt; rw [item_chr (by rw [hx]; exact hu4 k hk)]; rfl
      have := sum_len (xs := U.map (itemAt x)) fun q hq => by rw [h1 q hq]; exact Nat.le_refl _
      rw [List.length_map] at this ⊢
      rw [sep_empty]
      exact ⟨by omega, h1⟩
    k_steps
    unfold Hold
    refine LCg.CompSrc.ledger rfl F3 N3 (.head _) (by rw [List.size_toArray, sizeLine_eq]; omega) ?_
    intro g5
    refine turnsM (fun i zs => StrsAre zs ((U.take i).map (itemAt f))) (.inr ⟨_, .head _, rfl, _, rfl⟩) ?_ ?_ .nil
    · intro i zs v I oI C oC D' m₂ h5 tk5 E' hi hJ hv hC hx F5 N5
      obtain ⟨k, t, rfl, hk⟩ := hat i v (by simpa using hv)
      have hk4 := hu4 k (List.mem_of_getElem? hk)
      clear F3 N3
      k_steps
      rw [take_snoc hk, List.map_append]
      exact strs_snoc hJ _ _
    · intro zs hzs D5 h5 tk5 F5 N5 o5
      clear F3 N3
      dsimp only
      rw [List.take_of_length_le (by rw [List.size_toArray]; omega)] at hzs
      k_steps
      unfold Hold
      k_dflt (refine' join_led N5 (.head _) hzs (jo f hf4).1 ?_)
      intro t6 k6
      have hjf : (Txt.join (Str.ofString "") (U.map (itemAt f))).length ≤ 4 := by rw [len_join (jo f hf4).2, List.length_map]; exact hul
      have hjg : (Txt.join (Str.ofString "") (U.map (itemAt g))).length ≤ 4 := by rw [len_join (jo g hg4).2, List.length_map]; exact hul
      have hcl : (Str.ofString ":").length = 1 := rfl
      k_steps
      unfold Hold
      rename Fr _ _ _ _ => F7
      rename News _ _ _ _ => N7
      refine LCg.CompSrc.ledger rfl F7 N7 (.tail _ (.head _)) (by rw [List.size_toArray, sizeLine_eq]; omega) ?_
      intro g8
      refine turnsM (fun i zs => StrsAre zs ((U.take i).map (itemAt g))) (.inr ⟨_, .tail _ (.head _), rfl, _, rfl⟩) ?_ ?_ .nil
      · intro i zs' v I oI C oC D' m₂ h9 tk9 E' hi hJ hv hC hx F9 N9
        obtain ⟨k, t, rfl, hk⟩ := hat i v (by simpa using hv)
        have hk4 := hu4 k (List.mem_of_getElem? hk)
        clear F7 N7
        k_steps
        rw [take_snoc hk, List.map_append]
        exact strs_snoc hJ _ _
      · intro zs' hzs' D9 h9 tk9 F9 N9 o9
        clear F7 N7
        dsimp only
        rw [List.take_of_length_le (by rw [List.size_toArray]; omega)] at hzs'
        k_steps
        unfold Hold
        k_dflt (refine' join_led N9 (.head _) hzs' (jo g hg4).1 ?_)
        intro t8 k8
        k_steps
        refine ret _ _ _ _ F9.keep ?_
        rw [lst_append, lst_append, join_items (fun k hk => by rw [hf4]; exact hu4 k hk), join_items (fun k hk => by rw [hg4]; exact hu4 k hk)]
        unfold pairL
        rw [hU]; rfl
end
end
theorem reset_D5 {M : Model} {A : Around} {E : Value → Shared → Prop} {Q : Flow → Shared → Prop} {s : Shared} {env : Env} (h : Q .next s) : wpAny M A (execs [] env) Q E s := by
  w_top off
  walk1
  w_top off
  exact h
section
section
variable {w : World} {loose : List Str} {mean : ExcName → Option Value} {mg mb : Str → Option Value} {s : Shared} {dp un : Nat} {fr : List Env} {gd : Option (List Code)} {E Q : Value → Shared → Prop} {h₀ : Heap} {L : Addr} {m : Str → Option Value} {news : List (Addr × Obj)}
theorem pattern_use {p : Str} {tp : Tok} (F : Fr h₀ L s.heap m) (N : News h₀ L s.heap news) (X : (hd.heap_39 w.params).In h₀) (T : Top hd.view_39 loose mean mg mb h₀) (hdp : dp + 40 < recursionLimit) (hun : un + 400 < cLine) (hp : 1 ≤ p.length ∧ p.length ≤ 3) (ha : Abc p)
    (ret : ∀ P t h' tk, Fr h₀ L h' m → News h₀ L h' news → lst P = dotted ([] :: (greats p ++ [[]])) → Q (.str P t) { s with heap := h', toks := tk }) :
    wpAny (model PySem.Challenge.rw_pm0056_02.row.prog w) (amb dp un fr gd) (call (.ref 233) [.str p tp]) Q E s :=
  pattern_spec (X.keeps F.keep) (T.keeps F.keep) hdp hun hp ha fun P t h' tk st hP => ret P t h' tk (F.keeps st) (N.grown st) hP
end
/-- rows of places: all ways to go on from a row -/
def lastI (row : List Int) : Int := row.getLast?.getD 0
def stepRow (row : List Int) (j : Nat) : List Int := row ++ [lastI row + 1 + (j : Int)]
def fan (row : List Int) : Nat := 4 - (lastI row + 1).toNat
def goOn (row : List Int) : List (List Int) := (List.range (fan row)).map (stepRow row)
def rowsC : Nat → List (List Int)
  | 0 => [[-1]]
  | k + 1 => (rowsC k).flatMap goOn
theorem lastI_step (row : List Int) (j : Nat) : lastI (stepRow row j) = lastI row + 1 + (j : Int) := by
  unfold stepRow
  show ((row ++ [_]).getLast?).getD 0 = _
  rw [List.getLast?_concat]; rfl
theorem rows_ok : ∀ k, ∀ row ∈ rowsC k, row ≠ [] ∧ -1 ≤ lastI row ∧ lastI row ≤ 3 ∧ row.length = k + 1
  | 0, row, h => by rw [List.mem_singleton.mp h]; decide
  | k + 1, row, h => by
    obtain ⟨r, hr, h⟩ := List.mem_flatMap.mp h
    obtain ⟨j, hj, rfl⟩ := List.mem_map.mp h
    have hj := List.mem_range.mp hj
    obtain ⟨-, h1, h2, h3⟩ := rows_ok k r hr
    unfold fan at hj
    rw [lastI_step]
    refine ⟨by unfold stepRow; simp, by omega, by omega, by unfold stepRow; rw [List.length_append, h3]; rfl⟩
theorem rows_len : ∀ k, k ≤ 3 → (rowsC k).length ≤ 64 := by decide
inductive RowsAre (nw : List (Addr × Obj)) : List Value → List (List Int) → Prop
  | nil : RowsAre nw [] []
  | cons {a : Addr} {vs refs : List Value} {n : Nat} {row : List Int} {rows : List (List Int)} : (a, W.listOf vs.toArray n) ∈ nw → IntsAre vs row → RowsAre nw refs rows → RowsAre nw (.ref a :: refs) (row :: rows)
theorem RowsAre.mono {nw nw' : List (Addr × Obj)} (hs : ∀ p ∈ nw, p ∈ nw') {refs : List Value} {rows : List (List Int)} (h : RowsAre nw refs rows) : RowsAre nw' refs rows := by
  induction h with
  | nil => exact .nil
  | cons h1 h2 _ ih => exact .cons (hs _ h1) h2 ih
theorem RowsAre.length {nw : List (Addr × Obj)} {refs : List Value} {rows : List (List Int)} (h : RowsAre nw refs rows) : refs.length = rows.length := by
  induction h with
  | nil => rfl
  | cons _ _ _ ih => rw [List.length_cons, List.length_cons, ih]
theorem RowsAre.append {nw : List (Addr × Obj)} {r1 r2 : List Value} {q1 q2 : List (List Int)} (h : RowsAre nw r1 q1) (k : RowsAre nw r2 q2) : RowsAre nw (r1 ++ r2) (q1 ++ q2) := by
  induction h with
  | nil => exact k
  | cons h1 h2 _ ih => exact .cons h1 h2 ih
theorem RowsAre.at {nw : List (Addr × Obj)} {refs : List Value} {rows : List (List Int)} (h : RowsAre nw refs rows) : ∀ (i : Nat) (v : Value), refs[i]? = some v → ∃ a vs n row, v = .ref a ∧ (a, W.listOf (List.toArray vs) n) ∈ nw ∧ IntsAre vs row ∧ rows[i]? = some row := by
  induction h with
  | nil => intro i v h; simp at h
  | cons h1 h2 _ ih =>
    intro i v h
    cases i with
    | zero => cases Option.some.inj h; exact ⟨_, _, _, _, rfl, h1, h2, rfl⟩
    | succ i => exact ih i v h
theorem ints_last {vs : List Value} {row : List Int} (h : IntsAre vs row) (hne : row ≠ []) : ∃ t, vs.getLast? = some (.int (lastI row) t) := by
  induction h with
  | nil => exact absurd rfl hne
  | cons n t hr ih =>
    rename_i vs ns
    cases hr with
    | nil => exact ⟨t, rfl⟩
    | cons n2 t2 hr2 =>
      obtain ⟨u, hu⟩ := ih (by simp)
      refine ⟨u, ?_⟩
      rw [List.getLast?_cons_cons]
      exact hu
theorem InLed.of {big : List (Addr × Obj)} : ∀ {l : List (Addr × Obj)}, (∀ p ∈ l, p ∈ big) → InLed big l
  | [], _ => trivial
  | p :: _, h => ⟨h p (.head _), InLed.of fun q hq => h q (.tail _ hq)⟩
theorem fan_le (row : List Int) : fan row ≤ 4 := by unfold fan; omega
theorem flat_len : ∀ l : List (List Int), (l.flatMap goOn).length ≤ l.length * 4
  | [] => Nat.le_refl _
  | r :: l => by
    have := flat_len l
    have h := fan_le r
    rw [List.flatMap_cons, List.length_append, List.length_cons]
    have : (goOn r).length = fan r := by unfold goOn; rw [List.length_map, List.length_range]
    omega
theorem range_snoc (row : List Int) (j : Nat) : (List.range (j + 1)).map (stepRow row) = (List.range j).map (stepRow row) ++ [stepRow row j] := by rw [List.range_succ, List.map_append]; rfl
theorem allLt_mem {d : Addr} {l : List (Addr × Obj)} (h : AllLt d l) : ∀ p ∈ l, @LT.lt Nat _ p.1 d := by
  induction l with
  | nil => intro p hp; cases hp
  | cons q r ih =>
    intro p hp
    rcases List.mem_cons.mp hp with e | hp
    · rw [e]; exact h.1
    · exact ih h.2 p hp
structure RS where
  r : Addr
  n : Nat
  refs : List Value
  nw : List (Addr × Obj)
def strOf (l : List Nat) : Str := ⟨l.toArray⟩
def markS (wd : Str) (row : List Int) (k : Nat) : Str := if (k : Int) ∈ row then itemAt (Txt.upper wd) k else itemAt wd k
def markL (wd : Str) (row : List Int) : List Nat := (List.range 4).map fun (k : Nat) => if (k : Int) ∈ row then chr wd k - 32 else chr wd k
def hit (wd p : Str) (row : List Int) : Bool := chaseL (greats p) (markL wd row)
def foundC (wd p : Str) (rows : List (List Int)) : List Str := (rows.filter (hit wd p)).map fun row => strOf (markL wd row)
theorem foundC_snoc (wd p : Str) (rows : List (List Int)) (row : List Int) : foundC wd p (rows ++ [row]) = foundC wd p rows ++ (if hit wd p row = true then [strOf (markL wd row)] else []) := by
  unfold foundC
  rw [List.filter_append, List.map_append]
  congr 1
  simp only [List.filter_cons, List.filter_nil]
  split <;> rfl
theorem ints_dats {news : List (Addr × Obj)} : ∀ {vs : List Value} {ns : List Int}, IntsAre vs ns → DatAll news vs (ns.map Dat.int)
  | _, _, .nil => .nil
  | _, _, .cons n t h => .cons (.int n t) (ints_dats h)
theorem int_isIn {prog : Program} {w : World} {A : Around} {E : Value → Shared → Prop} {s : Shared} {h₀ : Heap} {L l : Addr} {news : List (Addr × Obj)} {Q : Value → Shared → Prop} {vs : List Value} {ns : List Int} {n : Nat} {x : Int} {t : Tok}
    (N : News h₀ L s.heap news) (hm : (l, W.listOf vs.toArray n) ∈ news) (hi : IntsAre vs ns) (hu : A.units + 64 < cLine) (h : Q (.bool (decide (x ∈ ns))) s) : wpAny (model prog w) A (compareOp .In (.int x t) (.ref l)) Q E s := by
  refine kqd_isIn (n₁ := []) (n₂ := []) (d := .int x) N hm rfl rfl (ints_dats hi) (fun p hp => nomatch hp) (.int x t) (fun p hp => nomatch hp) (fun d hd => ?_) rfl hu ?_
  · obtain ⟨y, hy, rfl⟩ := List.mem_map.mp hd
    rfl
  · have e : (Dat.int x ∈ ns.map Dat.int) ↔ x ∈ ns := by simp
    by_cases hq : x ∈ ns
    · have z := e.mpr hq
      simp only [z, decide_true]
      simpa [hq] using h
    · have z : ¬ (Dat.int x ∈ ns.map Dat.int) := fun z => hq (e.mp z)
      simp only [z, decide_false]
      simpa [hq] using h
theorem mark_lst {wd : Str} (hw : wd.length = 4) (ha : Abc wd) (row : List Int) {k : Nat} (hk : k < 4) : lst (markS wd row k) = [if (k : Int) ∈ row then chr wd k - 32 else chr wd k] := by
  unfold markS
  split
  · unfold itemAt
    rw [item_chr (by rw [up_len ha, hw]; exact hk)]
    unfold chr
    rw [up_lst ha, List.getD_eq_getElem?_getD, List.getD_eq_getElem?_getD, List.getElem?_map, List.getElem?_eq_getElem (by rw [lst_len, hw]; exact hk)]; rfl
  · unfold itemAt
    rw [item_chr (by rw [hw]; exact hk)]
theorem flat_ones {α : Type} (f : Nat → Nat) (g : Nat → Str) : ∀ l : List Nat, (∀ k ∈ l, lst (g k) = [f k]) → ((l.map g).map lst).flatten = l.map f
  | [], _ => rfl
  | k :: l, h => by
    rw [List.map_cons, List.map_cons, List.flatten_cons, List.map_cons, flat_ones (α := α) f g l fun x hx => h x (.tail _ hx), h k (.head _)]; rfl
theorem marked_eq {wd : Str} (hw : wd.length = 4) (ha : Abc wd) (row : List Int) : Txt.join (Str.ofString "") ((List.range 4).map (markS wd row)) = strOf (markL wd row) := by
  apply lst_inj
  rw [join_lst, flat_ones (α := Nat) (fun k => if (k : Int) ∈ row then chr wd k - 32 else chr wd k) (markS wd row) (List.range 4) fun k hk => mark_lst hw ha row (List.mem_range.mp hk)]
  rfl
theorem great_mid (p : Str) : ((greats p).map strOf).map lst = greats p := by
  rw [List.map_map]
  conv => rhs; rw [← List.map_id (greats p)]
  rfl
structure FS where
  oR : Obj
  v : Option Value
  n : Nat
  ws : List Value
section
local macro_rules | `(tactic| walk_at "call builtin:list.append") => `(tactic| (refine hold_in ?_))
local macro_rules | `(tactic| walk_at "compareOp In int ref") => `(tactic| (refine hold_in ?_))
local macro_rules | `(tactic| walk_at "call builtin:str.join") => `(tactic| (refine hold_in ?_))
local macro_rules | `(tactic| walk_at "call ref") => `(tactic| (refine hold_in ?_))
local macro_rules | `(tactic| walk_at "exec Assign cons ListComp") => `(tactic| (refine hold_in ?_))
local macro_rules | `(tactic| walk_at "subscriptTail") => `(tactic| (k_here; (with_reducible show wpAny _ _ (subscriptTail _ _ (Value.ref _) (Value.int _ _)) _ _ _); (refine hold_in ?_)))
local macro_rules | `(tactic| walk_at "binaryOp Add ref ref") => `(tactic| (refine hold_in ?_))
local macro_rules | `(tactic| walk_at "call type:range") => `(tactic| (refine hold_in ?_))
theorem found_spec {w : World} {loose : List Str} {mean : ExcName → Option Value} {mg mb : Str → Option Value} {s : Shared} {dp un : Nat} {fr : List Env} {gd : Option (List Code)} {wd p : Str} {tw tp : Tok} {E Q : Value → Shared → Prop} :
    (hd.heap_39 w.params).In s.heap → Top hd.view_39 loose mean mg mb s.heap → dp + 60 < recursionLimit → un + 600 < cLine → wd.length = 4 → 1 ≤ p.length ∧ p.length ≤ 3 → Abc wd → Abc p →
    (∀ D ws n h' tk, s.heap.StaysIn h' → s.heap.get? D = none → h'.get? D = some (W.listOf (List.toArray ws) n) → StrsAre ws (foundC wd p (rowsC p.length)) → Q (.ref D) { s with heap := h', toks := tk }) →
    wpAny (model PySem.Challenge.rw_pm0056_02.row.prog w) (amb dp un fr gd) (call (.ref 238) [.str wd tw, .str p tp]) Q E s := by
  k_fill
  intro X T hdp hun hw4 hpl hwa hpa ret
  k_dflt (refine' call_mc (binds := [("word", .str wd tw), ("part", .str p tp)]) X T ?ho ?hcd ?hroom ?hb ?hl ?hc ?_ ?hco ?hgen ?hk; (case ho => k_is); (case hcd => k_is); (case hroom => exact Nat.lt_of_le_of_lt (Nat.le_add_right _ _) hdp); (case hb => exact BindsTo.of_eq rfl); (case hl => exact rfl); (case hc => decide +kernel); (case hco => exact rfl); (case hgen => exact rfl); (case hk => exact rfl))
  intro L h₁ tk₁ cells F N Y
  k_cells Y
  rename_i oR oG oW dR dG dW
  k_steps
  unfold Hold
  rename Fr _ _ _ _ => F1
  rename News _ _ _ _ => N1
  k_dflt (refine' pattern_use F1 N1 X T (by omega) (by omega) hpl hpa ?_)
  intro P tP h2 tk2 F2 N2 hP
  clear F1 N1
  k_steps
  unfold Hold
  rename Fr _ _ _ _ => F3
  rename News _ _ _ _ => N3
  rename (_ = Data.cell (some (Value.str (Txt.upper wd) _))) => dG2
  rename_i c1 oG2 q3 r0 q4 q5 r1 q6 q7 q8 q9
  refine it_str (σ := RS) (keep := []) (fun q => (q.r, W.listOf q.refs.toArray q.n) :: (L + 1 + 1 + 1, oR) :: (L + 1 + 1, oG2) :: (L + 1, oW) :: q.nw) (fun q => [("rows", .ref q.r)])
    (fun i q => RowsAre q.nw q.refs (rowsC i) ∧ (@Ne Nat q.r (L + 1 + 1 + 1) ∧ ∀ p ∈ q.nw, @LT.lt Nat _ (L + 1 + 1 + 1) p.1)) ["rows", "step"] rfl hpa F3 (led₀ := (q6, W.listOf #[Value.ref q4] 0) :: (L + 1 + 1 + 1, oR) :: (L + 1 + 1, oG2) :: (L + 1, oW) :: [(q4, W.listOf #[Value.int (-1) (r0 + 1)] 0)]) (fun p hp => N3 p (by simp only [List.mem_cons, List.not_mem_nil, or_false] at hp ⊢; rcases hp with h | h | h | h | h <;> simp [h])) (fun _ => trivial)
    ⟨⟨q6, 0, [.ref q4], _⟩, rfl, ⟨.cons (vs := [.int (-1) _]) (.head _) (.cons _ _ .nil) .nil, Nat.ne_of_gt q8.2.1, fun p hp => by rw [List.mem_singleton.mp hp]; exact r1.1⟩, by with_unfolding_all exact ⟨rfl, trivial⟩⟩ ?_ ?_
  · rintro I i ⟨r, n, refs, nw⟩ ch ti u h₃ tk₃ oI hi ⟨hq, hqr, hqL⟩ hlt hne F4 N4
    dsimp only at *
    have hneI := hne.all
    k_steps
    unfold Hold
    rename Fr _ _ _ _ => F5
    rename News _ _ _ _ => N5
    have hi3 : i < 3 := by have := (List.getElem?_eq_some_iff.mp hi).1; rw [lst_len] at this; omega
    have hrl := rows_len i (by omega)
    have hql := hq.length
    have hro := rows_ok i
    generalize hR : rowsC i = rows at hq hrl hql hro
    have hat : ∀ (j : Nat) (v : Value), refs.toArray[j]? = some v → ∃ a vs n, v = .ref a ∧ (a, W.listOf (List.toArray vs) n) ∈ nw ∧ IntsAre vs (rows.getD j []) ∧ rows.getD j [] ∈ rows ∧ rows[j]? = some (rows.getD j []) := by
      intro j v hv
      obtain ⟨a, vs, n, row, e1, e2, e3, e4⟩ := hq.at j v (by simpa using hv)
      have e5 : rows.getD j [] = row := by rw [List.getD_eq_getElem?_getD, e4]; rfl
      rw [e5]
      exact ⟨a, vs, n, e1, e2, e3, List.mem_of_getElem? e4, e4⟩
    have hin : ∀ j, j < refs.toArray.size → rows.getD j [] ∈ rows ∧ rows[j]? = some (rows.getD j []) := fun j hj => by
      have hj' : j < rows.length := by rw [List.size_toArray] at hj; omega
      rw [List.getD_eq_getElem?_getD, List.getElem?_eq_getElem hj']
      exact ⟨List.getElem_mem hj', rfl⟩
    k_dflt (refine' Assign_LR F5 ?a0 ?a1 ?a3 ?a4 ?a5 ?a6 ?a7 ?a8 ?a9 ?a10 ?a11 ?a13 ?a14 ?_; (case a0 => rfl); (case a1 => with_unfolding_all rfl); (case a3 => with_unfolding_all rfl); (case a4 => decide); (case a5 => rfl); (case a6 => decide); (case a7 => rfl); (case a8 => rfl); (case a9 => decide); (case a10 => rfl); (case a11 => rfl); (case a13 => intro _; rfl); (case a14 => intro _ _; rfl))
    k_dflt (refine' nameX_L (v := .ref r) F5 ?nv ?_ ?nk ?nx ?nd)
    case nv => with_unfolding_all rfl
    case nk => rfl
    case nx => rfl
    case nd => decide
    refine ⟨fun j ys nw' => RowsAre nw' ys ((rows.take j).flatMap goOn) ∧ ∀ q ∈ nw', (q.1 : Nat) ≠ I ∧ @LT.lt Nat _ (L + 1 + 1 + 1) q.1, fun j l ys nw' => (RowsAre nw' ys ((rows.take j).flatMap goOn ++ (List.range l).map (stepRow (rows.getD j []))) ∧ l ≤ 4) ∧ ∀ q ∈ nw', (q.1 : Nat) ≠ I ∧ @LT.lt Nat _ (L + 1 + 1 + 1) q.1, fun j => lastI (rows.getD j []) + 1, fun j => fan (rows.getD j []), r, refs.toArray, n, _, rfl, rfl, F5, N5, .tail _ (.head _), ?hsz, ?hbd, ⟨.nil, fun q hq => nomatch hq⟩, ?hOI, ?hIO, ?it2, ?el, ?fin⟩
    case hsz =>
      rintro j l ys nw' ⟨⟨h1, h2⟩, -⟩
      have h3 := h1.length
      have h4 := flat_len (rows.take j)
      rw [List.length_append, List.length_map, List.length_range] at h3
      rw [List.length_take] at h4
      rw [sizeLine_eq]; omega
    case hbd =>
      intro j hj
      obtain ⟨-, b1, b2, -⟩ := hro _ (hin j hj).1
      have := fan_le (rows.getD j [])
      dsimp only
      exact ⟨by omega, by omega, by omega⟩
    case hOI =>
      rintro j ys nw' hj ⟨h1, h2⟩
      exact ⟨⟨by simpa using h1, Nat.zero_le _⟩, h2⟩
    case hIO =>
      rintro j ys nw' hj ⟨⟨h1, -⟩, h2⟩
      refine ⟨?_, h2⟩
      rw [take_snoc (hin j hj).2, List.flatMap_append, List.flatMap_singleton]
      exact h1
    case it2 =>
      rintro I' C D j v ys nw' oI' oC m₂ h7 tk7 E' hv hx hJ hC F7 N7
      obtain ⟨a, vs, n', rfl, hmem, hvi, hrm, -⟩ := hat j v hv
      obtain ⟨hr0, hr1, hr2, hr3⟩ := hro _ hrm
      obtain ⟨tl, hlast⟩ := ints_last hvi hr0
      have hvl := hvi.length
      k_steps
      unfold Hold
      k_dflt (refine' last_led N7 (List.mem_cons_of_mem _ (List.mem_cons_of_mem _ (List.mem_cons_of_mem _ (List.mem_append_left _ (List.mem_cons_of_mem _ (List.mem_cons_of_mem _ (List.mem_cons_of_mem _ (List.mem_cons_of_mem _ (List.mem_cons_of_mem _ hmem))))))))) (by omega) hlast ?_ ?h1 ?h2)
      case h1 => with_unfolding_all rfl
      case h2 => intro _; with_unfolding_all rfl
      k_steps
      unfold Hold
      k_dflt (refine range2_rows F7 N7 ?_)
      intro h8 tk8 b1 b2 b3 R8 F8 N8 S8
      have e : ((wd.length : Nat) : Int) = lastI (rows.getD j []) + 1 + ((fan (rows.getD j []) : Nat) : Int) := by rw [hw4]; unfold fan; omega
      rw [e] at R8
      exact ⟨_, _, _, b1, b2, b3, rfl, rfl, F8, N8, R8⟩
    case el =>
      rintro J C D I' j v l ys nw' oI' oJ oC m₂ h7 tk7 t2 E' hv hl ⟨⟨hJ, hl4⟩, hJI⟩ hx1 hx2 hC F7 N7
      obtain ⟨a, vs, n', rfl, hmem, hvi, hrm, -⟩ := hat j v hv
      obtain ⟨hr0, hr1, hr2, hr3⟩ := hro _ hrm
      have hvl := hvi.length
      dsimp only at hl hx2
      have hmm : (a, W.listOf (List.toArray vs) n') ∈ (J, oJ) :: (C, oC) :: (D, LCg.lst ys) :: (I', oI') :: ((I, oI) :: (r, W.listOf refs.toArray n) :: (L + 1 + 1 + 1, oR) :: (L + 1 + 1, oG2) :: (L + 1, oW) :: nw ++ nw') := List.mem_cons_of_mem _ (List.mem_cons_of_mem _ (List.mem_cons_of_mem _ (List.mem_cons_of_mem _ (List.mem_append_left _ (List.mem_cons_of_mem _ (List.mem_cons_of_mem _ (List.mem_cons_of_mem _ (List.mem_cons_of_mem _ (List.mem_cons_of_mem _ hmem)))))))))
      k_steps
      unfold Hold
      rename Fr _ _ _ _ => F8
      rename News _ _ _ _ => N8
      rename_i l8 h8 lt8
      k_dflt (refine' add_lists (ws := [Value.int (lastI (rows.getD j []) + 1 + (l : Int)) t2]) F8 N8 ⟨_, (N8 _ (.tail _ hmm)).1, rfl, _, rfl⟩ ⟨_, (N8 _ (.head _)).1, rfl, _, rfl⟩ ?_ ?hsz)
      case hsz => rw [sizeLine_eq, List.length_singleton]; omega
      intro h9 F9 N9
      have lt9 : ∀ q ∈ (J, oJ) :: (C, oC) :: (D, LCg.lst ys) :: (I', oI') :: ((I, oI) :: (r, W.listOf refs.toArray n) :: (L + 1 + 1 + 1, oR) :: (L + 1 + 1, oG2) :: (L + 1, oW) :: nw ++ nw'), (q.1 : Nat) ≠ h8.objs.size := fun q hq => Nat.ne_of_lt (Heap.lt_size (N8 _ (.tail _ hq)).1)
      refine ⟨h9, _, (h8.objs.size, W.listOf (vs ++ [Value.int (lastI (rows.getD j []) + 1 + (l : Int)) t2]).toArray 0) :: nw', rfl, F9, fun q hq => ?_, fun q hq => ?_, ⟨?_, by have := fan_le (rows.getD j []); omega⟩, fun q hq => ?_⟩
      · rcases List.mem_cons.mp hq with rfl | hq
        · exact N9 _ (.tail _ (.tail _ (.head _)))
        rcases List.mem_cons.mp hq with rfl | hq
        · exact N9 _ (.tail _ (.tail _ (.tail _ (.head _))))
        rcases List.mem_cons.mp hq with rfl | hq
        · exact N9 _ (.tail _ (.tail _ (.tail _ (.tail _ (.head _)))))
        rcases List.mem_cons.mp hq with rfl | hq
        · exact N9 _ (.tail _ (.tail _ (.tail _ (.tail _ (.tail _ (.head _))))))
        replace hq : q ∈ ((I, oI) :: (r, W.listOf refs.toArray n) :: (L + 1 + 1 + 1, oR) :: (L + 1 + 1, oG2) :: (L + 1, oW) :: nw) ++ (h8.objs.size, W.listOf (vs ++ [Value.int (lastI (rows.getD j []) + 1 + (l : Int)) t2]).toArray 0) :: nw' := hq
        rcases List.mem_append.mp hq with hq | hq
        · exact N9 _ (.tail _ (.tail _ (.tail _ (.tail _ (.tail _ (.tail _ (List.mem_append_left _ hq)))))))
        · rcases List.mem_cons.mp hq with rfl | hq
          · exact N9 _ (.head _)
          · exact N9 _ (.tail _ (.tail _ (.tail _ (.tail _ (.tail _ (.tail _ (List.mem_append_right _ hq)))))))
      · rcases List.mem_cons.mp hq with rfl | hq
        · exact .inr ⟨fun q => lt9 _ (.head _) q.symm, fun q => lt9 _ (.tail _ (.head _)) q.symm, fun q => lt9 _ (.tail _ (.tail _ (.head _))) q.symm, fun q => lt9 _ (.tail _ (.tail _ (.tail _ (.head _)))) q.symm⟩
        · exact .inl hq
      · rw [range_snoc, ← List.append_assoc]
        exact (hJ.mono fun q hq => .tail _ hq).append (.cons (.head _) (ints_snoc hvi _ _) .nil)
      · rcases List.mem_cons.mp hq with rfl | hq
        · exact ⟨fun q => lt9 _ (.tail _ (.tail _ (.tail _ (.tail _ (List.mem_append_left _ (.head _)))))) q.symm, Heap.lt_size (N8 (L + 1 + 1 + 1, oR) (.tail _ (.tail _ (.tail _ (.tail _ (.tail _ (.tail _ (.tail _ (.head _))))))))).1⟩
        · exact hJI q hq
    case fin =>
      rintro D h7 tk7 ys nw' ⟨hJ, hJI⟩ F7 N7 hD
      have hall : rows.take refs.toArray.size = rows := List.take_of_length_le (by rw [List.size_toArray]; omega)
      rw [hall] at hJ
      k_steps
      refine turn_end ⟨D, ys.length, ys, nw'⟩ F7 N7 (.tail _ (.head _)) ⟨.head _, .tail _ (.tail _ (.tail _ (.head _))), .tail _ (.tail _ (.tail _ (.tail _ (.head _)))), .tail _ (.tail _ (.tail _ (.tail _ (.tail _ (.head _))))), InLed.of fun q hq => .tail _ (List.mem_append_right _ hq)⟩
        ⟨fun e => hD _ (.head _) e.symm, hneI _ (.tail _ (.head _)), hneI _ (.tail _ (.tail _ (.head _))), hneI _ (.tail _ (.tail _ (.tail _ (.head _)))), AllNe.of fun q hq => (hJI q hq).1⟩ ⟨?_, fun e => hD _ (.tail _ (.tail _ (.head _))) e.symm, fun q hq => (hJI q hq).2⟩ (by with_unfolding_all exact ⟨rfl, trivial⟩) ?_
      · show RowsAre nw' ys (rowsC (i + 1))
        have : rowsC (i + 1) = (rowsC i).flatMap goOn := rfl
        rw [this, hR]; exact hJ
      · intro z hz
        obtain ⟨h1, h2, -⟩ := id hz
        simp only [h1, h2, if_false]
        rw [fmap_off ?hs hz]
        case hs => rfl
        simp only [h1, if_false]
  · rintro ⟨r, n, refs, nw⟩ u h₃ tk₃ ⟨hq, hqr, hqL⟩ F4 N4
    dsimp only at *
    have hrl := rows_len p.length hpl.2
    have hql := hq.length
    have hro := rows_ok p.length
    generalize hR : rowsC p.length = rows at hq hrl hql hro
    k_steps
    unfold Hold
    rename Fr _ _ _ _ => F5
    rename News _ _ _ _ => N5
    rename_i l5 h5 f5 n5 lt5 h5'
    dsimp only
    refine it_list (vs := refs) (σ := FS) (keep := [(r, W.listOf refs.toArray n)]) (fun q => (l5, W.listOf q.ws.toArray q.n) :: (r, W.listOf refs.toArray n) :: (L + 1 + 1 + 1, q.oR) :: (L + 1 + 1, oG2) :: (L + 1, oW) :: nw) (fun _ => [])
      (fun i q => StrsAre q.ws (foundC wd p (rows.take i)) ∧ q.oR.data = .cell q.v) ["marked"] rfl ⟨_, (N5 _ (.tail _ (.head _))).1, rfl, _, rfl⟩ ⟨.inr ⟨_, .head _⟩, (N5 _ (.tail _ (.head _))).2.1⟩ F5 N5 (fun _ => ⟨.tail _ (.head _), trivial⟩) ⟨⟨oR, _, 0, []⟩, rfl, ⟨.nil, dR⟩, trivial⟩ ?_ ?_
    · rintro J j ⟨oR', vR, nW, ws⟩ v u6 h6 tk6 oJ hv ⟨hws, hdR⟩ hltJ hneJ F6 N6
      have hneJ' := hneJ.all
      have hltJ1 := hltJ.1
      have hltJ2 := hltJ.2.1
      have hltJ3 := hltJ.2.2.1
      have hltJ4 := hltJ.2.2.2.1
      have hltJ5 := hltJ.2.2.2.2.1
      dsimp only at *
      obtain ⟨a, vs, n', row, rfl, hmem, hvi, hrow⟩ := hq.at j v hv
      have hcR : ∀ p ∈ nw, (p.1 : Nat) ≠ L + 1 + 1 + 1 := fun p hp => Nat.ne_of_gt (hqL p hp)
      clear F5 N5
      k_steps
      unfold Hold
      rename Fr _ _ _ _ => F7
      rename News _ _ _ _ => N7
      rename (_ = Data.cell (some (Value.ref a))) => dR7
      rename_i h7' oR7
      k_dflt (refine range1_rows F7 N7 ?_)
      intro h8 tk8 b1 b2 b3 R8 F8 N8 S8
      rw [hw4] at R8
      clear F7 N7
      refine LCg.CompSrc.range (n := 4) rfl F8 N8 R8 (small_one (by decide) (by decide) (by decide) (by decide)) (by rw [rangeSize_nat]; rfl) (by rw [sizeLine_eq]; decide) ?_
      intro g8
      refine turnsM (fun i zs => StrsAre zs ((List.range i).map (markS wd row))) trivial ?_ ?_ .nil
      · intro i zs v I9 oI9 C9 oC9 D9 m₂ h9 tk9 E' hi hJz hv9 hC9 hx9 F9 N9
        obtain ⟨tv, rfl⟩ := hv9
        rw [Int.zero_add] at hx9
        have hul := up_len hwa
        have hrs : (List.range (i + 1)).map (markS wd row) = (List.range i).map (markS wd row) ++ [markS wd row i] := by rw [List.range_succ, List.map_append]; rfl
        have hmm : (a, W.listOf (List.toArray vs) n') ∈ (I9, oI9) :: (C9, oC9) :: (D9, LCg.lst zs) :: (J, oJ) :: (l5, W.listOf ws.toArray nW) :: (r, W.listOf refs.toArray n) :: (L + 1 + 1 + 1, oR7) :: (L + 1 + 1, oG2) :: (L + 1, oW) :: nw := by simp [hmem]
        clear F8 N8
        k_steps
        unfold Hold
        k_dflt (refine' int_isIn N9 hmm hvi ?hu ?_)
        case hu => show un + 3 + 64 < cLine; omega
        by_cases hk : (i : Int) ∈ row
        · have hms : markS wd row i = itemAt (Txt.upper wd) i := by unfold markS; rw [if_pos hk]
          rw [decide_eq_true hk]
          k_steps
          rw [hrs, hms]
          exact strs_snoc hJz _ _
        · have hms : markS wd row i = itemAt wd i := by unfold markS; rw [if_neg hk]
          rw [decide_eq_false hk]
          k_steps
          rw [hrs, hms]
          exact strs_snoc hJz _ _
      · intro zs hzs D9 h9 tk9 F9 N9 o9
        clear F8 N8
        dsimp only
        have hml : ∀ q ∈ (List.range 4).map (markS wd row), q.length = 1 := fun q hq => by
          obtain ⟨k, hk, rfl⟩ := List.mem_map.mp hq
          rw [← lst_len, mark_lst hw4 hwa row (List.mem_range.mp hk)]; rfl
        have hmk := marked_eq hw4 hwa row
        have hlm : (strOf (markL wd row)).length = 4 := by rw [← hmk, len_join hml]; rfl
        have hPl : P.length ≤ 100 := by
          rw [← lst_len, hP]
          have h1 := dotted_len ([] :: (greats p ++ [[]]))
          have h2 := ones_sum ((lst p).map (· - 32))
          have h3 : greats p = ((lst p).map (· - 32)).map fun c => [c] := by unfold greats; rw [List.map_map]; rfl
          have h4 : (greats p).length = p.length := by unfold greats; rw [List.length_map, lst_len]
          rw [← h3, List.length_map, lst_len] at h2
          simp only [List.map_cons, List.map_append, List.map_nil, List.sum_cons, List.sum_append, List.sum_nil, List.length_cons, List.length_append, List.length_nil] at h1
          omega
        k_steps
        unfold Hold
        k_dflt (refine' join_led N9 (.head _) hzs ?jo ?_)
        case jo =>
          have := sum_len (xs := (List.range 4).map (markS wd row)) fun q hq => by rw [hml q hq]; exact Nat.le_refl _
          rw [sep_empty]
          have h4 : ((List.range 4).map (markS wd row)).length = 4 := rfl
          omega
        intro t10 k10
        rw [hmk]
        k_steps
        unfold Hold
        rename Fr _ _ _ _ => F11
        rename News _ _ _ _ => N11
        k_dflt (refine' em_mid_use (mid := (greats p).map strOf) F11 N11 X T ?e1 ?e2 hPl ?e3 ?e4 ?e5 ?e6 ?e7 ?_)
        case e1 => omega
        case e2 => omega
        case e3 => omega
        case e4 => rw [List.length_map]; unfold greats; rw [List.length_map, lst_len]; omega
        case e5 =>
          intro x hx
          obtain ⟨q, hq, rfl⟩ := List.mem_map.mp hx
          obtain ⟨c, -, rfl⟩ := List.mem_map.mp hq
          exact (by decide : (1 : Nat) ≤ 100)
        case e6 =>
          intro x hx
          obtain ⟨q, hq, rfl⟩ := List.mem_map.mp hx
          obtain ⟨c, hc, rfl⟩ := List.mem_map.mp hq
          intro h46
          have e : (46 : Nat) = c - 32 := List.mem_singleton.mp h46
          have := hpa c hc
          omega
        case e7 => rw [great_mid]; exact hP
        rw [great_mid]
        intro h12 tk12 F12 N12
        have hhit : chaseL (greats p) (lst (strOf (markL wd row))) = hit wd p row := rfl
        rw [hhit]
        clear F11 N11
        have hsn := foundC_snoc wd p (rows.take j) row
        rw [← take_snoc hrow] at hsn
        have hwl : ws.length ≤ 64 := by
          have h1 := hws.length
          have h2 := List.length_filter_le (hit wd p) (rows.take j)
          unfold foundC at h1
          rw [List.length_map] at h1
          rw [List.length_take] at h2
          omega
        cases hh : hit wd p row with
        | true =>
          rw [hh, if_pos rfl] at hsn
          have hcl5 : ∀ p ∈ nw, (p.1 : Nat) ≠ l5 := fun p hp => Nat.ne_of_lt (allLt_mem lt5.2.2.2.2 p hp)
          have hd9 : (l5 : Nat) ≠ D9 := o9.2.1
          k_steps
          unfold Hold
          rename Fr _ _ _ _ => F13
          rename News _ _ _ _ => N13
          k_dflt (refine' append_K F13 N13 ?k3 ?_ ?z; (case k3 => (refine' Upd.tail ?ua ?ub; (case ua => (refine neN ?_; exact fun e => hd9 e.symm)); (case ub => (refine' Upd.tail ?uc ?ud; (case uc => (refine neN ?_; exact fun e => Nat.ne_of_lt hltJ1 e.symm)); (case ud => (refine' Upd.head ?ue; case ue => k_all)))))); (case z => (rw [sizeLine_eq]; simp only [List.size_toArray]; omega)))
          intro h14 F14 N14
          clear F13 N13
          k_steps
          refine turn_end ⟨oR7, _, nW + 1, ws ++ [.str (strOf (markL wd row)) t10]⟩ F14 N14 (.tail _ (.head _)) (InLed.of fun q hq => ?_) ⟨hneJ' (l5, W.listOf ws.toArray nW) (.head _), hneJ' (r, W.listOf refs.toArray n) (.tail _ (.head _)), hneJ' (L + 1 + 1 + 1, oR') (.tail _ (.tail _ (.head _))), hneJ' _ (.tail _ (.tail _ (.tail _ (.head _)))), hneJ' _ (.tail _ (.tail _ (.tail _ (.tail _ (.head _))))), AllNe.of fun q hq => hneJ' q (.tail _ (.tail _ (.tail _ (.tail _ (.tail _ hq)))))⟩ ⟨by dsimp only; rw [hsn]; exact strs_snoc hws _ _, dR7⟩ trivial ?_
          · rcases List.mem_cons.mp hq with rfl | hq
            · rw [show W.listOf (ws ++ [Value.str (strOf (markL wd row)) t10]).toArray (nW + 1) = W.listOf (ws.toArray.push (Value.str (strOf (markL wd row)) t10)) (nW + 1) by rw [List.push_toArray]]
              exact .tail _ (.tail _ (.head _))
            · exact .tail _ (.tail _ (.tail _ hq))
          · intro z hz
            obtain ⟨h1, -⟩ := id hz
            simp only [h1, if_false]
            rw [fmap_off ?hs hz]
            case hs => rfl
        | false =>
          rw [hh, if_neg (by decide), List.append_nil] at hsn
          k_steps
          refine turn_end ⟨oR7, _, nW, ws⟩ F12 N12 (.tail _ (.head _)) (InLed.of fun q hq => .tail _ (.tail _ hq)) ⟨hneJ' (l5, W.listOf ws.toArray nW) (.head _), hneJ' (r, W.listOf refs.toArray n) (.tail _ (.head _)), hneJ' (L + 1 + 1 + 1, oR') (.tail _ (.tail _ (.head _))), hneJ' _ (.tail _ (.tail _ (.tail _ (.head _)))), hneJ' _ (.tail _ (.tail _ (.tail _ (.tail _ (.head _))))), AllNe.of fun q hq => hneJ' q (.tail _ (.tail _ (.tail _ (.tail _ (.tail _ hq)))))⟩ ⟨by dsimp only; rw [hsn]; exact hws, dR7⟩ trivial ?_
          intro z hz
          obtain ⟨h1, -⟩ := id hz
          simp only [h1, if_false]
          rw [fmap_off ?hs hz]
          case hs => rfl
    · rintro ⟨oR', vR, nW, ws⟩ u6 h6 tk6 ⟨hws, hdR⟩ F6 N6
      dsimp only at *
      rw [List.take_of_length_le (by omega), ← hR] at hws
      clear F5 N5
      k_steps
      exact ret _ _ _ _ _ F6.keep (N6 _ (.head _)).2.2 (N6 _ (.head _)).1 hws
end
end
theorem reset_D6 {M : Model} {A : Around} {E : Value → Shared → Prop} {Q : Flow → Shared → Prop} {s : Shared} {env : Env} (h : Q .next s) : wpAny M A (execs [] env) Q E s := by
  w_top off
  walk1
  w_top off
  exact h
section
/-- an entry of a Headers: its place, name and value -/
abbrev Ent2 := Addr × (Str × Tok) × (Str × Tok)
def entObj2 (e : Ent2) : Obj := { cls := .type "tuple", data := .seq #[.str e.2.1.1 e.2.1.2, .str e.2.2.1 e.2.2.2] }
def entRefs2 (es : List Ent2) : List Value := es.map fun e => .ref e.1
structure Book2 (bk d l : Addr) (t0 : Tok) (n1 n2 : Nat) (hs : Int) (es : List Ent2) (news : List (Addr × Obj)) : Prop where
  inst : (bk, instObj 182 d) ∈ news
  dict : (d, dictOf [⟨hs, .str "_headers" t0, .ref l⟩] n1) ∈ news
  list : (l, W.listOf (entRefs2 es).toArray n2) ∈ news
  tups : ∀ e ∈ es, (e.1, entObj2 e) ∈ news
section
local macro_rules | `(tactic| walk_at "subscriptTail") => `(tactic| (k_here; (with_reducible show wpAny _ _ (subscriptTail _ (PySem.Expr.Slice _ _ _ _) _ _) _ _ _); (refine hold_in ?_)))
theorem items_use {w : World} {loose : List Str} {mean : ExcName → Option Value} {mg mb : Str → Option Value} {s : Shared} {dp un : Nat} {fr : List Env} {gd : Option (List Code)} {E Q : Value → Shared → Prop} {h₀ : Heap} {L : Addr} {m : Str → Option Value} {news : List (Addr × Obj)}
    {bk d l : Addr} {t0 : Tok} {n1 n2 : Nat} {hs : Int} {es : List Ent2} :
    Fr h₀ L s.heap m → News h₀ L s.heap news → (hd.heap_39 w.params).In h₀ → Top hd.view_39 loose mean mg mb h₀ → dp + 30 < recursionLimit → un + 300 < cLine →
    Book2 bk d l t0 n1 n2 hs es news → es.length ≤ 1000 →
    (∀ h' tk D, (∀ p ∈ news, p.1 < D) → Fr h₀ L h' m → News h₀ L h' ((D, W.listOf (entRefs2 es).toArray 0) :: news) → Q (.ref D) { s with heap := h', toks := tk }) →
    wpAny (model PySem.Challenge.rw_pm0056_02.row.prog w) (amb dp un fr gd) (call (.ref 146) [.ref bk]) Q E s := by
  k_fill
  intro F N X T hdp hun BK hel ret
  k_dflt (refine' call_in (binds := [("self", .ref bk)]) F N X T ?ho ?hcd ?hroom ?hb ?hl ?hc ?hco ?hgen ?hk ?_; (case ho => k_is); (case hcd => k_is); (case hroom => exact Nat.lt_of_le_of_lt (Nat.le_add_right _ _) hdp); (case hb => exact BindsTo.of_eq rfl); (case hl => exact locs rfl); (case hc => decide); (case hco => exact rfl); (case hgen => exact rfl); (case hk => exact rfl))
  intro g L' h₁ F₁ N₁ X₁ T₁ st
  clear X T
  obtain ⟨b1, b2, b3, b4⟩ := id BK
  k_steps
  unfold Hold
  rename Fr g _ _ _ => F2
  rename News g _ _ _ => N2
  k_dflt (refine' kba_turn (value' := PySem.Expr.Name (PySem.Str.ofString "_") ⟨0, 0, 0, 0⟩) (fun _ => rfl) ?_)
  k_dflt (refine' strs_slice F2 N2 b3 ?hz IsPart.none IsPart.none ?_ ?ss ?tt)
  case hz => unfold entRefs2; rw [List.length_map]; exact hel
  case ss => with_unfolding_all rfl
  case tt => intro _; with_unfolding_all rfl
  intro D h3 F3 N3 l3
  have e : kms_pick (entRefs2 es) none none = entRefs2 es := by unfold kms_pick; show ((entRefs2 es).drop 0).take ((entRefs2 es).length - 0) = _; simp
  rw [e] at N3
  k_steps
  refine leaveK_ (by assumption) N3 fun F' N' => ret _ _ _ l3 F' N'
end
end
theorem reset_D7 {M : Model} {A : Around} {E : Value → Shared → Prop} {Q : Flow → Shared → Prop} {s : Shared} {env : Env} (h : Q .next s) : wpAny M A (execs [] env) Q E s := by
  w_top off
  walk1
  w_top off
  exact h
section
section
variable {prog : Program} {w : World} {dp un : Nat} {fr : List Env} {gd : Option (List Code)} {E Q : Value → Shared → Prop} {s : Shared} {h₀ : Heap} {L : Addr} {m : Str → Option Value} {news : List (Addr × Obj)} {K : Frag} {p : Program} {loose : List Str} {mean : ExcName → Option Value} {mg mb : Str → Option Value}
  {name qual : Str} {params : Arguments} {body : List Stmt} {scope : Scope} {dV kV doc pm cdv ct oc : Value} {an od : Option Addr} {osl : Array (Option Value)} {f : Addr} {args : List Value} {kw : List (Str × Value)} {binds : List (Str × Value)}
/-- a call in which what the caller holds may be read, some of the callee's names being cells -/
theorem call_ic (F : Fr h₀ L s.heap m) (N : News h₀ L s.heap news) (X : K.In h₀) (T : Top p loose mean mg mb h₀)
    (ho : K.lookup f = some ⟨oc, od, .func (fnOf name qual params body scope dV kV doc pm an cdv ct), osl⟩) (hcd : codeIn K cdv qual = true) (hroom : dp < recursionLimit)
    (hbind : BindsTo s (fnOf name qual params body scope dV kV doc pm an cdv ct) ⟨args, kw⟩ binds) (hkind : (binds.all fun y => scope.names.lookup y.1 == some .local || scope.names.lookup y.1 == some .cell) = true)
    (hnd : ((cellsFrom 0 scope.names []).map (·.1)).Nodup) (hco : scope.isCoroutine = false) (hgen : scope.isGenerator = false) (hk : scope.kind = .function)
    (h : ∀ g L' h₁ tk cells, (∀ p ∈ news, p.1 < L') → Fr g L' h₁ (bindL (envOfC qual scope L' f cdv).kindOf binds fun _ => none) → News g L' h₁ (cells ++ news) → CellsAre (bindC (envOfC qual scope L' f cdv).kindOf binds fun _ => none) (cellsFrom (L' + 1) scope.names []) cells →
      K.In g → Top p loose mean mg mb g → h₀.StaysIn g →
      wpAny (model prog w) (amb (dp + 1) (un + 3) (envOfC qual scope L' f cdv :: fr) gd) (execs body (envOfC qual scope L' f cdv))
        (fun fl s' => LeaveK h₀ L m g (RQ E Q) (match fl with | .ret v => v | _ => .none) s') (fun _ _ => False) { s with heap := h₁, toks := tk }) :
    wpAny (model prog w) (amb dp un fr gd) (call (.ref f) args kw) Q E s := by
  refine wpAny_call (codeAny_call_function (R := RQ E Q) hroom ((X.keeps F.keep) _ _ ho) rfl hco hgen rfl (codeRec_of (X.keeps F.keep) hcd) (hbind _ _ _ _ ?_))
  refine wpAny_newFunctionEnv_cells hk (kindsX hkind _) fun env' he s' x => ?_
  subst he
  refine ⟨(T.nolimit.keeps F.keep).keeps x.toInCall.keep, codeAny_func ?_⟩
  have nm : ∀ b o, h₀.get? b = some o → b ∉ news.map (·.1) := fun b o e q => by
    obtain ⟨p, hp, rfl⟩ := List.mem_map.mp q
    rw [(N p hp).2.2] at e; cases e
  have st : h₀.StaysIn (hideAll s.heap (news.map (·.1))) := fun b o e => hideAll_get _ (F.keep b o e) (nm b o e)
  obtain ⟨oL, es, ep, hL, hLd, hLk, hLf⟩ := F.ns
  have nL : L ∉ news.map (·.1) := fun q => by
    obtain ⟨p, hp, e⟩ := List.mem_map.mp q
    exact (N p hp).2.1 e
  have hLg := hideAll_get (news.map (·.1)) hL nL
  obtain ⟨h₁, tk, rfl, _⟩ := x.done
  have hk₁ := x.toInCall.keep
  obtain ⟨cells, NC, Y⟩ := Cl.news (h₀ := hideAll s.heap (news.map (·.1))) (Nat.le_of_eq (hideAll_size _ _)) fun n c hm => ⟨x.cell n c (lookup_of_mem_nodup (cellsFrom_names scope.names 0 (s.heap.objs.size + 1) [] [] rfl ▸ hnd) hm), x.above n c hm⟩
  refine wpAny_mono (h (hideAll s.heap (news.map fun (q : Addr × Obj) => q.1)) s.heap.objs.size h₁ tk cells (fun p hp => Heap.lt_size (N p hp).1) ⟨x.toInCall.ns, fun b o e => hk₁ b o (of_hideAll _ e), Nat.le_of_eq (hideAll_size _ _)⟩
    (fun p hp => ?_) Y (X.keeps (fun b o e => st b o e)) (T.keeps (fun b o e => st b o e)) st) (fun fl s' hl => ?_) fun _ _ y => y.elim
  · rcases List.mem_append.mp hp with hp | hp
    · exact NC p hp
    · exact ⟨hk₁ _ _ (N p hp).1, Nat.ne_of_lt (Heap.lt_size (N p hp).1), hideAll_none _ (List.mem_map_of_mem hp)⟩
  obtain ⟨L', m', news', F', N', k⟩ := hl
  refine k ⟨⟨oL, es, ep, F'.keep L oL hLg, hLd, hLk, hLf⟩, fun b o e => F'.keep b o (st b o e), F.above⟩ fun p hp => ⟨(N' p hp).1, fun q => ?_, ?_⟩
  · have := (N' p hp).2.2; rw [q, hLg] at this; cases this
  · cases q : h₀.get? p.1 with
    | none => rfl
    | some o => have := (N' p hp).2.2; rw [st _ _ q] at this; cases this
end
theorem AbcU.chars {x : Str} (h : AbcU x) : ∀ c ∈ lst x, 32 < c ∧ c < 127 := fun c hc => by
  have := h c hc
  omega
def cntA (es : List Ent2) (x : Str) : Nat := (es.filter fun e => Txt.lower e.2.1.1 == x).length
theorem cntA_succ {es : List Ent2} {x : Str} {i : Nat} {e : Ent2} (h : es[i]? = some e) : cntA (es.take (i + 1)) x = cntA (es.take i) x + if (Txt.lower e.2.1.1 == x) = true then 1 else 0 := by
  unfold cntA
  rw [take_snoc h, List.filter_append, List.length_append]
  congr 1
  simp only [List.filter_cons, List.filter_nil]
  split <;> rfl
section
local macro_rules | `(tactic| walk_at "call builtin:str.lower") => `(tactic| (k_here; (with_reducible show wpAny _ _ (call (Value.builtin "str.lower") [Value.str _ _]) _ _ _); k_dflt (refine lower_abc (by assumption) (by assumption) ?_)))
theorem get_all_use {w : World} {loose : List Str} {mean : ExcName → Option Value} {mg mb : Str → Option Value} {s : Shared} {dp un : Nat} {fr : List Env} {gd : Option (List Code)} {E Q : Value → Shared → Prop} {h₀ : Heap} {L : Addr} {m : Str → Option Value} {news : List (Addr × Obj)}
    {bk d l : Addr} {t0 : Tok} {n1 n2 : Nat} {hs : Int} {es : List Ent2} {x : Str} {tx : Tok} :
    Fr h₀ L s.heap m → News h₀ L s.heap news → (hd.heap_39 w.params).In h₀ → Top hd.view_39 loose mean mg mb h₀ → dp + 30 < recursionLimit → un + 300 < cLine →
    Book2 bk d l t0 n1 n2 hs es news → es.length ≤ 1000 → x.length ≤ 20 → Abc x → (∀ e ∈ es, e.2.1.1.length ≤ 20) →
    (∀ h' tk D vs n, Fr h₀ L h' m → News h₀ L h' ((D, W.listOf (List.toArray vs) n) :: news) → vs.length = cntA es x → Q (.ref D) { s with heap := h', toks := tk }) →
    wpAny (model PySem.Challenge.rw_pm0056_02.row.prog w) (amb dp un fr gd) (call (.ref 121) [.ref bk, .str x tx]) Q E s := by
  k_fill
  intro F N X T hdp hun BK hel hx hax hent ret
  k_dflt (refine' call_ic (binds := [("self", .ref bk), ("name", .str x tx)]) F N X T ?ho ?hcd ?hroom ?hb ?hl ?hc ?hco ?hgen ?hk ?_; (case ho => k_is); (case hcd => k_is); (case hroom => exact Nat.lt_of_le_of_lt (Nat.le_add_right _ _) hdp); (case hb => exact BindsTo.of_eq rfl); (case hl => exact rfl); (case hc => decide +kernel); (case hco => exact rfl); (case hgen => exact rfl); (case hk => exact rfl))
  intro g L' h₁ tk₁ cells ltL F₁ N₁ Y X₁ T₁ st
  have hcn : ∀ p ∈ news, p.1 ≠ L' + 1 := fun p hp => Nat.ne_of_lt (Nat.lt_succ_of_lt (ltL p hp))
  k_cells Y
  simp only [List.cons_append, List.nil_append] at N₁
  have hcx := hax.chars
  clear X T
  obtain ⟨b1, b2, b3, b4⟩ := id BK
  k_steps
  unfold Hold
  rename Fr g _ _ _ => F2
  rename News g _ _ _ => N2
  have hlr : (entRefs2 es).length = es.length := by simp [entRefs2]
  refine LCt.CompSrcT.ledger rfl F2 N2 (.tail _ b3) (by rw [List.size_toArray, hlr, sizeLine_eq]; omega) ?_
  intro gh
  refine turnsF (fun i ys => ys.length = cntA (es.take i) x) (.inr ⟨_, .tail _ b3, rfl, _, rfl⟩) ?_ ?_ rfl
  · intro i ys v I oI C oC D m₂ h3 tk3 E' hi hJ hv hC hx3 F3 N3
    have hv' : (es.map fun e => Value.ref e.1)[i]? = some v := by simpa [entRefs2] using hv
    rw [List.getElem?_map] at hv'
    obtain ⟨e, he, rfl⟩ : ∃ e, es[i]? = some e ∧ Value.ref e.1 = v := by
      cases q : es[i]? with
      | none => rw [q] at hv'; cases hv'
      | some e => rw [q] at hv'; exact ⟨e, rfl, Option.some.inj hv'⟩
    have hem : e ∈ es := List.mem_of_getElem? he
    have hel1 := hent e hem
    have hnx := cntA_succ (x := x) he
    have b5 := b4 e hem
    clear F2 N2
    obtain ⟨ea, ⟨en, et1⟩, ev, et2⟩ := e
    dsimp only at *
    have htup : IsTup h3 ea #[.str en et1, .str ev et2] := ⟨_, (N3 _ (.tail _ (.tail _ (.tail _ (.tail _ b5))))).1, rfl, _, rfl⟩
    k_steps
    · rename (_ == x) = true => q
      rw [hnx, if_pos q, List.length_append, hJ]; rfl
    · rename (_ == x) = false => q
      rw [hnx, if_neg (by rw [q]; decide), hJ]; rfl
  · intro ys hys D h3 tk3 F3 N3 o3
    clear F2 N2
    rw [List.size_toArray, hlr, List.take_length] at hys
    dsimp only
    k_steps
    refine leaveK_ (news' := (D, LCg.lst ys) :: news) F3 (fun p hp => N3 p ?_) fun F' N' => ret _ _ _ ys _ F' N' hys
    rcases List.mem_cons.mp hp with rfl | hp
    · exact .head _
    · exact .tail _ (.tail _ hp)
end
end
theorem reset_D8 {M : Model} {A : Around} {E : Value → Shared → Prop} {Q : Flow → Shared → Prop} {s : Shared} {env : Env} (h : Q .next s) : wpAny M A (execs [] env) Q E s := by
  w_top off
  walk1
  w_top off
  exact h
section
section
theorem add_header_use2 {w : World} {loose : List Str} {mean : ExcName → Option Value} {mg mb : Str → Option Value} {s : Shared} {dp un : Nat} {env : Env} {outer : List Env} {gd : Option (List Code)} {E Q : Value → Shared → Prop} {h₀ base : Heap} {A₀ : Around} {L : Addr} {m : Str → Option Value}
    {bk d l : Addr} {t0 : Tok} {n1 n2 : Nat} {hs : Int} {vs : List Value} {nw : List (Addr × Obj)} {x y : Str} {tx ty : Tok} :
    Below A₀ base outer h₀ → env.frame = some L → env.scope.kind = .function →
    Fr h₀ L s.heap m → News h₀ L s.heap ((bk, instObj 182 d) :: (d, dictOf [⟨hs, .str "_headers" t0, .ref l⟩] n1) :: (l, W.listOf vs.toArray n2) :: nw) → (hd.heap_39 w.params).In h₀ → Top hd.view_39 loose mean mg mb h₀ → dp + 30 < recursionLimit → un + 300 < cLine →
    (bk : Nat) ≠ l → (d : Nat) ≠ l → (∀ p ∈ nw, p.1 ≠ l) → vs.length ≤ 1000 →
    x.length ≤ 20 → AbcU x → y.length ≤ 20 → AbcU y →
    (∀ h' tk tp t1 t2 n3, bk < tp ∧ d < tp ∧ l < tp → (∀ p ∈ nw, p.1 < tp) → Fr h₀ L h' m → News h₀ L h' ((bk, instObj 182 d) :: (d, dictOf [⟨hs, .str "_headers" t0, .ref l⟩] n1) :: (l, W.listOf (vs ++ [Value.ref tp]).toArray n3) :: (tp, entObj2 (tp, (x, t1), (y, t2))) :: nw) → Q .none { s with heap := h', toks := tk }) →
    wpAny (model PySem.Challenge.rw_pm0056_02.row.prog w) (amb dp un (env :: outer) gd) (call (.ref 179) [.ref bk, .str x tx, .str y ty]) Q E s := by
  k_fill
  intro B hf hke F N X T hdp hun nb nd ne hes hx hax hy hay ret
  have c1 := hax.chars
  have c2 := hay.chars
  k_dflt (refine wpAny_call ?_)
  k_dflt (refine' kp_more ?k1 ?k2 ?k3 ?k4 ?k5 ?kA ?kF ?kK ?k6 ?k7 ?k8 ?kX ?kM ?kN ?kD ?kR ?kP ?kT ?kB ?_ ?c2 ?c3 ?c4 ?c5; (case kA => exact rfl); (case kF => exact hf); (case kK => exact hke); (case k1 => exact B); (case k2 => exact F); (case k3 => exact X); (case k4 => exact N); (case k5 => exact T); (case k6 => k_is); (case k7 => k_is); (case k8 => (dsimp only [amb]; omega)); (case kX => kp_lit); (case kM => exact rfl); (case kN => exact rfl); (case kD => kp_flats); (case kR => exact rfl); (case kP => exact rfl); (case kT => exact fun _ => rfl); (case kB => exact fun _ => locs rfl); (case c5 => decide); (case c2 => exact rfl); (case c3 => exact rfl); (case c4 => exact rfl))
  intro D' o' g' L' h' tk' l1 lo' hs' fs' FG' F' N' B' X' T'
  k_lt l1
  clear FG' F N X T B
  k_steps
  unfold Hold
  rename Fr g' _ _ _ => F1
  rename News g' _ _ _ => N1
  rename_i lp z1 z2 z3 z4 z5 z6 DV hV lV
  have Tc : StrTab PySem.Challenge.rw_pm0056_02.row.prog w hV D' (kdpD []) := TabAt.ofNews N1 (.tail _ (.tail _ (.head _))) lo' hs' fs'
  refine it_items (c := []) (σ := Unit) (keep := [(D', o')]) (fun _ => _) (fun _ => []) (fun i _ => True) ["k", "v"] rfl ⟨_, (N1 _ (.head _)).1, rfl, rfl⟩ Tc (src_news N1 (.tail _ (.tail _ (.head _)))) F1 N1 (fun _ => ⟨.tail _ (.tail _ (.head _)), trivial⟩) ⟨(), rfl, trivial, trivial⟩ ?_ ?_
  · intro J j c' k x tk t' Tp u' h₃ tk₃ oJ hx
    simp at hx
  · rintro ⟨⟩ u' h₃ tk₃ - F2 N2
    clear F1 N1
    have hsz : vs.toArray.size ≤ sizeLine := by rw [sizeLine_eq, List.size_toArray]; omega
    k_steps
    rename Fr g' _ _ _ => FZ
    rename News g' _ _ _ => NZ
    have hj : Txt.join "; " [y] = y := rfl
    rw [hj] at NZ
    rename_i q1 q2 tok q3 tp q4 ltp q5
    have e1 : (vs ++ [Value.ref tp]).toArray = vs.toArray.push (.ref tp) := by simp
    refine leaveK_ FZ (news' := (bk, instObj 182 d) :: (d, dictOf [⟨hs, .str "_headers" t0, .ref l⟩] n1) :: (l, W.listOf (vs ++ [Value.ref tp]).toArray (n2 + 1)) :: (tp, entObj2 (tp, (x, tx), (y, tok))) :: nw) ?_ fun F' N' => ret _ _ _ _ _ _ ⟨ltp.2.2.2.1, ltp.2.2.2.2.1, ltp.2.2.2.2.2.1⟩ (allLt_mem ltp.2.2.2.2.2.2) F' N'
    rw [e1]
    intro p hp
    rcases List.mem_cons.mp hp with rfl | hp
    · exact NZ _ (.tail _ (.tail _ (.tail _ (.tail _ (.head _)))))
    rcases List.mem_cons.mp hp with rfl | hp
    · exact NZ _ (.tail _ (.tail _ (.tail _ (.tail _ (.tail _ (.head _))))))
    rcases List.mem_cons.mp hp with rfl | hp
    · exact NZ _ (.tail _ (.tail _ (.tail _ (.tail _ (.tail _ (.tail _ (.head _)))))))
    rcases List.mem_cons.mp hp with rfl | hp
    · exact NZ _ (.head _)
    · exact NZ _ (.tail _ (.tail _ (.tail _ (.tail _ (.tail _ (.tail _ (.tail _ hp)))))))
end
end
theorem reset_D9 {M : Model} {A : Around} {E : Value → Shared → Prop} {Q : Flow → Shared → Prop} {s : Shared} {env : Env} (h : Q .next s) : wpAny M A (execs [] env) Q E s := by
  w_top off
  walk1
  w_top off
  exact h
section
theorem strsAre_get {vs : List Value} {ws : List Str} (h : StrsAre vs ws) : ∀ {i : Nat} {v : Value}, vs[i]? = some v → ∃ x t, v = Value.str x t ∧ ws[i]? = some x := by
  induction h with
  | nil => intro i v hv; simp at hv
  | cons x t h ih =>
    intro i v hv
    cases i with
    | zero => simp at hv; exact ⟨_, _, hv.symm, rfl⟩
    | succ i => simp at hv; simpa using ih hv
theorem pair_use {w : World} {loose : List Str} {mean : ExcName → Option Value} {mg mb : Str → Option Value} {s : Shared} {dp un : Nat} {fr : List Env} {gd : Option (List Code)} {f g : Str} {tf tg : Tok} {E Q : Value → Shared → Prop} {h₀ : Heap} {L : Addr} {m : Str → Option Value} {news : List (Addr × Obj)}
    (F : Fr h₀ L s.heap m) (N : News h₀ L s.heap news) (X : (hd.heap_39 w.params).In h₀) (T : Top hd.view_39 loose mean mg mb h₀) (hdp : dp + 40 < recursionLimit) (hun : un + 400 < cLine) (h1 : f.length = 4) (h2 : g.length = 4) (h3 : AbcU f) (h4 : AbcU g)
    (ret : ∀ P t h' tk, Fr h₀ L h' m → News h₀ L h' news → lst P = pairL f g → Q (.str P t) { s with heap := h', toks := tk }) :
    wpAny (model PySem.Challenge.rw_pm0056_02.row.prog w) (amb dp un fr gd) (call (.ref 250) [.str f tf, .str g tg]) Q E s :=
  pair_spec (X.keeps F.keep) (T.keeps F.keep) hdp hun h1 h2 h3 h4 fun P t h' tk st e => ret P t h' tk (F.keeps st) (N.grown st) e
def pairS (f g : Str) : Str := ⟨(pairL f g).toArray⟩
theorem pairS_len (f g : Str) : (pairS f g).length ≤ 9 := by
  have hul : (ups f g 4).length ≤ 4 := by have := List.length_filter_le (fun k => isUp (chr f k) || isUp (chr g k)) (List.range 4); rwa [List.length_range] at this
  rw [← lst_len]
  show (pairL f g).length ≤ 9
  unfold pairL
  simp only [List.length_append, List.length_map, List.length_cons, List.length_nil]
  omega
/-- the callers that one spelling makes with all of the other sort -/
def srcC (f : Str) (gs : List Str) : List (Str × Int) := gs.foldl (fun c g => kdpPut c (pairS f g) (kdpLook c (pairS f g) 0 + 1)) []
theorem srcC_succ {f : Str} {gs : List Str} {i : Nat} {g : Str} (h : gs[i]? = some g) : srcC f (gs.take (i + 1)) = kdpPut (srcC f (gs.take i)) (pairS f g) (kdpLook (srcC f (gs.take i)) (pairS f g) 0 + 1) := foldl_take h
theorem srcC_len (f : Str) (gs : List Str) : (srcC f gs).length ≤ gs.length := by
  suffices h : ∀ a : List (Str × Int), (gs.foldl (fun c g => kdpPut c (pairS f g) (kdpLook c (pairS f g) 0 + 1)) a).length ≤ a.length + gs.length by simpa [srcC] using h []
  induction gs with
  | nil => intro a; simp
  | cons p r ih =>
    intro a
    rw [List.foldl_cons, List.length_cons]
    have h1 := ih (kdpPut a (pairS f p) (kdpLook a (pairS f p) 0 + 1))
    have h2 := kdpPut_len a (pairS f p) (kdpLook a (pairS f p) 0 + 1)
    omega
def tallyStep (gs : List Str) (q : SumSt) (f : Str) : SumSt := ⟨1 + q.cc, (gs.length : Int) + q.nc, addC (copyC q.cal) (srcC f gs)⟩
def tallyC (fs gs : List Str) : SumSt := fs.foldl (tallyStep gs) ⟨0, 0, []⟩
theorem tallyC_succ {fs gs : List Str} {i : Nat} {f : Str} (h : fs[i]? = some f) : tallyC (fs.take (i + 1)) gs = tallyStep gs (tallyC (fs.take i) gs) f := foldl_take h
section
local macro_rules | `(tactic| walk_at "call ref") => `(tactic| (k_here; (try dsimp only [List.cons_append, List.nil_append]); (with_reducible show wpAny _ _ (call (Value.ref 200) [Value.ref _, Value.ref _]) _ _ _); (refine hold_in ?_)))
local macro_rules | `(tactic| walk_at "call ref") => `(tactic| (k_here; (try dsimp only [List.cons_append, List.nil_append]); (with_reducible show wpAny _ _ (call (Value.ref 250) [Value.str _ _, Value.str _ _]) _ _ _); k_dflt (refine' pair_use ?k1 ?k2 ?k3 ?k4 ?k5 ?k6 ?k7 ?k8 ?k9 ?k10 ?_; (case k1 => k_asm); (case k2 => k_asm); (case k3 => assumption); (case k4 => assumption); (case k5 => omega); (case k6 => omega); (case k7 => assumption); (case k8 => assumption); (case k9 => assumption); (case k10 => assumption)); intro P' t' h' tk' F' N' eP'; (try k_sweep)))
theorem tally_spec {w : World} {loose : List Str} {mean : ExcName → Option Value} {mg mb : Str → Option Value} {s : Shared} {dp un : Nat} {fr : List Env} {gd : Option (List Code)} {l1 l2 : Addr} {vs1 vs2 : List Value} {fs gs : List Str} {E Q : Value → Shared → Prop} :
    (hd.heap_39 w.params).In s.heap → Top hd.view_39 loose mean mg mb s.heap → dp + 50 < recursionLimit → un + 500 < cLine →
    s.heap.IsList l1 vs1.toArray → s.heap.IsList l2 vs2.toArray → StrsAre vs1 fs → StrsAre vs2 gs → fs.length ≤ 20 → gs.length ≤ 20 → (∀ x ∈ fs, x.length = 4 ∧ AbcU x) → (∀ x ∈ gs, x.length = 4 ∧ AbcU x) →
    (∀ Tp a o kvs h' tk v1 v2 v3 v4, s.heap.StaysIn h' → s.heap.get? Tp = none → h'.get? Tp = some (tup [.int (tallyC fs gs).cc v1, .int (tallyC fs gs).nc v2, .int 0 v3, .int 0 v4, .ref a]) → s.heap.get? a = none → h'.get? a = some o → (Tp : Nat) ≠ a → (a == sysModules) = false → o.IsDictOf (PySem.strKind PySem.Challenge.rw_pm0056_02.row.prog w) kvs → FlatPairs PyData.str kvs (kdpD (tallyC fs gs).cal) → Q (.ref Tp) { s with heap := h', toks := tk }) →
    wpAny (model PySem.Challenge.rw_pm0056_02.row.prog w) (amb dp un fr gd) (call (.ref 257) [.ref l1, .ref l2]) Q E s := by
  k_fill
  intro X T hdp hun hl1 hl2 hs1 hs2 hz1 hz2 hf hg ret
  k_dflt (refine' call_me (binds := [("ones", .ref l1), ("twos", .ref l2)]) X T ?ho ?hcd ?hroom ?hb ?hl ?hc ?hco ?hgen ?hk ?_; (case ho => k_is); (case hcd => k_is); (case hroom => exact Nat.lt_of_le_of_lt (Nat.le_add_right _ _) hdp); (case hb => exact BindsTo.of_eq rfl); (case hl => exact locs rfl); (case hc => decide); (case hco => exact rfl); (case hgen => exact rfl); (case hk => exact rfl))
  intro L h₁ F N
  have hlen1 := hs1.length
  have hlen2 := hs2.length
  k_steps
  unfold Hold
  rename Fr _ _ _ _ => F1
  rename News _ _ _ _ => N1
  rename Obj.IsDictOf (PySem.strKind _ _) _ _ => hs0
  rename FlatPairs PyData.str _ _ => fs0
  rename (_ == sysModules) = false => lo0
  refine it_list (vs := vs1) (σ := SS) (keep := []) (fun q => [(q.tp, tup [.int q.cc q.v1, .int q.nc q.v2, .int q.x3 q.v3, .int q.x4 q.v4, .ref q.a]), (q.a, q.o)]) (fun q => [("entry", .ref q.tp)])
    (fun i q => DS PySem.Challenge.rw_pm0056_02.row.prog w q.o q.c ∧ (q.cc = (tallyC (fs.take i) gs).cc ∧ q.nc = (tallyC (fs.take i) gs).nc ∧ q.c = (tallyC (fs.take i) gs).cal) ∧ (q.x3 = 0 ∧ q.x4 = 0) ∧ (q.a == sysModules) = false ∧ q.c.length ≤ i * 20 ∧ (q.tp : Nat) ≠ q.a) ["entry", "first", "source", "second", "key"] rfl (hl1.at fun o e => F1.keep l1 o e) (src_base F1 hl1.choose_spec.1) F1 N1 (fun _ => trivial) ⟨⟨_, _, _, _, _, _, _, 0, 0, 0, 0, []⟩, rfl, ⟨⟨_, hs0, fs0⟩, ⟨rfl, rfl, rfl⟩, ⟨rfl, rfl⟩, lo0, Nat.zero_le _, Nat.ne_of_gt (by assumption)⟩, by with_unfolding_all exact ⟨rfl, trivial⟩⟩ ?_ ?_
  · rintro I i ⟨tp, a, o, v1, v2, v3, v4, cc, nc, x3, x4, c⟩ v u h₂ tk₂ oI hv ⟨⟨kvs, hd2, hf2⟩, ⟨hc1, hc2, hc3⟩, ⟨hx3, hx4⟩, hlo, hcl, hta⟩ hlt hne F2 N2
    obtain ⟨f, tf, rfl, hfi⟩ := strsAre_get hs1 hv
    obtain ⟨hf4, hfa⟩ := hf f (List.mem_of_getElem? hfi)
    have hi : i < fs.length := (List.getElem?_eq_some_iff.mp hfi).1
    have hne0 := hne.1
    have hne1 := hne.2.1
    dsimp only at *
    clear F1 N1
    have hcl2 : c.length ≤ 400 := Nat.le_trans hcl (by omega)
    k_steps
    unfold Hold
    rename Fr _ _ _ _ => F3
    rename News _ _ _ _ => N3
    rename Obj.IsDictOf (PySem.strKind _ _) _ [] => hsB
    rename FlatPairs PyData.str [] _ => fsB
    rename (_ == sysModules) = false => loB
    rename_i z1 dB z2 oB hiB fiB lB z3
    clear hiB fiB
    obtain ⟨lB1, lB2, lB3⟩ := lB
    refine it_list (vs := vs2) (σ := Obj × List (Str × Int)) (keep := []) (fun q => [(dB, q.1), (I, oI), (tp, tup [.int cc v1, .int nc v2, .int x3 v3, .int x4 v4, .ref a]), (a, o)]) (fun _ => [])
      (fun j q => DS PySem.Challenge.rw_pm0056_02.row.prog w q.1 q.2 ∧ q.2 = srcC f (gs.take j)) ["second", "key"] rfl (hl2.at fun o e => F3.keep l2 o e) (src_base F3 hl2.choose_spec.1) F3 N3 (fun _ => trivial) ⟨(oB, []), rfl, ⟨⟨[], hsB, fsB⟩, rfl⟩, trivial⟩ ?_ ?_
    · rintro J j ⟨oe, e⟩ v u' h₃ tk₃ oJ hv ⟨⟨kvs', hd3, hf3⟩, he⟩ hltJ hneJ F4 N4
      obtain ⟨g, tg, rfl, hgj⟩ := strsAre_get hs2 hv
      obtain ⟨hg4, hga⟩ := hg g (List.mem_of_getElem? hgj)
      have hj : j < gs.length := (List.getElem?_eq_some_iff.mp hgj).1
      have hnJ := hneJ.1
      have hnJ2 := hneJ.2.1
      have hnJ3 := hneJ.2.2.1
      have hnJ4 := hneJ.2.2.2.1
      have hlJ := hltJ.1
      have hlJ2 := hltJ.2.1
      have hlJ3 := hltJ.2.2.1
      have hlJ4 := hltJ.2.2.2.1
      dsimp only at *
      have hel : e.length ≤ 1000 := by have := srcC_len f (gs.take j); rw [List.length_take] at this; rw [he]; omega
      have hnext := srcC_succ (f := f) hgj
      clear F3 N3
      k_steps
      rename Obj.IsDictOf _ _ _ => hdn
      rename FlatPairs _ _ _ => hfn
      rename lst _ = pairL f g => eP
      have eP2 := lst_inj (y := pairS f g) eP
      refine turn_end (_, srcC f (gs.take (j + 1))) (by assumption) (by assumption) (.head _) ⟨.tail _ (.head _), .tail _ (.tail _ (.head _)), .tail _ (.tail _ (.tail _ (.head _))), .tail _ (.tail _ (.tail _ (.tail _ (.head _)))), trivial⟩ ⟨by exact hnJ, by exact hnJ2, by exact hnJ3, by exact hnJ4, trivial⟩ ⟨⟨_, hdn, by rw [hnext, ← he, ← eP2]; exact hfn⟩, rfl⟩ trivial ?_
      intro z hz
      obtain ⟨h1, h2, -⟩ := id hz
      simp only [h1, h2, if_false]
      rw [fmap_off ?hs hz]
      case hs => rfl
    · rintro ⟨oe, e⟩ u' h₃ tk₃ ⟨⟨kvs', hd3, hf3⟩, he⟩ F4 N4
      dsimp only at *
      rw [hlen2, List.take_length] at he
      clear F3 N3
      have hel : e.length ≤ 1000 := by have := srcC_len f gs; rw [he]; omega
      k_steps
      unfold Hold
      rename Fr _ _ _ _ => F5
      rename News _ _ _ _ => N5
      k_dflt (refine' add_func_stats_use (c1 := c) (c2 := e) F5 N5 X T ?q1 ?q2 (.tail _ (.tail _ (.tail _ (.head _)))) (.head _) ?T1 ?T2 ?q3 ?_)
      (case q1 => omega)
      (case q2 => omega)
      (case T1 => exact TabAt.ofNews N5 (.tail _ (.tail _ (.tail _ (.tail _ (.head _))))) hlo hd2 hf2)
      (case T2 => exact TabAt.ofNews N5 (.tail _ (.head _)) loB hd3 hf3)
      (case q3 => omega)
      intro Tp2 a2 o2 kvs2 h5 tk5 w1 w2 w3 w4 F6 N6 A1 A2 hne2 lo2 hdz hfz
      have e1 := A1.2.2.1
      have e2 := A2.2.2.1
      clear A1 A2 F5 N5
      k_steps
      have hT := tallyC_succ (gs := gs) hfi
      rename News _ _ _ _ => N7
      (try simp only [List.size_toArray] at N7)
      (try rw [hlen2] at N7)
      refine turn_end ⟨Tp2, a2, o2, w1, w2, w3, w4, 1 + cc, (gs.length : Int) + nc, 0 + x3, 0 + x4, addC (copyC c) e⟩ (by assumption) N7 (.tail _ (.tail _ (.tail _ (.tail _ (.head _))))) ⟨.head _, .tail _ (.head _), trivial⟩ ⟨by exact e1.symm, by exact e2.symm, trivial⟩
        ⟨⟨_, hdz, hfz⟩, ⟨by dsimp only; rw [hT, hc1]; rfl, by dsimp only; rw [hT, hc2]; rfl, by dsimp only; rw [hT, hc3, he]; rfl⟩, ⟨by dsimp only; rw [hx3]; rfl, by dsimp only; rw [hx4]; rfl⟩, lo2, ?len, hne2⟩ (by with_unfolding_all exact ⟨rfl, trivial⟩) ?_
      case len =>
        have h1 := addC_len (copyC c) e
        have h2 := copy_len c
        have h3 := srcC_len f gs
        rw [← he] at h3
        dsimp only
        omega
      intro z hz
      obtain ⟨h1, h2, h3, h4, h5, -⟩ := id hz
      simp only [h1, if_false]
      rw [fmap_off ?hs (show OffL z ["second", "key"] from ⟨h4, h5, trivial⟩)]
      case hs => rfl
      simp only [h2, h3, if_false]
      rw [fmap_off ?hs2 hz]
      case hs2 => rfl
      simp only [h1, if_false]
  · rintro ⟨tp, a, o, v1, v2, v3, v4, cc, nc, x3, x4, c⟩ u h₂ tk₂ ⟨⟨kvs, hd2, hf2⟩, ⟨hc1, hc2, hc3⟩, ⟨hx3, hx4⟩, hlo, hcl, hta⟩ F2 N2
    dsimp only at *
    rw [hlen1, List.take_length] at *
    subst hx3 hx4 hc1 hc2 hc3
    k_steps
    exact ret _ _ _ _ _ _ _ _ _ _ F2.keep (N2 _ (.head _)).2.2 (N2 _ (.head _)).1 (N2 _ (.tail _ (.head _))).2.2 (N2 _ (.tail _ (.head _))).1 hta hlo hd2 hf2
end
end
theorem reset_D10 {M : Model} {A : Around} {E : Value → Shared → Prop} {Q : Flow → Shared → Prop} {s : Shared} {env : Env} (h : Q .next s) : wpAny M A (execs [] env) Q E s := by
  w_top off
  walk1
  w_top off
  exact h
section
section
variable {prog : Program} {w : World} {dp un : Nat} {fr : List Env} {gd : Option (List Code)} {E Q : Value → Shared → Prop} {s : Shared} {h₀ : Heap} {L : Addr} {m : Str → Option Value} {news : List (Addr × Obj)} {K : Frag} {p : Program} {loose : List Str} {mean : ExcName → Option Value} {mg mb : Str → Option Value}
  {name qual : Str} {params : Arguments} {body : List Stmt} {scope : Scope} {dV kV doc pm cdv ct oc : Value} {an od : Option Addr} {osl : Array (Option Value)} {f C : Addr} {args : List Value} {kw : List (Str × Value)}
/-- a fresh object of a class, the defaults read -/
theorem call_new2 {bs : Addr → List (Str × Value)} (F : Fr h₀ L s.heap m) (N : News h₀ L s.heap news) (X : K.In h₀) (T : Top p loose mean mg mb h₀) (hm : makesIn K C = true) (hi : findIn K (.ref C) "__init__" = some (some (.ref f))) (hf : isFn K (.ref f) = true)
    (ho : K.lookup f = some ⟨oc, od, .func (fnOf name qual params body scope dV kV doc pm an cdv ct), osl⟩) (hcd : codeIn K cdv qual = true) (hroom : dp + 1 < recursionLimit)
    (hbind : ∀ x s, K.In s.heap → BindsTo s (fnOf name qual params body scope dV kV doc pm an cdv ct) ⟨.ref x :: args, kw⟩ (bs x)) (hloc : ∀ x, ∀ y ∈ bs x, scope.names.lookup y.1 = some .local)
    (hcell : ∀ x ∈ scope.names, x.2 ≠ .cell) (hco : scope.isCoroutine = false) (hgen : scope.isGenerator = false) (hk : scope.kind = .function)
    (h : ∀ x dx h₂ g L' h₁, (∀ p ∈ news, p.1 < dx) → dx < x → Fr h₀ L h₂ m → Fr g L' h₁ (fun y => (bs x).reverse.lookup y) → News g L' h₁ ((x, instObj C dx) :: (dx, dictOf [] 0) :: news) → K.In g → Top p loose mean mg mb g → h₀.StaysIn g →
      wpAny (model prog w) (amb (dp + 1 + 1) (un + 1 + 3) (envOf qual scope L' f cdv :: fr) gd) (execs body (envOf qual scope L' f cdv))
        (fun fl s' => LeaveK h₀ L m g (InitBack x (RQ E Q)) (match fl with | .ret v => v | _ => .none) s') (fun _ _ => False) { s with heap := h₁, toks := s.toks + (bs x).length }) :
    wpAny (model prog w) (amb dp un fr gd) (call (.ref C) args kw) Q E s := by
  refine call_cls F X N hm hi hf fun x dx h' F' N' l1 l2 => ?_
  refine code_in (s := { s with heap := h' }) (R := InitBack x (RQ E Q)) (A := (amb dp un fr gd).under (.builtin "type.__call__" ⟨.ref C :: args, kw⟩)) F' N' X T ho hcd hroom (hbind x _ (X.keeps F'.keep)) (hloc x) hcell hco hgen hk ?_
  · intro g L' h₁ F₁ N₁ X₁ T₁ st
    exact h x dx h' g L' h₁ l1 l2 F' F₁ N₁ X₁ T₁ st
end
section
local macro_rules | `(tactic| walk_at "exec For Tuple Name cons nil") => `(tactic| (k_here; (rename Fr _ _ _ _ => lF'); (with_unfolding_all refine' For_turns lF' ?_); k_whole))
/-- a fresh Headers over an empty list -/
theorem new_use {w : World} {loose : List Str} {mean : ExcName → Option Value} {mg mb : Str → Option Value} {s : Shared} {dp un : Nat} {fr : List Env} {gd : Option (List Code)} {E Q : Value → Shared → Prop} {h₀ : Heap} {L : Addr} {m : Str → Option Value} {news : List (Addr × Obj)} {l0 : Addr} {n0 : Nat} :
    Fr h₀ L s.heap m → News h₀ L s.heap news → (hd.heap_39 w.params).In h₀ → Top hd.view_39 loose mean mg mb h₀ → dp + 30 < recursionLimit → un + 300 < cLine → (l0, W.listOf (List.toArray ([] : List Value)) n0) ∈ news →
    (∀ h' tk x d hs t0 n1, (∀ p ∈ news, p.1 < d) → d < x → Fr h₀ L h' m → News h₀ L h' ((x, instObj 182 d) :: (d, dictOf [⟨hs, .str "_headers" t0, .ref l0⟩] n1) :: news) → Q (.ref x) { s with heap := h', toks := tk }) →
    wpAny (model PySem.Challenge.rw_pm0056_02.row.prog w) (amb dp un fr gd) (call (.ref 182) [.ref l0]) Q E s := by
  k_fill
  intro F N X T hdp hun hl ret
  k_dflt (refine' call_new2 (f := 76) (bs := fun x => [("self", .ref x), ("headers", .ref l0)]) F N X T ?hm ?hi ?hf ?ho ?hcd ?hroom ?hb ?hl ?hc ?hco ?hgen ?hk ?_; (case hm => k_is); (case hi => k_is); (case hf => k_is); (case ho => k_is); (case hcd => k_is); (case hroom => omega); (case hb => intro _ _ hX; exact binds_K hX rfl (by k_is) rfl rfl rfl); (case hl => exact fun _ => locs rfl); (case hc => decide); (case hco => exact rfl); (case hgen => exact rfl); (case hk => exact rfl))
  intro x dx h₂ g L' h₁ l1 l2 F₂ F₁ N₁ X₁ T₁ st
  clear X T F₂
  have nd : ∀ p ∈ news, p.1 ≠ dx := fun p hp => Nat.ne_of_lt (l1 p hp)
  have nx : ∀ p ∈ news, p.1 ≠ x := fun p hp => Nat.ne_of_lt (Nat.lt_trans (l1 p hp) l2)
  have nxd : (x : Nat) ≠ dx := Nat.ne_of_gt l2
  k_steps
  unfold Hold
  rename Fr g _ _ _ => F1
  rename News g _ _ _ => N1
  refine it_list (vs := []) (σ := Unit) (keep := [_]) (fun _ => _) (fun _ => []) (fun i _ => True) ["k", "v"] rfl (list_led N1 (.tail _ (.tail _ hl))) (src_news N1 (.tail _ (.tail _ hl))) F1 N1 (fun _ => ⟨.tail _ (.tail _ hl), trivial⟩) ⟨(), rfl, trivial, trivial⟩ ?_ ?_
  · intro I i c v u h₂ tk₂ oI hv
    simp at hv
  · rintro ⟨⟩ u h₂ tk₂ - F2 N2
    clear F1 N1
    k_steps
    exact leaveK_ F2 N2 fun F' N' => ⟨rfl, ret _ _ _ _ _ _ _ l1 l2 F' N'⟩
end
end
theorem reset_D11 {M : Model} {A : Around} {E : Value → Shared → Prop} {Q : Flow → Shared → Prop} {s : Shared} {env : Env} (h : Q .next s) : wpAny M A (execs [] env) Q E s := by
  w_top off
  walk1
  w_top off
  exact h
section
/-! ## all ways to lay two words into one another -/
abbrev Way := List Nat × List Nat
def wayA (a : List Nat) (i : Nat) (p : Way) : Way := (p.1 ++ [a.getD i 0 - 32], p.2 ++ [a.getD i 0])
def wayB (b : List Nat) (j : Nat) (p : Way) : Way := (p.1 ++ [b.getD j 0], p.2 ++ [b.getD j 0 - 32])
def wayC (a b : List Nat) (i j : Nat) (p : Way) : Way := (p.1 ++ [a.getD i 0 - 32], p.2 ++ [b.getD j 0 - 32])
def join0 (b : List Nat) : Nat → List Way
  | 0 => [([], [])]
  | j + 1 => (join0 b j).map (wayB b j)
def joinS (a b : List Nat) (i : Nat) (prev : Nat → List Way) : Nat → List Way
  | 0 => (prev 0).map (wayA a i)
  | j + 1 => (prev (j + 1)).map (wayA a i) ++ ((joinS a b i prev j).map (wayB b j) ++ if a.getD i 0 = b.getD j 0 then (prev j).map (wayC a b i j) else [])
def joinN (a b : List Nat) : Nat → Nat → List Way
  | 0 => join0 b
  | i + 1 => joinS a b i (joinN a b i)
/-- what the four steps lay into a table -/
def part1 (i j : Nat) : List Way := if i + j = 0 then [([], [])] else []
def part2 (a b : List Nat) (i j : Nat) : List Way := if 0 < i then (joinN a b (i - 1) j).map (wayA a (i - 1)) else []
def part3 (a b : List Nat) (i j : Nat) : List Way := if 0 < j then (joinN a b i (j - 1)).map (wayB b (j - 1)) else []
def part4 (a b : List Nat) (i j : Nat) : List Way := if 0 < i ∧ 0 < j ∧ a.getD (i - 1) 0 = b.getD (j - 1) 0 then (joinN a b (i - 1) (j - 1)).map (wayC a b (i - 1) (j - 1)) else []
theorem joinN_parts (a b : List Nat) (i j : Nat) : joinN a b i j = part1 i j ++ part2 a b i j ++ part3 a b i j ++ part4 a b i j := by
  cases i with
  | zero =>
    cases j with
    | zero => rfl
    | succ j =>
      have h1 : part1 0 (j + 1) = [] := if_neg (Nat.succ_ne_zero _)
      have h2 : part2 a b 0 (j + 1) = [] := if_neg (Nat.lt_irrefl 0)
      have h3 : part3 a b 0 (j + 1) = (joinN a b 0 j).map (wayB b j) := if_pos (Nat.succ_pos _)
      have h4 : part4 a b 0 (j + 1) = [] := if_neg fun h => Nat.lt_irrefl 0 h.1
      rw [h1, h2, h3, h4, List.append_nil]; rfl
  | succ i =>
    cases j with
    | zero =>
      have h1 : part1 (i + 1) 0 = [] := if_neg (Nat.succ_ne_zero _)
      have h2 : part2 a b (i + 1) 0 = (joinN a b i 0).map (wayA a i) := if_pos (Nat.succ_pos _)
      have h3 : part3 a b (i + 1) 0 = [] := if_neg (Nat.lt_irrefl 0)
      have h4 : part4 a b (i + 1) 0 = [] := if_neg fun h => Nat.lt_irrefl 0 h.2.1
      rw [h1, h2, h3, h4, List.append_nil, List.append_nil]; rfl
    | succ j =>
      have h1 : part1 (i + 1) (j + 1) = [] := if_neg (Nat.succ_ne_zero _)
      have h2 : part2 a b (i + 1) (j + 1) = (joinN a b i (j + 1)).map (wayA a i) := if_pos (Nat.succ_pos _)
      have h3 : part3 a b (i + 1) (j + 1) = (joinN a b (i + 1) j).map (wayB b j) := if_pos (Nat.succ_pos _)
      have h4 : part4 a b (i + 1) (j + 1) = if a.getD i 0 = b.getD j 0 then (joinN a b i j).map (wayC a b i j) else [] := by
        show (if 0 < i + 1 ∧ 0 < j + 1 ∧ a.getD i 0 = b.getD j 0 then _ else _) = _
        simp only [Nat.zero_lt_succ, true_and]; rfl
      rw [h1, h2, h3, h4, List.nil_append, List.append_assoc]; rfl
/-- how long, how many, which letters -/
def LetN (c : Nat) : Prop := (97 ≤ c ∧ c ≤ 99) ∨ (65 ≤ c ∧ c ≤ 67)
def WayOk (n : Nat) (p : Way) : Prop := (p.1.length ≤ n ∧ ∀ c ∈ p.1, LetN c) ∧ (p.2.length ≤ n ∧ ∀ c ∈ p.2, LetN c)
theorem way_ok {n : Nat} {p : Way} {x y : Nat} (h : WayOk n p) (hx : LetN x) (hy : LetN y) : WayOk (n + 1) (p.1 ++ [x], p.2 ++ [y]) := by
  obtain ⟨⟨h1, h2⟩, h3, h4⟩ := h
  refine ⟨⟨by simp; omega, fun c hc => ?_⟩, by simp; omega, fun c hc => ?_⟩
  · rcases List.mem_append.mp hc with hc | hc
    · exact h2 c hc
    · rw [List.mem_singleton.mp hc]; exact hx
  · rcases List.mem_append.mp hc with hc | hc
    · exact h4 c hc
    · rw [List.mem_singleton.mp hc]; exact hy
theorem way_mono {n m : Nat} {p : Way} (h : WayOk n p) (hn : n ≤ m) : WayOk m p := ⟨⟨Nat.le_trans h.1.1 hn, h.1.2⟩, Nat.le_trans h.2.1 hn, h.2.2⟩
def Low (a : List Nat) : Prop := ∀ i, i < a.length → a.getD i 0 = 97 ∨ a.getD i 0 = 98 ∨ a.getD i 0 = 99
theorem low_let {c : Nat} (h : c = 97 ∨ c = 98 ∨ c = 99) : LetN c ∧ LetN (c - 32) := by
  rcases h with rfl | rfl | rfl <;> exact ⟨.inl ⟨by decide, by decide⟩, .inr ⟨by decide, by decide⟩⟩
def WaysOk (n : Nat) (l : List Way) : Prop := l.length ≤ 3 ^ n ∧ ∀ p ∈ l, WayOk n p
theorem waysA {a : List Nat} (ha : Low a) {i n : Nat} (hi : i < a.length) {l : List Way} (h : WaysOk n l) : (l.map (wayA a i)).length ≤ 3 ^ n ∧ ∀ p ∈ l.map (wayA a i), WayOk (n + 1) p := by
  refine ⟨by rw [List.length_map]; exact h.1, fun p hp => ?_⟩
  obtain ⟨q, hq, rfl⟩ := List.mem_map.mp hp
  have := low_let (ha i hi)
  exact way_ok (h.2 q hq) this.2 this.1
theorem waysB {b : List Nat} (hb : Low b) {j n : Nat} (hj : j < b.length) {l : List Way} (h : WaysOk n l) : (l.map (wayB b j)).length ≤ 3 ^ n ∧ ∀ p ∈ l.map (wayB b j), WayOk (n + 1) p := by
  refine ⟨by rw [List.length_map]; exact h.1, fun p hp => ?_⟩
  obtain ⟨q, hq, rfl⟩ := List.mem_map.mp hp
  have := low_let (hb j hj)
  exact way_ok (h.2 q hq) this.1 this.2
theorem ways0_ok {b : List Nat} (hb : Low b) : ∀ j, j ≤ b.length → WaysOk j (join0 b j)
  | 0, _ => ⟨Nat.le_refl _, fun p hp => by rw [List.mem_singleton.mp hp]; exact ⟨⟨Nat.zero_le _, fun c hc => nomatch hc⟩, Nat.zero_le _, fun c hc => nomatch hc⟩⟩
  | j + 1, hj => by
    obtain ⟨h1, h2⟩ := waysB hb hj (ways0_ok hb j (Nat.le_of_succ_le hj))
    exact ⟨Nat.le_trans h1 (Nat.pow_le_pow_right (by decide) (Nat.le_succ _)), h2⟩
theorem two_up (i j : Nat) : i + j + 1 ≤ i + 1 + (j + 1) := by omega
theorem waysS_ok {a b : List Nat} (ha : Low a) (hb : Low b) {i : Nat} (hi : i < a.length) {prev : Nat → List Way} (hp : ∀ j, j ≤ b.length → WaysOk (i + j) (prev j)) : ∀ j, j ≤ b.length → WaysOk (i + 1 + j) (joinS a b i prev j)
  | 0, hj => by
    obtain ⟨h1, h2⟩ := waysA ha hi (hp 0 hj)
    exact ⟨Nat.le_trans h1 (Nat.pow_le_pow_right (by decide) (Nat.le_succ _)), h2⟩
  | j + 1, hj => by
    obtain ⟨h1, h2⟩ := waysA ha hi (hp (j + 1) hj)
    obtain ⟨h3, h4⟩ := waysB hb hj (waysS_ok ha hb hi hp j (Nat.le_of_succ_le hj))
    have h5 := hp j (Nat.le_of_succ_le hj)
    have e : i + (j + 1) + 1 = i + 1 + (j + 1) := Nat.add_right_comm i (j + 1) 1
    have e2 : i + (j + 1) = i + 1 + j := by rw [Nat.add_right_comm i 1 j]; rfl
    have h6 : (if a.getD i 0 = b.getD j 0 then (prev j).map (wayC a b i j) else []).length ≤ 3 ^ (i + 1 + j) ∧ ∀ p ∈ (if a.getD i 0 = b.getD j 0 then (prev j).map (wayC a b i j) else []), WayOk (i + 1 + (j + 1)) p := by
      split
      · refine ⟨by rw [List.length_map]; exact Nat.le_trans h5.1 (Nat.pow_le_pow_right (by decide) (Nat.add_le_add_right (Nat.le_succ i) j)), fun p hp => ?_⟩
        obtain ⟨q, hq, rfl⟩ := List.mem_map.mp hp
        exact way_mono (way_ok (h5.2 q hq) (low_let (ha i hi)).2 (low_let (hb j hj)).2) (two_up i j)
      · exact ⟨Nat.zero_le _, fun p hp => nomatch hp⟩
    rw [e2] at h1
    rw [e] at h2
    refine ⟨?_, fun p hp => ?_⟩
    · show ((prev (j + 1)).map (wayA a i) ++ ((joinS a b i prev j).map (wayB b j) ++ _)).length ≤ 3 ^ (i + 1 + j + 1)
      rw [List.length_append, List.length_append, Nat.pow_succ, Nat.mul_comm, show ∀ n : Nat, 3 * n = n + (n + n) from fun n => by omega]
      exact Nat.add_le_add h1 (Nat.add_le_add h3 h6.1)
    · rcases List.mem_append.mp hp with hp | hp
      · exact h2 p hp
      rcases List.mem_append.mp hp with hp | hp
      · exact h4 p hp
      · exact h6.2 p hp
theorem joinN_ok {a b : List Nat} (ha : Low a) (hb : Low b) : ∀ i, i ≤ a.length → ∀ j, j ≤ b.length → WaysOk (i + j) (joinN a b i j)
  | 0, _, j, hj => by rw [Nat.zero_add]; exact ways0_ok hb j hj
  | i + 1, hi, j, hj => waysS_ok ha hb hi (joinN_ok ha hb i (Nat.le_of_succ_le hi)) j hj
/-- what a table's entries say -/
def ways (es : List Ent2) : List Way := es.map fun e => (lst e.2.1.1, lst e.2.2.1)
theorem ways_len (es : List Ent2) : (ways es).length = es.length := List.length_map ..
theorem ways_append (es fs : List Ent2) : ways (es ++ fs) = ways es ++ ways fs := List.map_append ..
def CellIs (nw : List (Addr × Obj)) (v : Value) (c : List Way) : Prop := ∃ bk d l t0 n1 n2 hs es, v = .ref bk ∧ Book2 bk d l t0 n1 n2 hs es nw ∧ ways es = c
def RowIs (nw : List (Addr × Obj)) (v : Value) (f : Nat → List Way) (n : Nat) : Prop := ∃ a vs k, v = .ref a ∧ (a, W.listOf (List.toArray vs) k) ∈ nw ∧ vs.length = n ∧ ∀ j u, vs[j]? = some u → CellIs nw u (f j)
theorem Book2.mono {bk d l : Addr} {t0 : Tok} {n1 n2 : Nat} {hs : Int} {es : List Ent2} {nw nw' : List (Addr × Obj)} (h : Book2 bk d l t0 n1 n2 hs es nw) (hm : ∀ p ∈ nw, p ∈ nw') : Book2 bk d l t0 n1 n2 hs es nw' :=
  ⟨hm _ h.1, hm _ h.2, hm _ h.3, fun e he => hm _ (h.4 e he)⟩
theorem CellIs.mono {nw nw' : List (Addr × Obj)} {v : Value} {c : List Way} (h : CellIs nw v c) (hm : ∀ p ∈ nw, p ∈ nw') : CellIs nw' v c := by
  obtain ⟨bk, d, l, t0, n1, n2, hs, es, h1, h2, h3⟩ := h
  exact ⟨bk, d, l, t0, n1, n2, hs, es, h1, h2.mono hm, h3⟩
theorem RowIs.mono {nw nw' : List (Addr × Obj)} {v : Value} {f : Nat → List Way} {n : Nat} (h : RowIs nw v f n) (hm : ∀ p ∈ nw, p ∈ nw') : RowIs nw' v f n := by
  obtain ⟨a, vs, k, h1, h2, h3, h4⟩ := h
  exact ⟨a, vs, k, h1, hm _ h2, h3, fun j u hu => (h4 j u hu).mono hm⟩
theorem fmap_two {nm : List Str} {u u' m : Str → Option Value} : fmap nm u' (fmap nm u m []) [] = fmap nm u' m [] := by
  funext z
  show (if nm.contains z = true then u' z else if nm.contains z = true then u z else m z) = if nm.contains z = true then u' z else m z
  split <;> rfl
theorem fmap_same {nm : List Str} {m : Str → Option Value} : fmap nm m m [] = m := by
  funext z
  show (if nm.contains z = true then m z else m z) = m z
  split <;> rfl
theorem low_of {x : Str} (h : Abc x) : Low (lst x) := fun i hi => h _ (by rw [List.getD_eq_getElem?_getD, List.getElem?_eq_getElem hi]; exact List.getElem_mem hi)
theorem joinN_small {a b : Str} (ha : Abc a) (hb : Abc b) {i j : Nat} (hi : i ≤ a.length) (hj : j ≤ b.length) (hs : i + j ≤ 5) : (joinN (lst a) (lst b) i j).length ≤ 243 ∧ ∀ p ∈ joinN (lst a) (lst b) i j, WayOk 6 p := by
  obtain ⟨q1, q2⟩ := joinN_ok (low_of ha) (low_of hb) i (by rw [lst_len]; exact hi) j (by rw [lst_len]; exact hj)
  refine ⟨Nat.le_trans q1 (Nat.pow_le_pow_right (n := 3) (j := 5) (by decide) hs), fun p hp => way_mono (q2 p hp) (by omega)⟩
theorem suf_low {x y : Str} {i : Nat} (h0 : 0 < i) (h : i ≤ y.length) : lst (x ++ Txt.item y ((i : Int) - 1)) = lst x ++ [(lst y).getD (i - 1) 0] := by
  rw [lst_append, show ((i : Int) - 1) = ((i - 1 : Nat) : Int) by omega, item_chr (by omega)]; rfl
theorem suf_up {x y : Str} {i : Nat} (hy : Abc y) (h0 : 0 < i) (h : i ≤ y.length) : lst (x ++ Txt.item (Txt.upper y) ((i : Int) - 1)) = lst x ++ [(lst y).getD (i - 1) 0 - 32] := by
  have hu : (Txt.upper y).length = y.length := up_len hy
  rw [suf_low h0 (by omega), up_lst hy]
  congr 2
  rw [List.getD_eq_getElem?_getD, List.getD_eq_getElem?_getD, List.getElem?_map]
  have : i - 1 < (lst y).length := by rw [lst_len]; omega
  rw [List.getElem?_eq_getElem this]; rfl
theorem add_ok {x y : Str} {p : Way} (h : WayOk 7 p) (hx : lst x = p.1) (hy : lst y = p.2) : x.length ≤ 20 ∧ AbcU x ∧ y.length ≤ 20 ∧ AbcU y := by
  obtain ⟨⟨h1, h2⟩, h3, h4⟩ := h
  rw [← hx] at h1 h2
  rw [← hy] at h3 h4
  rw [lst_len] at h1 h3
  exact ⟨by omega, h2, by omega, h4⟩
theorem low_ok {x : Str} (h : Abc x) {i : Nat} (h0 : 0 < i) (hi : i ≤ x.length) : LetN ((lst x).getD (i - 1) 0) ∧ LetN ((lst x).getD (i - 1) 0 - 32) := low_let (low_of h (i - 1) (by rw [lst_len]; omega))
theorem rot2 {α : Type} {a b c e f : α} {r : List α} {p : α} (h : p ∈ a :: b :: c :: e :: f :: r) : p ∈ e :: f :: a :: b :: c :: r := by
  simp only [List.mem_cons] at h ⊢
  rcases h with h | h | h | h | h | h <;> simp [h]
theorem rot3 {α : Type} {a b c e f g : α} {new nw : List α} {p : α} (h : p ∈ e :: f :: a :: b :: ((c :: new) ++ nw)) : p ∈ f :: a :: b :: c :: g :: e :: (new ++ nw) := by
  simp only [List.cons_append, List.mem_cons] at h ⊢
  rcases h with h | h | h | h | h | h <;> simp [h]
theorem ways_at {es : List Ent2} {c : List Way} (h : ways es = c) {k : Nat} {e : Ent2} (he : es[k]? = some e) : c[k]? = some (lst e.2.1.1, lst e.2.2.1) := by
  rw [← h]; unfold ways; rw [List.getElem?_map, he]; rfl
theorem entRefs2_append (es fs : List Ent2) : entRefs2 (es ++ fs) = entRefs2 es ++ entRefs2 fs := List.map_append ..
theorem entRefs2_at {es : List Ent2} {k : Nat} {v : Value} (h : (entRefs2 es)[k]? = some v) : ∃ e, es[k]? = some e ∧ v = .ref e.1 := by
  unfold entRefs2 at h
  rw [List.getElem?_map] at h
  cases q : es[k]? with
  | none => rw [q] at h; cases h
  | some e => rw [q] at h; exact ⟨e, rfl, (Option.some.inj h).symm⟩
theorem part1_len (i j : Nat) : (part1 i j).length ≤ 1 := by unfold part1; split <;> simp
theorem part_len {a b : Str} (ha : Abc a) (hb : Abc b) (h1 : a.length ≤ 3) (h2 : b.length ≤ 3) {i j : Nat} (hi : i ≤ a.length) (hj : j ≤ b.length) : (part1 i j ++ part2 (lst a) (lst b) i j).length ≤ 244 ∧ (part1 i j ++ part2 (lst a) (lst b) i j ++ part3 (lst a) (lst b) i j).length ≤ 487 := by
  have q1 := part1_len i j
  have q2 : (part2 (lst a) (lst b) i j).length ≤ 243 := by
    unfold part2
    split
    · rw [List.length_map]
      exact (joinN_small ha hb (by omega) hj (by omega)).1
    · simp
  have q3 : (part3 (lst a) (lst b) i j).length ≤ 243 := by
    unfold part3
    split
    · rw [List.length_map]
      exact (joinN_small ha hb hi (by omega) (by omega)).1
    · simp
  refine ⟨?_, ?_⟩
  · rw [List.length_append]; omega
  · rw [List.length_append, List.length_append]; omega
theorem item_low {y : Str} {i : Nat} (h0 : 0 < i) (h : i ≤ y.length) : lst (Txt.item y ((i : Int) - 1)) = [(lst y).getD (i - 1) 0] := by
  rw [show ((i : Int) - 1) = ((i - 1 : Nat) : Int) by omega, item_chr (by omega)]; rfl
theorem item_eq {x y : Str} {i j : Nat} (h0 : 0 < i) (h1 : i ≤ x.length) (h2 : 0 < j) (h3 : j ≤ y.length) : (Txt.item x ((i : Int) - 1) == Txt.item y ((j : Int) - 1)) = decide ((lst x).getD (i - 1) 0 = (lst y).getD (j - 1) 0) := by
  rw [Bool.eq_iff_iff, beq_iff_eq, decide_eq_true_eq]
  constructor
  · intro h
    have := congrArg lst h
    rw [item_low h0 h1, item_low h2 h3] at this
    exact (List.cons.inj this).1
  · intro h
    refine lst_inj ?_
    rw [item_low h0 h1, item_low h2 h3, h]
theorem snoc_at {α : Type} {xs : List α} {y v : α} {k : Nat} (h : (xs ++ [y])[k]? = some v) : xs[k]? = some v ∨ (k = xs.length ∧ v = y) := by
  by_cases hk : k < xs.length
  · rw [List.getElem?_append_left hk] at h; exact .inl h
  · rw [List.getElem?_append_right (by omega)] at h
    by_cases he : k = xs.length
    · rw [he, Nat.sub_self] at h; exact .inr ⟨he, (Option.some.inj h).symm⟩
    · rw [List.getElem?_eq_none (by simp; omega)] at h; cases h
theorem rot4 {α : Type} {a b c j r i o : α} {new nw : List α} {p : α} (h : p ∈ r :: j :: i :: o :: a :: b :: c :: (new ++ nw)) : p ∈ a :: b :: c :: (new ++ j :: r :: i :: o :: nw) := by
  simp only [List.mem_cons, List.mem_append] at h ⊢
  rcases h with h | h | h | h | h | h | h | h | h <;> simp [h]
theorem entRefs2_snoc (es : List Ent2) (tp : Addr) (x y : Str) (t1 t2 : Tok) : entRefs2 es ++ [Value.ref tp] = entRefs2 (es ++ [(tp, (x, t1), (y, t2))]) := by
  unfold entRefs2; rw [List.map_append]; rfl
/-! small facts about indices, told once -/
theorem idx_pos {i : Nat} (h0 : 0 < i) (h3 : i ≤ 3) : ((i : Int) - 1).toNat = i - 1 ∧ 0 ≤ (i : Int) - 1 ∧ (i : Int) - 1 < 2 ^ 63 := by omega
theorem idx_nat {i : Nat} (h3 : i ≤ 3) : 0 ≤ (i : Int) ∧ (i : Int) < 2 ^ 63 := by omega
theorem five1 {i j : Nat} (h0 : 0 < i) (hi : i ≤ 3) (hj : j ≤ 3) : i - 1 + j ≤ 5 := by omega
theorem five2 {i j : Nat} (h0 : 0 < j) (hi : i ≤ 3) (hj : j ≤ 3) : i + (j - 1) ≤ 5 := by omega
theorem five3 {i j : Nat} (hi : i ≤ 3) (hj : j ≤ 3) : i - 1 + (j - 1) ≤ 5 := by omega
theorem pos_of {i : Nat} (h : 0 < (i : Int)) : 0 < i := by omega
theorem not_pos {i : Nat} (h : ¬ 0 < (i : Int)) : ¬ 0 < i := by omega
theorem zero_of {i j : Nat} (h : (i : Int) + (j : Int) = 0) : i + j = 0 := by omega
theorem not_zero {i j : Nat} (h : (i : Int) + (j : Int) ≠ 0) : ¬ i + j = 0 := by omega
theorem pred_le {i n : Nat} (h : i ≤ n) : i - 1 ≤ n := Nat.le_trans (Nat.sub_le _ _) h
theorem size_of {vals : List Value} {j : Nat} (h : vals.length = j) (hj : j ≤ 3) : vals.toArray.size ≤ sizeLine := by rw [List.size_toArray, sizeLine_eq, h]; exact Nat.le_trans hj (by decide)
theorem es_small {es : List Ent2} {pre W : List Way} {k : Nat} {g : Way → Way} (hc : ways es = pre ++ (W.take k).map g) (h1 : pre.length ≤ 487) (h2 : W.length ≤ 243) : (entRefs2 es).length ≤ 1000 := by
  have q1 := congrArg List.length hc
  rw [ways_len, List.length_append, List.length_map, List.length_take] at q1
  unfold entRefs2
  rw [List.length_map]
  omega
theorem es_le {es : List Ent2} (h : (ways es).length ≤ 243) : es.length ≤ 1000 := by
  rw [ways_len] at h
  exact Nat.le_trans h (by decide)
end
theorem reset_D12 {M : Model} {A : Around} {E : Value → Shared → Prop} {Q : Flow → Shared → Prop} {s : Shared} {env : Env} (h : Q .next s) : wpAny M A (execs [] env) Q E s := by
  w_top off
  walk1
  w_top off
  exact h
section
section
local macro_rules | `(tactic| walk_at "exec If") => `(tactic| (refine hold_in ?_))
local macro_rules | `(tactic| walk_at "call ref") => `(tactic| (refine hold_in ?_))
local macro_rules | `(tactic| walk_at "subscriptTail") => `(tactic| (k_here; (with_reducible show wpAny _ _ (subscriptTail _ _ (Value.ref _) (Value.int _ _)) _ _ _); (refine hold_in ?_)))
/-- what a step leaves: the table has grown -/
def Blk (h₀ : Heap) (L : Addr) (m : Str → Option Value) (x d l0 : Addr) (t0 : Tok) (n1 : Nat) (hs : Int) (nw : List (Addr × Obj)) (c : List Way) (s : Shared) (fl : Flow) (s' : Shared) : Prop :=
  fl = .next ∧ ∃ h' tk u n2 es new, s' = { s with heap := h', toks := tk } ∧ Fr h₀ L h' (fmap ["name", "value"] u m []) ∧
    News h₀ L h' ((x, instObj 182 d) :: (d, dictOf [⟨hs, .str "_headers" t0, .ref l0⟩] n1) :: (l0, W.listOf (entRefs2 es).toArray n2) :: (new ++ nw)) ∧ (∀ p ∈ new, l0 < p.1) ∧ (∀ e ∈ es, (e.1, entObj2 e) ∈ new) ∧ ways es = c
theorem fr_same {nm : List Str} {h₀ h : Heap} {L : Addr} {m : Str → Option Value} (F : Fr h₀ L h m) : Fr h₀ L h (fmap nm m m []) := by rw [fmap_same]; exact F
theorem blk_cut {M : Model} {A : Around} {T : Sem Flow} {E : Value → Shared → Prop} {Q : Flow → Shared → Prop} {s : Shared} {h₀ : Heap} {L : Addr} {u m : Str → Option Value} {x d l0 : Addr} {t0 : Tok} {n1 : Nat} {hs : Int} {ol : Obj} {new nw : List (Addr × Obj)} (c : List Way)
    (F : Fr h₀ L s.heap (fmap ["name", "value"] u m [])) (N : News h₀ L s.heap ((x, instObj 182 d) :: (d, dictOf [⟨hs, .str "_headers" t0, .ref l0⟩] n1) :: (l0, ol) :: (new ++ nw)))
    (h1 : wpAny M A T (Blk h₀ L m x d l0 t0 n1 hs nw c s) E s)
    (h2 : ∀ h' tk u n2 es new, Fr h₀ L h' (fmap ["name", "value"] u m []) → News h₀ L h' ((x, instObj 182 d) :: (d, dictOf [⟨hs, .str "_headers" t0, .ref l0⟩] n1) :: (l0, W.listOf (entRefs2 es).toArray n2) :: (new ++ nw)) → (∀ p ∈ new, l0 < p.1) → (∀ e ∈ es, (e.1, entObj2 e) ∈ new) → ways es = c → Q .next { s with heap := h', toks := tk }) :
    wpAny M A T Q E s := by
  refine wpAny_mono h1 (fun fl s' h => ?_) fun _ _ e => e
  obtain ⟨rfl, h', tk, u, n2, es, new, rfl, a, b, c, d, e⟩ := h
  exact h2 h' tk u n2 es new a b c d e
theorem joined_spec {w : World} {loose : List Str} {mean : ExcName → Option Value} {mg mb : Str → Option Value} {s : Shared} {dp un : Nat} {fr : List Env} {gd : Option (List Code)} {base : Heap} {one two : Str} {to tt : Tok} {E Q : Value → Shared → Prop} :
    Below (amb dp un fr gd) base fr s.heap → (hd.heap_39 w.params).In s.heap → Top hd.view_39 loose mean mg mb s.heap → dp + 50 < recursionLimit → un + 500 < cLine →
    one.length ≤ 3 → Abc one → two.length ≤ 3 → Abc two →
    (∀ h' tk bk d l t0 n1 n2 hs led es, s.heap.StaysIn h' → (∀ p ∈ led, s.heap.get? p.1 = none ∧ h'.get? p.1 = some p.2) → Book2 bk d l t0 n1 n2 hs es led → ways es = joinN (lst one) (lst two) one.length two.length → Q (.ref bk) { s with heap := h', toks := tk }) →
    wpAny (model PySem.Challenge.rw_pm0056_02.row.prog w) (amb dp un fr gd) (call (.ref 245) [.str one to, .str two tt]) Q E s := by
  k_fill
  intro B X T hdp hun hol hoa htl hta ret
  have rd : dp + 1 + 30 < recursionLimit := by omega
  have ru : un + 3 + 300 < cLine := by omega
  have hol2 : one.length ≤ 20 := by omega
  have htl2 : two.length ≤ 20 := by omega
  have hul1 : (Txt.upper one).length = one.length := up_len hoa
  have hul2 : (Txt.upper two).length = two.length := up_len hta
  k_dflt (refine' call_me (binds := [("one", .str one to), ("two", .str two tt)]) X T ?ho ?hcd ?hroom ?hb ?hl ?hc ?hco ?hgen ?hk ?_; (case ho => k_is); (case hcd => k_is); (case hroom => exact Nat.lt_of_le_of_lt (Nat.le_add_right _ _) hdp); (case hb => exact BindsTo.of_eq rfl); (case hl => exact locs rfl); (case hc => decide); (case hco => exact rfl); (case hgen => exact rfl); (case hk => exact rfl))
  intro L h₁ F N
  k_steps
  unfold Hold
  rename Fr _ _ _ _ => F1
  rename News _ _ _ _ => N1
  rename IsRange _ _ _ _ _ _ _ _ => R1
  rw [show ((one.length : Int) + 1) = ((one.length + 1 : Nat) : Int) from rfl] at R1
  rename_i R z1 z2 z3 z4 z5 z6 z7 z8 z9 z10 z11
  refine it_range (n := one.length + 1) (σ := List Value × Nat × List (Addr × Obj)) (keep := []) (fun q => (R, W.listOf (List.toArray q.1) q.2.1) :: q.2.2) (fun _ => [])
    (fun i q => q.1.length = i ∧ (∀ k v, q.1[k]? = some v → RowIs q.2.2 v (joinN (lst one) (lst two) k) (two.length + 1)) ∧ ∀ p ∈ q.2.2, p.1 ≠ R) ["i", "j", "table", "name", "value"] rfl R1 (by omega) F1 N1 (fun _ => trivial) ⟨([], 0, []), rfl, ⟨rfl, (fun k v h => nomatch h), fun p hp => nomatch hp⟩, trivial⟩ ?_ ?_
  · rintro I i ⟨rows, n, nw⟩ ti u h₂ tk₂ oI hi ⟨hr1, hr2, hr3⟩ hlt hne F2 N2
    have hIR := hne.1
    have hRI := hlt.1
    dsimp only at *
    clear F1 N1
    have hi' : i ≤ one.length := Nat.le_of_lt_succ hi
    have hi3 : i ≤ 3 := Nat.le_trans hi' hol
    have hz := size_of hr1 hi3
    k_steps
    unfold Hold
    rename Fr _ _ _ _ => F3
    rename News _ _ _ _ => N3
    rename IsRange _ _ _ _ _ _ _ _ => R3
    rw [show ((two.length : Int) + 1) = ((two.length + 1 : Nat) : Int) from rfl] at R3
    rename_i r q3 lr q4 q5 q6 q7 q8 q9 q10 q11 q12
    have lrn := allLt_mem lr.2.2
    have eP : rows.toArray.push (.ref r) = (rows ++ [Value.ref r]).toArray := by simp
    rw [eP] at N3
    refine it_range (n := two.length + 1) (σ := List Value × Nat × List (Addr × Obj)) (keep := []) (fun q => (r, W.listOf (List.toArray q.1) q.2.1) :: (I, oI) :: (R, W.listOf (rows ++ [Value.ref r]).toArray (n + 1)) :: q.2.2) (fun _ => [])
      (fun j q => q.1.length = j ∧ (∀ k v, q.1[k]? = some v → CellIs q.2.2 v (joinN (lst one) (lst two) i k)) ∧ (∀ p ∈ nw, p ∈ q.2.2) ∧ (∀ p ∈ q.2.2, p.1 ≠ r) ∧ (∀ p ∈ q.2.2, p.1 ≠ R) ∧ (∀ p ∈ q.2.2, p.1 ≠ I)) ["j", "table", "name", "value"] rfl R3 (by omega) F3 N3 (fun _ => trivial)
      ⟨([], 0, nw), rfl, ⟨rfl, (fun k v h => nomatch h), fun p hp => hp, fun p hp => Nat.ne_of_lt (lrn p hp), hr3, hne.2.all⟩, trivial⟩ ?_ ?_
    · rintro J j ⟨vals, n2, nw2⟩ tj u2 h₃ tk₃ oJ hj ⟨hv1, hv2, hv3, hv4, hv5, hv6⟩ hlt3 hne3 F4 N4
      have hj' : j ≤ two.length := Nat.le_of_lt_succ hj
      have hj3 : j ≤ 3 := Nat.le_trans hj' htl
      have hJr := hlt3.1
      have hJI := hlt3.2.1
      have hJR := hlt3.2.2.1
      have hJn := hne3.2.2.2
      dsimp only at *
      clear F3 N3
      k_steps
      unfold Hold
      rename Fr _ _ _ _ => F5
      rename News _ _ _ _ => N5
      rename_i l0 z1 lt0
      have lt0n := allLt_mem lt0.2.2.2.2
      k_dflt (refine' new_use F5 N5 X T ?q1 ?q2 (.head _) ?_; (case q1 => exact rd); (case q2 => exact ru))
      intro h4 tk4 x d hs t0 n1 ltd ltx F6 N6
      clear F4 N4 F5 N5
      k_steps
      unfold Hold
      rename Fr _ _ _ _ => F7
      rename News _ _ _ _ => N7
      have hnl := allLt_mem (l := (J, oJ) :: (r, W.listOf vals.toArray n2) :: (I, oI) :: (R, W.listOf (rows ++ [Value.ref r]).toArray (n + 1)) :: nw2) lt0
      have ndl : (d : Nat) ≠ l0 := Nat.ne_of_gt (ltd _ (.head _))
      have nxl : (x : Nat) ≠ l0 := Nat.ne_of_gt (Nat.lt_trans (ltd _ (.head _)) ltx)
      refine blk_cut (new := []) (part1 i j) (fr_same F7) N7 ?_ ?_
      · refine wpAny_If ?_
        k_steps
        · unfold Hold
          rename (i : Int) + (j : Int) = 0 => hij
          have hij2 := zero_of hij
          k_dflt (refine' add_header_use2 (vs := []) (base := base) (A₀ := amb dp un fr gd) B rfl rfl F7 N7 X T ?q1 ?q2 nxl ndl (fun p hp => Nat.ne_of_lt (hnl p hp)) ?q6 ?q7 ?q8 ?q7 ?q8 ?_)
          (case q1 => exact rd)
          (case q2 => exact ru)
          (case q6 => decide)
          (case q7 => decide)
          (case q8 => exact fun c hc => nomatch hc)
          intro h6 tk6 tp t1 t2 n3 ltp1 ltp2 F8 N8
          k_steps
          exact ⟨rfl, _, _, _, n3, [(tp, (_, t1), (_, t2))], [_], rfl, fr_same F8, N8, fun p hp => by rw [List.mem_singleton.mp hp]; exact ltp1.2.2, fun e he => by rw [List.mem_singleton.mp he]; exact .head _, (if_pos hij2).symm⟩
        · rename (i : Int) + (j : Int) ≠ 0 => hij
          have hij2 := not_zero hij
          exact ⟨rfl, _, _, _, 0, [], [], rfl, fr_same F7, N7, (fun p hp => nomatch hp), (fun e he => nomatch he), (if_neg hij2).symm⟩
      · intro h5 tk5 u5 n5 es5 new5 F8 N8 hw8 he8 hc8
        clear F7 N7
        k_steps
        unfold Hold
        refine blk_cut (part1 i j ++ part2 (lst one) (lst two) i j) F8 N8 ?_ ?_
        · have hprev := Nat.le_trans (part1_len i j) (show 1 ≤ 487 by decide)
          refine wpAny_If ?_
          k_steps
          · unfold Hold
            rename 0 < (i : Int) => hi0
            have hi2 := pos_of hi0
            rename Fr _ _ _ _ => F9
            rename News _ _ _ _ => N9
            have hi1 : i - 1 < rows.length := by rw [hr1]; exact Nat.sub_lt hi2 Nat.one_pos
            obtain ⟨et, ez1, ez2⟩ := idx_pos hi2 hi3
            obtain ⟨a, vs', k', hv', ha, hvl, hcell⟩ := hr2 (i - 1) _ (List.getElem?_eq_getElem hi1)
            have hx1 : (rows ++ [Value.ref r])[((i : Int) - 1).toNat]? = some (.ref a) := by rw [et, List.getElem?_append_left hi1, List.getElem?_eq_getElem hi1, hv']
            k_dflt (refine' item_led N9 (.tail _ (.tail _ (.tail _ (List.mem_append_right _ (.tail _ (.tail _ (.tail _ (.head _)))))))) ?z1 ?z2 hx1 ?_; (case z1 => exact ez1); (case z2 => exact ez2))
            k_steps
            unfold Hold
            have hj1 : j < vs'.length := by rw [hvl]; exact hj
            obtain ⟨bk', d', l', t0', n1', n2', hs', es', hb', BK, hways⟩ := hcell j _ (List.getElem?_eq_getElem hj1)
            have hx2 : vs'[((j : Int)).toNat]? = some (.ref bk') := by rw [Int.toNat_natCast, List.getElem?_eq_getElem hj1, hb']
            k_dflt (refine' kba_turn (value' := PySem.Expr.Name (PySem.Str.ofString "_") ⟨0, 0, 0, 0⟩) (fun _ => rfl) ?_)
            k_dflt (refine' item_led N9 (.tail _ (.tail _ (.tail _ (List.mem_append_right _ (.tail _ (.tail _ (.tail _ (.tail _ (hv3 _ ha))))))))) ?z1 ?z2 hx2 ?_; (case z1 => exact (idx_nat hj3).1); (case z2 => exact (idx_nat hj3).2))
            replace BK := BK.mono hv3
            have BK9 := BK.mono (nw' := (x, instObj 182 d) :: (d, dictOf [⟨hs, .str "_headers" t0, .ref l0⟩] n1) :: (l0, W.listOf (entRefs2 es5).toArray n5) :: (new5 ++ ((J, oJ) :: (r, W.listOf vals.toArray n2) :: (I, oI) :: (R, W.listOf (rows ++ [Value.ref r]).toArray (n + 1)) :: nw2))) fun p hp => .tail _ (.tail _ (.tail _ (List.mem_append_right _ (.tail _ (.tail _ (.tail _ (.tail _ hp)))))))
            obtain ⟨b1, b2, b3, b4⟩ := id BK9
            have hsm := joinN_small hoa hta (i := i - 1) (j := j) (pred_le hi') hj' (five1 hi2 hi3 hj3)
            rw [← hways] at hsm
            have hel : es'.length ≤ 1000 := es_le hsm.1
            k_steps
            unfold Hold
            rename Fr _ _ _ _ => F10
            rename News _ _ _ _ => N10
            k_dflt (refine' items_use F10 N10 X T ?q1 ?q2 BK9 hel ?_; (case q1 => exact rd); (case q2 => exact ru))
            intro h11 tk11 D ltD F11 N11
            clear F10 N10
            k_steps
            unfold Hold
            rename Fr _ _ _ _ => F12
            rename News _ _ _ _ => N12
            have hDl : l0 < D := ltD _ (.tail _ (.tail _ (.head _)))
            refine it_list (vs := entRefs2 es') (σ := Nat × List Ent2 × List (Addr × Obj)) (keep := [(D, W.listOf (entRefs2 es').toArray 0)]) (fun q => (D, W.listOf (entRefs2 es').toArray 0) :: (x, instObj 182 d) :: (d, dictOf [⟨hs, .str "_headers" t0, .ref l0⟩] n1) :: (l0, W.listOf (entRefs2 q.2.1).toArray q.1) :: (q.2.2 ++ ((J, oJ) :: (r, W.listOf vals.toArray n2) :: (I, oI) :: (R, W.listOf (rows ++ [Value.ref r]).toArray (n + 1)) :: nw2))) (fun _ => [])
              (fun k q => (∀ p ∈ q.2.2, l0 < p.1) ∧ (∀ e ∈ q.2.1, (e.1, entObj2 e) ∈ q.2.2) ∧ ways q.2.1 = part1 i j ++ (((ways es').take k).map (wayA (lst one) (i - 1)))) ["name", "value"] rfl (list_led N12 (.head _)) (src_news N12 (.head _)) F12 N12 (fun _ => ⟨.head _, trivial⟩) ⟨(_, es5, new5), rfl, ⟨hw8, he8, by rw [List.take_zero, List.map_nil, List.append_nil]; exact hc8⟩, trivial⟩ ?_ ?_
            · rintro I2 k ⟨n13, es13, new13⟩ v u13 h13 tk13 oI2 hv ⟨hw13, he13, hc13⟩ hlt13 hne13 F13 N13
              dsimp only at *
              clear F12 N12
              obtain ⟨e, hek, rfl⟩ := entRefs2_at hv
              have hem : e ∈ es' := List.mem_of_getElem? hek
              have hwk := ways_at (c := ways es') rfl hek
              have hwo := hsm.2 _ (List.mem_of_getElem? hwk)
              have htk := take_snoc hwk
              have b5 := BK.4 e hem
              obtain ⟨ea, ⟨en, et1⟩, ev, et2⟩ := e
              dsimp only at *
              have htup : IsTup h13 ea #[.str en et1, .str ev et2] := ⟨_, (N13 _ (.tail _ (.tail _ (.tail _ (.tail _ (.tail _ (List.mem_append_right _ (.tail _ (.tail _ (.tail _ (.tail _ b5))))))))))).1, rfl, _, rfl⟩
              have hnl1 : en.length ≤ 6 := by rw [← lst_len]; exact hwo.1.1
              have hvl1 : ev.length ≤ 6 := by rw [← lst_len]; exact hwo.2.1
              have hI2 := hlt13
              k_steps
              unfold Hold
              rename Fr _ _ _ _ => F14
              rename News _ _ _ _ => N14
              have en1 := suf_up (x := en) hoa hi2 hi'
              have ev1 := suf_low (x := ev) (y := one) hi2 hi'
              have hadd := way_ok hwo (low_ok hoa hi2 hi').2 (low_ok hoa hi2 hi').1
              obtain ⟨g1, g2, g3, g4⟩ := add_ok hadd en1 ev1
              have hes13 := es_small hc13 hprev hsm.1
              have N15 : News _ _ _ ((x, instObj 182 d) :: (d, dictOf [⟨hs, .str "_headers" t0, .ref l0⟩] n1) :: (l0, W.listOf (entRefs2 es13).toArray n13) :: (I2, oI2) :: (D, W.listOf (entRefs2 es').toArray 0) :: (new13 ++ ((J, oJ) :: (r, W.listOf vals.toArray n2) :: (I, oI) :: (R, W.listOf (rows ++ [Value.ref r]).toArray (n + 1)) :: nw2))) := fun p hp => N14 p (rot2 hp)
              k_dflt (refine' add_header_use2 (base := base) (A₀ := amb dp un fr gd) B rfl rfl F14 N15 X T ?q1 ?q2 nxl ndl ?q5 hes13 g1 g2 g3 g4 ?_)
              (case q1 => exact rd)
              (case q2 => exact ru)
              case q5 =>
                intro p hp
                rcases List.mem_cons.mp hp with rfl | hp
                · exact hne13.2.2.2.1.symm
                rcases List.mem_cons.mp hp with rfl | hp
                · exact Nat.ne_of_gt hDl
                rcases List.mem_append.mp hp with hp | hp
                · exact Nat.ne_of_gt (hw13 p hp)
                · exact Nat.ne_of_lt (hnl p hp)
              intro h16 tk16 tp t1 t2 n3 ltp1 ltp2 F16 N16
              clear N15
              k_steps
              rename Fr _ _ _ _ => F17
              rename News _ _ _ _ => N17
              rw [show entRefs2 es13 ++ [Value.ref tp] = entRefs2 (es13 ++ [(tp, (en ++ Txt.item (Txt.upper one) ((i : Int) - 1), t1), (ev ++ Txt.item one ((i : Int) - 1), t2))]) from entRefs2_snoc _ _ _ _ _ _] at N17
              refine turn_end (n3, es13 ++ [(tp, (en ++ Txt.item (Txt.upper one) ((i : Int) - 1), t1), (ev ++ Txt.item one ((i : Int) - 1), t2))], (tp, entObj2 (tp, (en ++ Txt.item (Txt.upper one) ((i : Int) - 1), t1), (ev ++ Txt.item one ((i : Int) - 1), t2))) :: new13) F17 N17 (.tail _ (.tail _ (.tail _ (.tail _ (.head _))))) (InLed.of_all fun p hp => rot3 hp) ?ne ⟨?f1, ?f2, ?f3⟩ trivial ?mz
              case ne =>
                refine ⟨hne13.1, hne13.2.1, hne13.2.2.1, hne13.2.2.2.1, AllNe.of fun p hp => ?_⟩
                rcases List.mem_cons.mp hp with rfl | hp
                · exact Nat.ne_of_gt (ltp2 _ (.head _))
                · exact hne13.2.2.2.2.all p hp
              case f1 =>
                intro p hp
                rcases List.mem_cons.mp hp with rfl | hp
                · exact ltp1.2.2
                · exact hw13 p hp
              case f2 =>
                intro e he
                rcases List.mem_append.mp he with he | he
                · exact .tail _ (he13 e he)
                · rw [List.mem_singleton.mp he]; exact .head _
              case f3 =>
                dsimp only
                rw [ways_append, hc13, htk, List.map_append, List.append_assoc]
                congr 2
                show [(lst _, lst _)] = [_]
                rw [en1, ev1]; rfl
              case mz =>
                intro z hz
                obtain ⟨h1, h2, -⟩ := id hz
                simp only [h1, h2, if_false]
                rw [fmap_off ?hs hz]
                case hs => rfl
            · rintro ⟨n13, es13, new13⟩ u13 h13 tk13 ⟨hw13, he13, hc13⟩ F13 N13
              dsimp only at *
              clear F12 N12
              rw [List.take_of_length_le (by unfold entRefs2; rw [ways_len, List.length_map]; exact Nat.le_refl _), hways] at hc13
              rw [fmap_two] at F13
              k_steps
              exact ⟨rfl, _, _, u13, n13, es13, new13, rfl, F13, fun p hp => N13 p (.tail _ hp), hw13, he13, by rw [hc13]; unfold part2; rw [if_pos hi2]⟩
          · rename ¬ 0 < (i : Int) => hi0
            have hi2 := not_pos hi0
            exact ⟨rfl, _, _, u5, n5, es5, new5, rfl, F8, N8, hw8, he8, by rw [hc8]; unfold part2; rw [if_neg hi2, List.append_nil]⟩
        · clear F8 N8 hw8 he8 hc8
          intro h5 tk5 u5 n5 es5 new5 F8 N8 hw8 he8 hc8
          k_steps
          unfold Hold
          refine blk_cut (part1 i j ++ part2 (lst one) (lst two) i j ++ part3 (lst one) (lst two) i j) F8 N8 ?_ ?_
          · have hprev := Nat.le_trans (part_len hoa hta hol htl hi' hj').1 (show 244 ≤ 487 by decide)
            refine wpAny_If ?_
            k_steps
            · unfold Hold
              rename 0 < (j : Int) => hi0
              have hi2 := pos_of hi0
              rename Fr _ _ _ _ => F9
              rename News _ _ _ _ => N9
              have hx1 : (rows ++ [Value.ref r])[((i : Int)).toNat]? = some (.ref r) := by rw [Int.toNat_natCast, List.getElem?_append_right (Nat.le_of_eq hr1), hr1, Nat.sub_self]; rfl
              k_dflt (refine' item_led N9 (.tail _ (.tail _ (.tail _ (List.mem_append_right _ (.tail _ (.tail _ (.tail _ (.head _)))))))) ?z1 ?z2 hx1 ?_; (case z1 => exact (idx_nat hi3).1); (case z2 => exact (idx_nat hi3).2))
              k_steps
              unfold Hold
              have hj1 : j - 1 < vals.length := by rw [hv1]; exact Nat.sub_lt hi2 Nat.one_pos
              obtain ⟨et, ez1, ez2⟩ := idx_pos hi2 hj3
              obtain ⟨bk', d', l', t0', n1', n2', hs', es', hb', BK, hways⟩ := hv2 (j - 1) _ (List.getElem?_eq_getElem hj1)
              have hx2 : vals[((j : Int) - 1).toNat]? = some (.ref bk') := by rw [et, List.getElem?_eq_getElem hj1, hb']
              k_dflt (refine' kba_turn (value' := PySem.Expr.Name (PySem.Str.ofString "_") ⟨0, 0, 0, 0⟩) (fun _ => rfl) ?_)
              k_dflt (refine' item_led N9 (.tail _ (.tail _ (.tail _ (List.mem_append_right _ (.tail _ (.head _)))))) ?z1 ?z2 hx2 ?_; (case z1 => exact ez1); (case z2 => exact ez2))
              have BK9 := BK.mono (nw' := (x, instObj 182 d) :: (d, dictOf [⟨hs, .str "_headers" t0, .ref l0⟩] n1) :: (l0, W.listOf (entRefs2 es5).toArray n5) :: (new5 ++ ((J, oJ) :: (r, W.listOf vals.toArray n2) :: (I, oI) :: (R, W.listOf (rows ++ [Value.ref r]).toArray (n + 1)) :: nw2))) fun p hp => .tail _ (.tail _ (.tail _ (List.mem_append_right _ (.tail _ (.tail _ (.tail _ (.tail _ hp)))))))
              obtain ⟨b1, b2, b3, b4⟩ := id BK9
              have hsm := joinN_small hoa hta (i := i) (j := j - 1) hi' (pred_le hj') (five2 hi2 hi3 hj3)
              rw [← hways] at hsm
              have hel : es'.length ≤ 1000 := es_le hsm.1
              k_steps
              unfold Hold
              rename Fr _ _ _ _ => F10
              rename News _ _ _ _ => N10
              k_dflt (refine' items_use F10 N10 X T ?q1 ?q2 BK9 hel ?_; (case q1 => exact rd); (case q2 => exact ru))
              intro h11 tk11 D ltD F11 N11
              clear F10 N10
              k_steps
              unfold Hold
              rename Fr _ _ _ _ => F12
              rename News _ _ _ _ => N12
              have hDl : l0 < D := ltD _ (.tail _ (.tail _ (.head _)))
              refine it_list (vs := entRefs2 es') (σ := Nat × List Ent2 × List (Addr × Obj)) (keep := [(D, W.listOf (entRefs2 es').toArray 0)]) (fun q => (D, W.listOf (entRefs2 es').toArray 0) :: (x, instObj 182 d) :: (d, dictOf [⟨hs, .str "_headers" t0, .ref l0⟩] n1) :: (l0, W.listOf (entRefs2 q.2.1).toArray q.1) :: (q.2.2 ++ ((J, oJ) :: (r, W.listOf vals.toArray n2) :: (I, oI) :: (R, W.listOf (rows ++ [Value.ref r]).toArray (n + 1)) :: nw2))) (fun _ => [])
                (fun k q => (∀ p ∈ q.2.2, l0 < p.1) ∧ (∀ e ∈ q.2.1, (e.1, entObj2 e) ∈ q.2.2) ∧ ways q.2.1 = part1 i j ++ part2 (lst one) (lst two) i j ++ (((ways es').take k).map (wayB (lst two) (j - 1)))) ["name", "value"] rfl (list_led N12 (.head _)) (src_news N12 (.head _)) F12 N12 (fun _ => ⟨.head _, trivial⟩) ⟨(_, es5, new5), rfl, ⟨hw8, he8, by rw [List.take_zero, List.map_nil, List.append_nil]; exact hc8⟩, trivial⟩ ?_ ?_
              · rintro I2 k ⟨n13, es13, new13⟩ v u13 h13 tk13 oI2 hv ⟨hw13, he13, hc13⟩ hlt13 hne13 F13 N13
                dsimp only at *
                clear F12 N12
                obtain ⟨e, hek, rfl⟩ := entRefs2_at hv
                have hem : e ∈ es' := List.mem_of_getElem? hek
                have hwk := ways_at (c := ways es') rfl hek
                have hwo := hsm.2 _ (List.mem_of_getElem? hwk)
                have htk := take_snoc hwk
                have b5 := BK.4 e hem
                obtain ⟨ea, ⟨en, et1⟩, ev, et2⟩ := e
                dsimp only at *
                have htup : IsTup h13 ea #[.str en et1, .str ev et2] := ⟨_, (N13 _ (.tail _ (.tail _ (.tail _ (.tail _ (.tail _ (List.mem_append_right _ (.tail _ (.tail _ (.tail _ (.tail _ b5))))))))))).1, rfl, _, rfl⟩
                have hnl1 : en.length ≤ 6 := by rw [← lst_len]; exact hwo.1.1
                have hvl1 : ev.length ≤ 6 := by rw [← lst_len]; exact hwo.2.1
                have hI2 := hlt13
                k_steps
                unfold Hold
                rename Fr _ _ _ _ => F14
                rename News _ _ _ _ => N14
                have en1 := suf_low (x := en) (y := two) hi2 hj'
                have ev1 := suf_up (x := ev) hta hi2 hj'
                have hadd := way_ok hwo (low_ok hta hi2 hj').1 (low_ok hta hi2 hj').2
                obtain ⟨g1, g2, g3, g4⟩ := add_ok hadd en1 ev1
                have hes13 := es_small hc13 hprev hsm.1
                have N15 : News _ _ _ ((x, instObj 182 d) :: (d, dictOf [⟨hs, .str "_headers" t0, .ref l0⟩] n1) :: (l0, W.listOf (entRefs2 es13).toArray n13) :: (I2, oI2) :: (D, W.listOf (entRefs2 es').toArray 0) :: (new13 ++ ((J, oJ) :: (r, W.listOf vals.toArray n2) :: (I, oI) :: (R, W.listOf (rows ++ [Value.ref r]).toArray (n + 1)) :: nw2))) := fun p hp => N14 p (rot2 hp)
                k_dflt (refine' add_header_use2 (base := base) (A₀ := amb dp un fr gd) B rfl rfl F14 N15 X T ?q1 ?q2 nxl ndl ?q5 hes13 g1 g2 g3 g4 ?_)
                (case q1 => exact rd)
                (case q2 => exact ru)
                case q5 =>
                  intro p hp
                  rcases List.mem_cons.mp hp with rfl | hp
                  · exact hne13.2.2.2.1.symm
                  rcases List.mem_cons.mp hp with rfl | hp
                  · exact Nat.ne_of_gt hDl
                  rcases List.mem_append.mp hp with hp | hp
                  · exact Nat.ne_of_gt (hw13 p hp)
                  · exact Nat.ne_of_lt (hnl p hp)
                intro h16 tk16 tp t1 t2 n3 ltp1 ltp2 F16 N16
                clear N15
                k_steps
                rename Fr _ _ _ _ => F17
                rename News _ _ _ _ => N17
                rw [show entRefs2 es13 ++ [Value.ref tp] = entRefs2 (es13 ++ [(tp, (en ++ Txt.item two ((j : Int) - 1), t1), (ev ++ Txt.item (Txt.upper two) ((j : Int) - 1), t2))]) from entRefs2_snoc _ _ _ _ _ _] at N17
                refine turn_end (n3, es13 ++ [(tp, (en ++ Txt.item two ((j : Int) - 1), t1), (ev ++ Txt.item (Txt.upper two) ((j : Int) - 1), t2))], (tp, entObj2 (tp, (en ++ Txt.item two ((j : Int) - 1), t1), (ev ++ Txt.item (Txt.upper two) ((j : Int) - 1), t2))) :: new13) F17 N17 (.tail _ (.tail _ (.tail _ (.tail _ (.head _))))) (InLed.of_all fun p hp => rot3 hp) ?ne ⟨?f1, ?f2, ?f3⟩ trivial ?mz
                case ne =>
                  refine ⟨hne13.1, hne13.2.1, hne13.2.2.1, hne13.2.2.2.1, AllNe.of fun p hp => ?_⟩
                  rcases List.mem_cons.mp hp with rfl | hp
                  · exact Nat.ne_of_gt (ltp2 _ (.head _))
                  · exact hne13.2.2.2.2.all p hp
                case f1 =>
                  intro p hp
                  rcases List.mem_cons.mp hp with rfl | hp
                  · exact ltp1.2.2
                  · exact hw13 p hp
                case f2 =>
                  intro e he
                  rcases List.mem_append.mp he with he | he
                  · exact .tail _ (he13 e he)
                  · rw [List.mem_singleton.mp he]; exact .head _
                case f3 =>
                  dsimp only
                  rw [ways_append, hc13, htk, List.map_append, List.append_assoc]
                  congr 2
                  show [(lst _, lst _)] = [_]
                  rw [en1, ev1]; rfl
                case mz =>
                  intro z hz
                  obtain ⟨h1, h2, -⟩ := id hz
                  simp only [h1, h2, if_false]
                  rw [fmap_off ?hs hz]
                  case hs => rfl
              · rintro ⟨n13, es13, new13⟩ u13 h13 tk13 ⟨hw13, he13, hc13⟩ F13 N13
                dsimp only at *
                clear F12 N12
                rw [List.take_of_length_le (by unfold entRefs2; rw [ways_len, List.length_map]; exact Nat.le_refl _), hways] at hc13
                rw [fmap_two] at F13
                k_steps
                exact ⟨rfl, _, _, u13, n13, es13, new13, rfl, F13, fun p hp => N13 p (.tail _ hp), hw13, he13, by rw [hc13]; unfold part3; rw [if_pos hi2]⟩
            · rename ¬ 0 < (j : Int) => hi0
              have hi2 := not_pos hi0
              exact ⟨rfl, _, _, u5, n5, es5, new5, rfl, F8, N8, hw8, he8, by rw [hc8]; unfold part3; rw [if_neg hi2, List.append_nil]⟩
          · clear F8 N8 hw8 he8 hc8
            intro h5 tk5 u5 n5 es5 new5 F8 N8 hw8 he8 hc8
            k_steps
            unfold Hold
            refine blk_cut (part1 i j ++ part2 (lst one) (lst two) i j ++ part3 (lst one) (lst two) i j ++ part4 (lst one) (lst two) i j) F8 N8 ?_ ?_
            · have hprev := (part_len hoa hta hol htl hi' hj').2
              refine wpAny_If ?_
              k_steps
              · unfold Hold
                rename 0 < (i : Int) => hi0
                rename 0 < (j : Int) => hj0
                rename (_ == _) = true => heq
                have hi2 := pos_of hi0
                have hj2 := pos_of hj0
                rw [item_eq hi2 hi' hj2 hj', decide_eq_true_eq] at heq
                rename Fr _ _ _ _ => F9
                rename News _ _ _ _ => N9
                have hi1 : i - 1 < rows.length := by rw [hr1]; exact Nat.sub_lt hi2 Nat.one_pos
                obtain ⟨et, ez1, ez2⟩ := idx_pos hi2 hi3
                obtain ⟨a, vs', k', hv', ha, hvl, hcell⟩ := hr2 (i - 1) _ (List.getElem?_eq_getElem hi1)
                have hx1 : (rows ++ [Value.ref r])[((i : Int) - 1).toNat]? = some (.ref a) := by rw [et, List.getElem?_append_left hi1, List.getElem?_eq_getElem hi1, hv']
                k_dflt (refine' item_led N9 (.tail _ (.tail _ (.tail _ (List.mem_append_right _ (.tail _ (.tail _ (.tail _ (.head _)))))))) ?z1 ?z2 hx1 ?_; (case z1 => exact ez1); (case z2 => exact ez2))
                k_steps
                unfold Hold
                have hj1 : j - 1 < vs'.length := by rw [hvl]; exact Nat.lt_of_le_of_lt (Nat.sub_le j 1) hj
                obtain ⟨et2, ey1, ey2⟩ := idx_pos hj2 hj3
                obtain ⟨bk', d', l', t0', n1', n2', hs', es', hb', BK, hways⟩ := hcell (j - 1) _ (List.getElem?_eq_getElem hj1)
                have hx2 : vs'[((j : Int) - 1).toNat]? = some (.ref bk') := by rw [et2, List.getElem?_eq_getElem hj1, hb']
                k_dflt (refine' kba_turn (value' := PySem.Expr.Name (PySem.Str.ofString "_") ⟨0, 0, 0, 0⟩) (fun _ => rfl) ?_)
                k_dflt (refine' item_led N9 (.tail _ (.tail _ (.tail _ (List.mem_append_right _ (.tail _ (.tail _ (.tail _ (.tail _ (hv3 _ ha))))))))) ?z1 ?z2 hx2 ?_; (case z1 => exact ey1); (case z2 => exact ey2))
                replace BK := BK.mono hv3
                have BK9 := BK.mono (nw' := (x, instObj 182 d) :: (d, dictOf [⟨hs, .str "_headers" t0, .ref l0⟩] n1) :: (l0, W.listOf (entRefs2 es5).toArray n5) :: (new5 ++ ((J, oJ) :: (r, W.listOf vals.toArray n2) :: (I, oI) :: (R, W.listOf (rows ++ [Value.ref r]).toArray (n + 1)) :: nw2))) fun p hp => .tail _ (.tail _ (.tail _ (List.mem_append_right _ (.tail _ (.tail _ (.tail _ (.tail _ hp)))))))
                obtain ⟨b1, b2, b3, b4⟩ := id BK9
                have hsm := joinN_small hoa hta (i := i - 1) (j := j - 1) (pred_le hi') (pred_le hj') (five3 hi3 hj3)
                rw [← hways] at hsm
                have hel : es'.length ≤ 1000 := es_le hsm.1
                k_steps
                unfold Hold
                rename Fr _ _ _ _ => F10
                rename News _ _ _ _ => N10
                k_dflt (refine' items_use F10 N10 X T ?q1 ?q2 BK9 hel ?_; (case q1 => exact rd); (case q2 => exact ru))
                intro h11 tk11 D ltD F11 N11
                clear F10 N10
                k_steps
                unfold Hold
                rename Fr _ _ _ _ => F12
                rename News _ _ _ _ => N12
                have hDl : l0 < D := ltD _ (.tail _ (.tail _ (.head _)))
                refine it_list (vs := entRefs2 es') (σ := Nat × List Ent2 × List (Addr × Obj)) (keep := [(D, W.listOf (entRefs2 es').toArray 0)]) (fun q => (D, W.listOf (entRefs2 es').toArray 0) :: (x, instObj 182 d) :: (d, dictOf [⟨hs, .str "_headers" t0, .ref l0⟩] n1) :: (l0, W.listOf (entRefs2 q.2.1).toArray q.1) :: (q.2.2 ++ ((J, oJ) :: (r, W.listOf vals.toArray n2) :: (I, oI) :: (R, W.listOf (rows ++ [Value.ref r]).toArray (n + 1)) :: nw2))) (fun _ => [])
                  (fun k q => (∀ p ∈ q.2.2, l0 < p.1) ∧ (∀ e ∈ q.2.1, (e.1, entObj2 e) ∈ q.2.2) ∧ ways q.2.1 = part1 i j ++ part2 (lst one) (lst two) i j ++ part3 (lst one) (lst two) i j ++ (((ways es').take k).map (wayC (lst one) (lst two) (i - 1) (j - 1)))) ["name", "value"] rfl (list_led N12 (.head _)) (src_news N12 (.head _)) F12 N12 (fun _ => ⟨.head _, trivial⟩) ⟨(_, es5, new5), rfl, ⟨hw8, he8, by rw [List.take_zero, List.map_nil, List.append_nil]; exact hc8⟩, trivial⟩ ?_ ?_
                · rintro I2 k ⟨n13, es13, new13⟩ v u13 h13 tk13 oI2 hv ⟨hw13, he13, hc13⟩ hlt13 hne13 F13 N13
                  dsimp only at *
                  clear F12 N12
                  obtain ⟨e, hek, rfl⟩ := entRefs2_at hv
                  have hem : e ∈ es' := List.mem_of_getElem? hek
                  have hwk := ways_at (c := ways es') rfl hek
                  have hwo := hsm.2 _ (List.mem_of_getElem? hwk)
                  have htk := take_snoc hwk
                  have b5 := BK.4 e hem
                  obtain ⟨ea, ⟨en, et1⟩, ev, et2⟩ := e
                  dsimp only at *
                  have htup : IsTup h13 ea #[.str en et1, .str ev et2] := ⟨_, (N13 _ (.tail _ (.tail _ (.tail _ (.tail _ (.tail _ (List.mem_append_right _ (.tail _ (.tail _ (.tail _ (.tail _ b5))))))))))).1, rfl, _, rfl⟩
                  have hnl1 : en.length ≤ 6 := by rw [← lst_len]; exact hwo.1.1
                  have hvl1 : ev.length ≤ 6 := by rw [← lst_len]; exact hwo.2.1
                  have hI2 := hlt13
                  k_steps
                  unfold Hold
                  rename Fr _ _ _ _ => F14
                  rename News _ _ _ _ => N14
                  have en1 := suf_up (x := en) hoa hi2 hi'
                  have ev1 := suf_up (x := ev) hta hj2 hj'
                  have hadd := way_ok hwo (low_ok hoa hi2 hi').2 (low_ok hta hj2 hj').2
                  obtain ⟨g1, g2, g3, g4⟩ := add_ok hadd en1 ev1
                  have hes13 := es_small hc13 hprev hsm.1
                  have N15 : News _ _ _ ((x, instObj 182 d) :: (d, dictOf [⟨hs, .str "_headers" t0, .ref l0⟩] n1) :: (l0, W.listOf (entRefs2 es13).toArray n13) :: (I2, oI2) :: (D, W.listOf (entRefs2 es').toArray 0) :: (new13 ++ ((J, oJ) :: (r, W.listOf vals.toArray n2) :: (I, oI) :: (R, W.listOf (rows ++ [Value.ref r]).toArray (n + 1)) :: nw2))) := fun p hp => N14 p (rot2 hp)
                  k_dflt (refine' add_header_use2 (base := base) (A₀ := amb dp un fr gd) B rfl rfl F14 N15 X T ?q1 ?q2 nxl ndl ?q5 hes13 g1 g2 g3 g4 ?_)
                  (case q1 => exact rd)
                  (case q2 => exact ru)
                  case q5 =>
                    intro p hp
                    rcases List.mem_cons.mp hp with rfl | hp
                    · exact hne13.2.2.2.1.symm
                    rcases List.mem_cons.mp hp with rfl | hp
                    · exact Nat.ne_of_gt hDl
                    rcases List.mem_append.mp hp with hp | hp
                    · exact Nat.ne_of_gt (hw13 p hp)
                    · exact Nat.ne_of_lt (hnl p hp)
                  intro h16 tk16 tp t1 t2 n3 ltp1 ltp2 F16 N16
                  clear N15
                  k_steps
                  rename Fr _ _ _ _ => F17
                  rename News _ _ _ _ => N17
                  rw [show entRefs2 es13 ++ [Value.ref tp] = entRefs2 (es13 ++ [(tp, (en ++ Txt.item (Txt.upper one) ((i : Int) - 1), t1), (ev ++ Txt.item (Txt.upper two) ((j : Int) - 1), t2))]) from entRefs2_snoc _ _ _ _ _ _] at N17
                  refine turn_end (n3, es13 ++ [(tp, (en ++ Txt.item (Txt.upper one) ((i : Int) - 1), t1), (ev ++ Txt.item (Txt.upper two) ((j : Int) - 1), t2))], (tp, entObj2 (tp, (en ++ Txt.item (Txt.upper one) ((i : Int) - 1), t1), (ev ++ Txt.item (Txt.upper two) ((j : Int) - 1), t2))) :: new13) F17 N17 (.tail _ (.tail _ (.tail _ (.tail _ (.head _))))) (InLed.of_all fun p hp => rot3 hp) ?ne ⟨?f1, ?f2, ?f3⟩ trivial ?mz
                  case ne =>
                    refine ⟨hne13.1, hne13.2.1, hne13.2.2.1, hne13.2.2.2.1, AllNe.of fun p hp => ?_⟩
                    rcases List.mem_cons.mp hp with rfl | hp
                    · exact Nat.ne_of_gt (ltp2 _ (.head _))
                    · exact hne13.2.2.2.2.all p hp
                  case f1 =>
                    intro p hp
                    rcases List.mem_cons.mp hp with rfl | hp
                    · exact ltp1.2.2
                    · exact hw13 p hp
                  case f2 =>
                    intro e he
                    rcases List.mem_append.mp he with he | he
                    · exact .tail _ (he13 e he)
                    · rw [List.mem_singleton.mp he]; exact .head _
                  case f3 =>
                    dsimp only
                    rw [ways_append, hc13, htk, List.map_append, List.append_assoc]
                    congr 2
                    show [(lst _, lst _)] = [_]
                    rw [en1, ev1]; rfl
                  case mz =>
                    intro z hz
                    obtain ⟨h1, h2, -⟩ := id hz
                    simp only [h1, h2, if_false]
                    rw [fmap_off ?hs hz]
                    case hs => rfl
                · rintro ⟨n13, es13, new13⟩ u13 h13 tk13 ⟨hw13, he13, hc13⟩ F13 N13
                  dsimp only at *
                  clear F12 N12
                  rw [List.take_of_length_le (by unfold entRefs2; rw [ways_len, List.length_map]; exact Nat.le_refl _), hways] at hc13
                  rw [fmap_two] at F13
                  k_steps
                  exact ⟨rfl, _, _, u13, n13, es13, new13, rfl, F13, fun p hp => N13 p (.tail _ hp), hw13, he13, by rw [hc13]; unfold part4; rw [if_pos ⟨hi2, hj2, heq⟩]⟩
              · rename (_ == _) = false => heq
                rename 0 < (i : Int) => hi0
                rename 0 < (j : Int) => hj0
                have hi2 : ¬ (0 < i ∧ 0 < j ∧ (lst one).getD (i - 1) 0 = (lst two).getD (j - 1) 0) := by
                  rintro ⟨a1, a2, a3⟩
                  rw [item_eq a1 hi' a2 hj', decide_eq_false_iff_not] at heq
                  exact heq a3
                exact ⟨rfl, _, _, u5, n5, es5, new5, rfl, F8, N8, hw8, he8, by rw [hc8]; unfold part4; rw [if_neg hi2, List.append_nil]⟩
              · rename ¬ 0 < (j : Int) => hi0
                have hi2 : ¬ (0 < i ∧ 0 < j ∧ (lst one).getD (i - 1) 0 = (lst two).getD (j - 1) 0) := fun h => not_pos hi0 h.2.1
                exact ⟨rfl, _, _, u5, n5, es5, new5, rfl, F8, N8, hw8, he8, by rw [hc8]; unfold part4; rw [if_neg hi2, List.append_nil]⟩
              · rename ¬ 0 < (i : Int) => hi0
                have hi2 : ¬ (0 < i ∧ 0 < j ∧ (lst one).getD (i - 1) 0 = (lst two).getD (j - 1) 0) := fun h => not_pos hi0 h.1
                exact ⟨rfl, _, _, u5, n5, es5, new5, rfl, F8, N8, hw8, he8, by rw [hc8]; unfold part4; rw [if_neg hi2, List.append_nil]⟩
            · clear F8 N8 hw8 he8 hc8
              intro h5 tk5 u5 n5 es5 new5 F8 N8 hw8 he8 hc8
              k_steps
              unfold Hold
              have hx1 : (rows ++ [Value.ref r])[((i : Int)).toNat]? = some (.ref r) := by rw [Int.toNat_natCast, List.getElem?_append_right (Nat.le_of_eq hr1), hr1, Nat.sub_self]; rfl
              k_dflt (refine' item_led N8 (.tail _ (.tail _ (.tail _ (List.mem_append_right _ (.tail _ (.tail _ (.tail _ (.head _)))))))) ?z1 ?z2 hx1 ?_; (case z1 => exact (idx_nat hi3).1); (case z2 => exact (idx_nat hi3).2))
              have N9 : News _ _ _ ((r, W.listOf vals.toArray n2) :: (J, oJ) :: (I, oI) :: (R, W.listOf (rows ++ [Value.ref r]).toArray (n + 1)) :: (x, instObj 182 d) :: (d, dictOf [⟨hs, .str "_headers" t0, .ref l0⟩] n1) :: (l0, W.listOf (entRefs2 es5).toArray n5) :: (new5 ++ nw2)) := fun p hp => N8 p (rot4 hp)
              clear N8
              have hld : @LT.lt Nat _ l0 d := ltd _ (.head _)
              have hdx : @LT.lt Nat _ d x := ltx
              have hz2 := size_of hv1 hj3
              have hlx : @LT.lt Nat _ l0 x := Nat.lt_trans hld hdx
              obtain ⟨lrI, lrR, -⟩ := id lr
              obtain ⟨l0J, l0r, l0I, l0R, -⟩ := id lt0
              have hnr : ∀ p ∈ new5 ++ nw2, p.1 ≠ r := fun p hp => by
                rcases List.mem_append.mp hp with hp | hp
                · exact Nat.ne_of_gt (Nat.lt_trans l0r (hw8 p hp))
                · exact hv4 p hp
              have hnr' : ∀ p ∈ (J, oJ) :: (I, oI) :: (R, W.listOf (rows ++ [Value.ref r]).toArray (n + 1)) :: (x, instObj 182 d) :: (d, dictOf [⟨hs, .str "_headers" t0, .ref l0⟩] n1) :: (l0, W.listOf (entRefs2 es5).toArray n5) :: (new5 ++ nw2), p.1 ≠ r := by
                refine List.forall_mem_cons.mpr ⟨Nat.ne_of_gt hJr, List.forall_mem_cons.mpr ⟨Nat.ne_of_lt lrI, List.forall_mem_cons.mpr ⟨Nat.ne_of_lt lrR, List.forall_mem_cons.mpr ⟨Nat.ne_of_gt (Nat.lt_trans l0r hlx), List.forall_mem_cons.mpr ⟨Nat.ne_of_gt (Nat.lt_trans l0r hld), List.forall_mem_cons.mpr ⟨Nat.ne_of_gt l0r, hnr⟩⟩⟩⟩⟩⟩
              k_steps
              rename Fr _ _ _ _ => F17
              rename News _ _ _ _ => N17
              rw [show vals.toArray.push (Value.ref x) = (vals ++ [Value.ref x]).toArray by simp] at N17
              refine turn_end (vals ++ [Value.ref x], n2 + 1, (x, instObj 182 d) :: (d, dictOf [⟨hs, .str "_headers" t0, .ref l0⟩] n1) :: (l0, W.listOf (entRefs2 es5).toArray n5) :: (new5 ++ nw2)) F17 N17 (.tail _ (.head _)) ?il ?ne ⟨?f1, ?f2, ?f3, ?f4, ?f5, ?f6⟩ trivial ?mz
              case il => exact ⟨.head _, .tail _ (.tail _ (.head _)), .tail _ (.tail _ (.tail _ (.head _))), InLed.of_all fun p hp => .tail _ (.tail _ (.tail _ (.tail _ hp)))⟩
              case ne =>
                refine ⟨hne3.1, hne3.2.1, hne3.2.2.1, Nat.ne_of_gt (Nat.lt_trans l0J hlx), Nat.ne_of_gt (Nat.lt_trans l0J hld), Nat.ne_of_gt l0J, AllNe.of fun p hp => ?_⟩
                rcases List.mem_append.mp hp with hp | hp
                · exact Nat.ne_of_gt (Nat.lt_trans l0J (hw8 p hp))
                · exact hJn.all p hp
              case f1 => dsimp only; rw [List.length_append, hv1]; rfl
              case f2 =>
                intro k v hk
                rcases snoc_at hk with hk | ⟨rfl, rfl⟩
                · exact (hv2 k v hk).mono fun p hp => .tail _ (.tail _ (.tail _ (List.mem_append_right _ hp)))
                · exact ⟨x, d, l0, t0, n1, n5, hs, es5, rfl, ⟨.head _, .tail _ (.head _), .tail _ (.tail _ (.head _)), fun e he => .tail _ (.tail _ (.tail _ (List.mem_append_left _ (he8 e he))))⟩, by rw [hc8, hv1, joinN_parts]⟩
              case f3 => exact fun p hp => .tail _ (.tail _ (.tail _ (List.mem_append_right _ (hv3 p hp))))
              case f4 =>
                intro p hp
                rcases List.mem_cons.mp hp with rfl | hp
                · exact Nat.ne_of_gt (Nat.lt_trans l0r hlx)
                rcases List.mem_cons.mp hp with rfl | hp
                · exact Nat.ne_of_gt (Nat.lt_trans l0r hld)
                rcases List.mem_cons.mp hp with rfl | hp
                · exact Nat.ne_of_gt l0r
                · exact hnr p hp
              case f5 =>
                intro p hp
                rcases List.mem_cons.mp hp with rfl | hp
                · exact Nat.ne_of_gt (Nat.lt_trans l0R hlx)
                rcases List.mem_cons.mp hp with rfl | hp
                · exact Nat.ne_of_gt (Nat.lt_trans l0R hld)
                rcases List.mem_cons.mp hp with rfl | hp
                · exact Nat.ne_of_gt l0R
                rcases List.mem_append.mp hp with hp | hp
                · exact Nat.ne_of_gt (Nat.lt_trans l0R (hw8 p hp))
                · exact hv5 p hp
              case f6 =>
                intro p hp
                rcases List.mem_cons.mp hp with rfl | hp
                · exact Nat.ne_of_gt (Nat.lt_trans l0I hlx)
                rcases List.mem_cons.mp hp with rfl | hp
                · exact Nat.ne_of_gt (Nat.lt_trans l0I hld)
                rcases List.mem_cons.mp hp with rfl | hp
                · exact Nat.ne_of_gt l0I
                rcases List.mem_append.mp hp with hp | hp
                · exact Nat.ne_of_gt (Nat.lt_trans l0I (hw8 p hp))
                · exact hv6 p hp
              case mz =>
                intro z hz
                obtain ⟨h1, h2, h3, h4, -⟩ := id hz
                rw [fmap_off ?hs (show OffL z ["name", "value"] from ⟨h3, h4, trivial⟩)]
                case hs => rfl
                simp only [h1, h2, if_false]
                rw [fmap_off ?hs2 hz]
                case hs2 => rfl
    · rintro ⟨vals, n2, nw2⟩ u2 h₃ tk₃ ⟨hv1, hv2, hv3, hv4, hv5, hv6⟩ F4 N4
      dsimp only at *
      clear F3 N3
      obtain ⟨lrI, lrR, -⟩ := id lr
      k_steps
      refine turn_end (rows ++ [Value.ref r], n + 1, (r, W.listOf vals.toArray n2) :: nw2) (by assumption) (by assumption) (.tail _ (.head _)) ?il ?ne ⟨?f1, ?f2, ?f3⟩ trivial ?mz
      case il => exact ⟨.tail _ (.tail _ (.head _)), .head _, InLed.of_all fun p hp => .tail _ (.tail _ (.tail _ hp))⟩
      case ne => exact ⟨hne.1, Nat.ne_of_gt lrI, AllNe.of hv6⟩
      case f1 => dsimp only; rw [List.length_append, hr1]; rfl
      case f2 =>
        intro k v hk
        rcases snoc_at hk with hk | ⟨rfl, rfl⟩
        · exact (hr2 k v hk).mono fun p hp => .tail _ (hv3 p hp)
        · rw [hr1]
          exact ⟨r, vals, n2, rfl, .head _, hv1, fun j u hu => (hv2 j u hu).mono fun p hp => .tail _ hp⟩
      case f3 =>
        intro p hp
        rcases List.mem_cons.mp hp with rfl | hp
        · exact Nat.ne_of_gt lrR
        · exact hv5 p hp
      case mz =>
        intro z hz
        obtain ⟨h0, h1, h2, h3, h4, -⟩ := id hz
        rw [fmap_off ?hs (show OffL z ["j", "table", "name", "value"] from ⟨h1, h2, h3, h4, trivial⟩)]
        case hs => rfl
        simp only [h0, if_false]
        rw [fmap_off ?hs2 hz]
        case hs2 => rfl
  · rintro ⟨rows, n, nw⟩ u h₂ tk₂ ⟨hr1, hr2, hr3⟩ F2 N2
    dsimp only at *
    clear F1 N1
    k_steps
    unfold Hold
    have hi1 : one.length < rows.length := by rw [hr1]; exact Nat.lt_succ_self _
    obtain ⟨a, vs', k', hv', ha, hvl, hcell⟩ := hr2 one.length _ (List.getElem?_eq_getElem hi1)
    have hx1 : rows.getLast? = some (.ref a) := by rw [List.getLast?_eq_getElem?, hr1, Nat.add_sub_cancel, List.getElem?_eq_getElem hi1, hv']
    k_dflt (refine' last_led N2 (.head _) ?z1 hx1 ?_; (case z1 => rw [hr1]; exact Nat.le_trans (Nat.succ_le_succ hol) (by decide)))
    k_steps
    unfold Hold
    have hj1 : two.length < vs'.length := by rw [hvl]; exact Nat.lt_succ_self _
    obtain ⟨bk', d', l', t0', n1', n2', hs', es', hb', BK, hways⟩ := hcell two.length _ (List.getElem?_eq_getElem hj1)
    have hx2 : vs'.getLast? = some (.ref bk') := by rw [List.getLast?_eq_getElem?, hvl, Nat.add_sub_cancel, List.getElem?_eq_getElem hj1, hb']
    k_dflt (refine' kba_turn (value' := PySem.Expr.Name (PySem.Str.ofString "_") ⟨0, 0, 0, 0⟩) (fun _ => rfl) ?_)
    k_dflt (refine' last_led N2 (.tail _ ha) ?z1 hx2 ?_; (case z1 => rw [hvl]; exact Nat.le_trans (Nat.succ_le_succ htl) (by decide)))
    k_steps
    exact ret _ _ _ _ _ _ _ _ _ nw es' F2.keep (fun p hp => ⟨(N2 p (.tail _ hp)).2.2, (N2 p (.tail _ hp)).1⟩) BK hways
end
end
theorem reset_D13 {M : Model} {A : Around} {E : Value → Shared → Prop} {Q : Flow → Shared → Prop} {s : Shared} {env : Env} (h : Q .next s) : wpAny M A (execs [] env) Q E s := by
  w_top off
  walk1
  w_top off
  exact h
section
theorem grow_all {s : Shared} {h₀ h' : Heap} {L : Addr} {m : Str → Option Value} {news nw : List (Addr × Obj)} (F : Fr h₀ L s.heap m) (N : News h₀ L s.heap news) (st : s.heap.StaysIn h') (hn : ∀ p ∈ nw, s.heap.get? p.1 = none ∧ h'.get? p.1 = some p.2) :
    Fr h₀ L h' m ∧ News h₀ L h' (nw ++ news) := by
  refine ⟨F.keeps st, fun p hp => ?_⟩
  rcases List.mem_append.mp hp with hp | hp
  · obtain ⟨hn, ho⟩ := hn p hp
    refine ⟨ho, fun e => ?_, ?_⟩
    · obtain ⟨oL, _, _, hL, _⟩ := F.ns
      rw [e, hL] at hn; cases hn
    · cases q : h₀.get? p.1 with
      | none => rfl
      | some o => have := F.keep _ _ q; rw [this] at hn; cases hn
  · exact ⟨st _ _ (N p hp).1, (N p hp).2⟩
theorem flat_at {kvs : List (Str × Value)} {c : List (Str × Int)} (hf : FlatPairs PyData.str kvs (kdpD c)) {j : Nat} {k : Str} {x : Value} (hx : kvs[j]? = some (k, x)) : ∃ n t, c[j]? = some (k, n) ∧ x = .int n t := by
  obtain ⟨dv, hd, hfl⟩ := hf.at hx
  unfold kdpD at hd
  rw [List.getElem?_map] at hd
  cases q : c[j]? with
  | none => rw [q] at hd; cases hd
  | some p =>
    rw [q] at hd
    have e := Option.some.inj hd
    obtain ⟨k', n⟩ := p
    have e1 := congrArg Prod.fst e
    have e2 := congrArg Prod.snd e
    dsimp only at e1 e2
    cases e1
    subst e2
    obtain ⟨t, rfl⟩ : ∃ t, x = .int n t := by
      cases hfl {} with
      | int i t => exact ⟨t, rfl⟩
    exact ⟨n, t, rfl, rfl⟩
section
variable {prog : Program} {w : World} {A : Around} {E : Value → Shared → Prop} {s : Shared} {h₀ : Heap} {L : Addr} {m : Str → Option Value} {news : List (Addr × Obj)}
theorem applied_to2 {sl : Addr} {u : Tok} {Q : Int × Int × Nat → Shared → Prop} (hs : s.heap.IsSliceOf sl .none (.int 2 u) .none) (h : Q (0, 1, 2) s) :
    wpAny (model prog w) A (Builtin.Slice.sliceApplied (.ref sl) (pure (5 : Int))) Q E s := by
  obtain ⟨os, hos, hcs, hds⟩ := id hs
  unfold Builtin.Slice.sliceApplied Builtin.Slice.sliceFields
  refine wpAny_bind (wpAny_bind (wpAny_field hos hds (x := .none) rfl (wpAny_bind (wpAny_field hos hds (x := .int 2 u) rfl (wpAny_bind (wpAny_field hos hds (x := .none) rfl (wpAny_pure ?_)))))))
  refine wpAny_bind (slicePart_none ?_)
  show wpAny _ _ (if ((1 : Int) == 0) = true then _ else _) _ _ s
  rw [if_neg (by decide)]
  refine wpAny_bind (slicePart_none (wpAny_bind (slicePart_int (wpAny_bind (wpAny_pure ?_)))))
  exact wpAny_pure h
theorem getItem_two {t sl : Addr} {x0 x1 x2 x3 x4 : Value} {u : Tok} {Q : Value → Shared → Prop} (ht : IsTup s.heap t #[x0, x1, x2, x3, x4]) (hs : s.heap.IsSliceOf sl .none (.int 2 u) .none)
    (h : Q (.ref s.heap.objs.size) { s with heap := s.heap.push { cls := .type "tuple", data := .seq #[x0, x1] } }) : wpAny (model prog w) A (getItem (.ref t) (.ref sl)) Q E s := by
  have hdrop : sizeOk (.seq (#[x0, x1] : Array Value)) := by
    show (2 : Nat) ≤ sizeLine
    rw [sizeLine_eq]; decide
  obtain ⟨os, hos, hcs, hds⟩ := id hs
  have hTs : s.TypeIs (.ref sl) "slice" := ⟨os, hos, hcs⟩
  unfold getItem
  try with_reducible refine wpAny_holding ?_
  first | refine wpAny_bind (wpAny_pure ?_) | skip
  refine wpAny_bind (wpAny_sequenceKey ht.typeIs (by decide) ?_)
  refine wpAny_bind (wpAny_callSpecial?_slot (name := Str.ofString "__getitem__") ht.typeIs slot_tuple_getitem
    (wpAny_call_entry slot_tuple_getitem ht.typeIs entry_tuple_getitem ?_ (args_tuple_getitem _ _)))
  show wpAny _ _ (Builtin.Tuple.tupleItemsOf (.ref t) >>= _) _ _ s
  refine wpAny_bind (tupleItemsOf_ ht ?_)
  refine wpAny_bind (wpAny_typeOf hTs ?_)
  rw [if_pos (by decide)]
  refine wpAny_bind (applied_to2 hs ?_)
  show wpAny _ _ (if ((0 : Int) == 0 && (1 : Int) == 1 && (2 : Nat) == 5) = true then _ else _) _ _ s
  rw [if_neg (by decide)]
  have e : ((List.range 2).filterMap fun (k : Nat) => (#[x0, x1, x2, x3, x4] : Array Value)[((0 : Int) + (k : Int) * 1).toNat]?).toArray = #[x0, x1] := by rfl
  rw [e]
  first
    | exact wpAny_bind (m := Builtin.Tuple.tupleExact _) (wpAny_newObj_type (wpAny_pure ⟨_, rfl, wpAny_pure h⟩) hdrop)
    | exact wpAny_bind (m := Builtin.Tuple.tupleExact _) (wpAny_newObj_type (wpAny_bind (wpAny_pure (wpAny_pure ⟨_, rfl, wpAny_pure h⟩))) hdrop)
    | exact wpAny_bind (wpAny_bind (m := Builtin.Tuple.tupleExact _) (wpAny_newObj_type (wpAny_pure (wpAny_pure ⟨_, rfl, wpAny_pure h⟩)) hdrop))
    | exact wpAny_bind (wpAny_bind (m := Builtin.Tuple.tupleExact _) (wpAny_newObj_type (wpAny_pure ⟨_, rfl, wpAny_pure h⟩) hdrop))
theorem slice_two {value slice : PySem.Expr} {t : Addr} {x0 x1 x2 x3 x4 : Value} {u : Tok} {Q : Value → Shared → Prop}
    (F : Fr h₀ L s.heap m) (N : News h₀ L s.heap news) (hm : (t, ({ cls := .type "tuple", data := .seq #[x0, x1, x2, x3, x4] } : Obj)) ∈ news)
    (h : ∀ D h', Fr h₀ L h' m → News h₀ L h' ((D, ({ cls := .type "tuple", data := .seq #[x0, x1] } : Obj)) :: news) → (∀ p ∈ news, p.1 < D) → Q (.ref D) { s with heap := h' })
    (hs : subscripted slice false (.ref t) (.ref s.heap.objs.size) = operate [.ref s.heap.objs.size, .ref t] (getItem (.ref t) (.ref s.heap.objs.size)))
    (hg : ∀ r, letTemporaryGo value (.ref t) r = pure ()) :
    wpAny (model prog w) A (subscriptTail value slice (.ref t) (.ref s.heap.objs.size)) Q E { s with heap := s.heap.push { cls := .type "slice", data := .fields #[.none, .int 2 u, .none] } } := by
  have ht' : IsTup (s.heap.push { cls := .type "slice", data := .fields #[.none, .int 2 u, .none] }) t #[x0, x1, x2, x3, x4] := ⟨_, Heap.get?_push_of_some _ (N _ hm).1, rfl, _, rfl⟩
  refine subscriptTail_ops (s := { s with heap := s.heap.push { cls := .type "slice", data := .fields #[.none, .int 2 u, .none] } }) ht'.typeIs slot_tuple_getitem.lookup
    (getItem_two ht' (Heap.IsSliceOf.new ..) ?_) hs hg
  have N1 := News.push (F.push { cls := .type "slice", data := .fields #[.none, .int 2 u, .none] }) (N.grown fun _ _ e => Heap.get?_push_of_some _ e) { cls := .type "tuple", data := .seq #[x0, x1] }
  rw [Heap.size_push] at N1
  show Q (.ref (s.heap.push _).objs.size) _
  rw [Heap.size_push]
  exact h _ _ ((F.push _).push _) N1 fun p hp => Nat.lt_succ_of_lt (Heap.lt_size (N p hp).1)
end
section
variable {prog : Program} {w : World} {A : Around} {E : Value → Shared → Prop} {s : Shared} {h₀ : Heap} {L a b : Addr} {m : Str → Option Value} {news : List (Addr × Obj)} {Q : Value → Shared → Prop} {x y x' y' : Int} {t u t' u' : Tok}
theorem pair_ne (hx : x = x') (hy : y = y') (N : News h₀ L s.heap news) (m1 : (a, ({ cls := .type "tuple", data := .seq #[.int x t, .int y u] } : Obj)) ∈ news) (m2 : (b, ({ cls := .type "tuple", data := .seq #[.int x' t', .int y' u'] } : Obj)) ∈ news)
    (hu : A.units + 64 < cLine) (h : Q (.bool false) s) : wpAny (model prog w) A (compareOp .NotEq (.ref a) (.ref b)) Q E s := by
  subst hx hy
  have hs : SeqAt.shaped (.tuple [.int x, .int y]) = true := by rfl
  refine ne_dataH (Reads.tuple (xs := [.int x, .int y]) (N _ m1).1 rfl rfl (ReadsAll.cons (.int _ _) (ReadsAll.cons (.int _ _) .nil))) (Reads.tuple (xs := [.int x, .int y]) (N _ m2).1 rfl rfl (ReadsAll.cons (.int _ _) (ReadsAll.cons (.int _ _) .nil))) hs hs hu ?_
  simpa [PyData.eqv, PyData.eqvAll] using h
theorem pair_eq (hx : x = x') (hy : y = y') (N : News h₀ L s.heap news) (m1 : (a, ({ cls := .type "tuple", data := .seq #[.int x t, .int y u] } : Obj)) ∈ news) (m2 : (b, ({ cls := .type "tuple", data := .seq #[.int x' t', .int y' u'] } : Obj)) ∈ news)
    (hu : A.units + 64 < cLine) (h : Q (.bool true) s) : wpAny (model prog w) A (compareOp .Eq (.ref a) (.ref b)) Q E s := by
  subst hx hy
  have hs : SeqAt.shaped (.tuple [.int x, .int y]) = true := by rfl
  refine eq_dataH (Reads.tuple (xs := [.int x, .int y]) (N _ m1).1 rfl rfl (ReadsAll.cons (.int _ _) (ReadsAll.cons (.int _ _) .nil))) (Reads.tuple (xs := [.int x, .int y]) (N _ m2).1 rfl rfl (ReadsAll.cons (.int _ _) (ReadsAll.cons (.int _ _) .nil))) hs hs hu ?_
  simpa [PyData.eqv, PyData.eqvAll] using h
end
section
variable {w : World} {loose : List Str} {mean : ExcName → Option Value} {mg mb : Str → Option Value} {s : Shared} {dp un : Nat} {fr : List Env} {gd : Option (List Code)} {E Q : Value → Shared → Prop} {h₀ : Heap} {L : Addr} {m : Str → Option Value} {news : List (Addr × Obj)}
theorem drawn_use {l : Addr} {vs : List Value} {ns : List Int} (F : Fr h₀ L s.heap m) (N : News h₀ L s.heap news) (X : (hd.heap_39 w.params).In h₀) (T : Top hd.view_39 loose mean mg mb h₀) (hdp : dp + 40 < recursionLimit) (hun : un + 400 < cLine)
    (hl : h₀.IsList l vs.toArray) (hns : IntsAre vs ns) (hnl : ns.length ≤ 63)
    (ret : ∀ Tp wd one two t1 t2 t3 h' tk, Fr h₀ L h' m → News h₀ L h' ((Tp, tup [.str wd t1, .str one t2, .str two t3]) :: news) → AllNe Tp news → Drawn2 wd one two → Q (.ref Tp) { s with heap := h', toks := tk }) :
    wpAny (model PySem.Challenge.rw_pm0056_02.row.prog w) (amb dp un fr gd) (call (.ref 219) [.ref l]) Q E s :=
  drawn_spec (X.keeps F.keep) (T.keeps F.keep) hdp hun (hl.at fun o e => F.keep l o e) hns hnl fun Tp wd one two t1 t2 t3 h' tk st hn ho hD => by
    obtain ⟨F', N', A'⟩ := new_at F N st hn ho
    exact ret Tp wd one two t1 t2 t3 h' tk F' N' A' hD
theorem scattered_use {wd : Str} {tw : Tok} (F : Fr h₀ L s.heap m) (N : News h₀ L s.heap news) (X : (hd.heap_39 w.params).In h₀) (T : Top hd.view_39 loose mean mg mb h₀) (hdp : dp + 40 < recursionLimit) (hun : un + 400 < cLine) (hwd : wd.length = 4) (ha : Abc wd)
    (ret : ∀ Tp a o kvs h' tk v1 v2 v3 v4, Fr h₀ L h' m → News h₀ L h' ((Tp, tup [.int (scatC wd 4).cc v1, .int (scatC wd 4).nc v2, .int 0 v3, .int 0 v4, .ref a]) :: (a, o) :: news) → AllNe Tp news → AllNe a news → (Tp : Nat) ≠ a → (a == sysModules) = false →
      o.IsDictOf (PySem.strKind PySem.Challenge.rw_pm0056_02.row.prog w) kvs → FlatPairs PyData.str kvs (kdpD (scatC wd 4).cal) → Q (.ref Tp) { s with heap := h', toks := tk }) :
    wpAny (model PySem.Challenge.rw_pm0056_02.row.prog w) (amb dp un fr gd) (call (.ref 226) [.str wd tw]) Q E s :=
  scattered_spec (X.keeps F.keep) (T.keeps F.keep) hdp hun hwd ha fun Tp a o kvs h' tk v1 v2 v3 v4 st hnT hoT hna hoa hne lo hd hf => by
    obtain ⟨F', N', A1, A2⟩ := new_two F N st hnT hoT hna hoa
    exact ret Tp a o kvs h' tk v1 v2 v3 v4 F' N' A1 A2 hne lo hd hf
theorem found_use {wd p : Str} {tw tp : Tok} (F : Fr h₀ L s.heap m) (N : News h₀ L s.heap news) (X : (hd.heap_39 w.params).In h₀) (T : Top hd.view_39 loose mean mg mb h₀) (hdp : dp + 60 < recursionLimit) (hun : un + 600 < cLine) (hwd : wd.length = 4) (hp : 1 ≤ p.length ∧ p.length ≤ 3) (ha : Abc wd) (hpa : Abc p)
    (ret : ∀ D ws n h' tk, Fr h₀ L h' m → News h₀ L h' ((D, W.listOf (List.toArray ws) n) :: news) → AllNe D news → StrsAre ws (foundC wd p (rowsC p.length)) → Q (.ref D) { s with heap := h', toks := tk }) :
    wpAny (model PySem.Challenge.rw_pm0056_02.row.prog w) (amb dp un fr gd) (call (.ref 238) [.str wd tw, .str p tp]) Q E s :=
  found_spec (X.keeps F.keep) (T.keeps F.keep) hdp hun hwd hp ha hpa fun D ws n h' tk st hn ho hs => by
    obtain ⟨F', N', A'⟩ := new_at F N st hn ho
    exact ret D ws n h' tk F' N' A' hs
theorem tally_use {l1 l2 : Addr} {vs1 vs2 : List Value} {fs gs : List Str} (F : Fr h₀ L s.heap m) (N : News h₀ L s.heap news) (X : (hd.heap_39 w.params).In h₀) (T : Top hd.view_39 loose mean mg mb h₀) (hdp : dp + 50 < recursionLimit) (hun : un + 500 < cLine)
    (hl1 : s.heap.IsList l1 vs1.toArray) (hl2 : s.heap.IsList l2 vs2.toArray) (h1 : StrsAre vs1 fs) (h2 : StrsAre vs2 gs) (hz1 : fs.length ≤ 20) (hz2 : gs.length ≤ 20) (hf : ∀ x ∈ fs, x.length = 4 ∧ AbcU x) (hg : ∀ x ∈ gs, x.length = 4 ∧ AbcU x)
    (ret : ∀ Tp a o kvs h' tk v1 v2 v3 v4, Fr h₀ L h' m → News h₀ L h' ((Tp, tup [.int (tallyC fs gs).cc v1, .int (tallyC fs gs).nc v2, .int 0 v3, .int 0 v4, .ref a]) :: (a, o) :: news) → AllNe Tp news → AllNe a news → (Tp : Nat) ≠ a → (a == sysModules) = false →
      o.IsDictOf (PySem.strKind PySem.Challenge.rw_pm0056_02.row.prog w) kvs → FlatPairs PyData.str kvs (kdpD (tallyC fs gs).cal) → Q (.ref Tp) { s with heap := h', toks := tk }) :
    wpAny (model PySem.Challenge.rw_pm0056_02.row.prog w) (amb dp un fr gd) (call (.ref 257) [.ref l1, .ref l2]) Q E s :=
  tally_spec (X.keeps F.keep) (T.keeps F.keep) hdp hun hl1 hl2 h1 h2 hz1 hz2 hf hg fun Tp a o kvs h' tk v1 v2 v3 v4 st hnT hoT hna hoa hne lo hd hf => by
    obtain ⟨F', N', A1, A2⟩ := new_two F N st hnT hoT hna hoa
    exact ret Tp a o kvs h' tk v1 v2 v3 v4 F' N' A1 A2 hne lo hd hf
theorem joined_use {base : Heap} {one two : Str} {t1 t2 : Tok} (B : Below (amb dp un fr gd) base fr s.heap) (F : Fr h₀ L s.heap m) (N : News h₀ L s.heap news) (X : (hd.heap_39 w.params).In h₀) (T : Top hd.view_39 loose mean mg mb h₀) (hdp : dp + 50 < recursionLimit) (hun : un + 500 < cLine)
    (h1 : one.length ≤ 3) (h2 : Abc one) (h3 : two.length ≤ 3) (h4 : Abc two)
    (ret : ∀ h' tk bk d l t0 n1 n2 hs led es, Fr h₀ L h' m → News h₀ L h' (led ++ news) → Book2 bk d l t0 n1 n2 hs es led → ways es = joinN (lst one) (lst two) one.length two.length → (∀ p ∈ led, ∀ q ∈ news, p.1 ≠ q.1) → Q (.ref bk) { s with heap := h', toks := tk }) :
    wpAny (model PySem.Challenge.rw_pm0056_02.row.prog w) (amb dp un fr gd) (call (.ref 245) [.str one t1, .str two t2]) Q E s :=
  joined_spec B (X.keeps F.keep) (T.keeps F.keep) hdp hun h1 h2 h3 h4 fun h' tk bk d l t0 n1 n2 hs led es st hn BK hw => by
    obtain ⟨F', N'⟩ := grow_all F N st hn
    exact ret h' tk bk d l t0 n1 n2 hs led es F' N' BK hw fun p hp q hq e => by have h1 := (hn p hp).1; rw [e, (N q hq).1] at h1; cases h1
end
def KEnd (h₀ : Heap) (L : Addr) (m : Str → Option Value) (s : Shared) (led : List (Addr × Obj)) (J : Value → Prop) (y : Value) (s₂ : Shared) : Prop := ∃ h' tk', s₂ = { s with heap := h', toks := tk' } ∧ Fr h₀ L h' m ∧ News h₀ L h' led ∧ J y
section
variable {prog : Program} {w : World} {A : Around} {h₀ : Heap} {L : Addr} {m : Str → Option Value} {env : Env} {elt : PySem.Expr} {a b : Str} {scope : Scope} {cl : List (Str × Addr)} {s : Shared} {Fin : List Value → List (Addr × Obj) → Prop} {S : List (Addr × Obj) → Prop}
/-- the turns of a comprehension over a dict's pairs, whose elements' makings are let go -/
theorem turnsK {xs : List ((Tok → Value) × Value)} {base : List (Addr × Obj)} (J : Nat → List Value → Prop) (hS : S base)
    (turn : ∀ i p ys (t : Tok) I oI C oC D m₂ h tk (E' : Value → Shared → Prop), xs[i]? = some p → J i ys → LCg.NsObj oC m₂ → m₂ a = some (p.1 t) → m₂ b = some p.2 → Fr h₀ L h m → News h₀ L h ((I, oI) :: (C, oC) :: (D, LCg.lst ys) :: base) →
      wpAny (model prog w) A (eval elt (compEnvC scope cl C env)) (KEnd h₀ L m s ((I, oI) :: (C, oC) :: (D, LCg.lst ys) :: base) fun y => J (i + 1) (ys ++ [y])) E' { s with heap := h, toks := tk })
    (fin : ∀ ys, J xs.length ys → Fin ys base) (h0 : J 0 []) : KcpRest prog w A h₀ L m env elt a b scope cl s S Fin xs [] base := by
  have gen : ∀ r i, xs.drop i = r → i ≤ xs.length → ∀ ys, J i ys → KcpRest prog w A h₀ L m env elt a b scope cl s S Fin r ys base := by
    intro r
    induction r with
    | nil =>
      intro i hd hi ys hJ
      have : i = xs.length := by have := congrArg List.length hd; rw [List.length_drop, List.length_nil] at this; omega
      subst this
      exact KcpRest.nil (fin ys hJ)
    | cons p r ih =>
      intro i hd hi ys hJ
      have hlt : i < xs.length := by have := congrArg List.length hd; rw [List.length_drop, List.length_cons] at this; omega
      have hp : xs[i]? = some p := by
        have := congrArg (fun l => l[0]?) hd
        simpa using this
      have hd' : xs.drop (i + 1) = r := by
        have := congrArg List.tail hd
        simpa using this
      refine KcpRest.cons fun t I oI C oC D m₂ h tk E' hC h1 h2 F N off ne => ?_
      refine wpAny_mono (turn i p ys t I oI C oC D m₂ h tk E' hp hJ hC h1 h2 F N) (fun y s₂ h₂ => ?_) fun _ _ e => e
      obtain ⟨h', tk', rfl, F', N', hJ'⟩ := h₂
      exact ⟨h', tk', base, rfl, F', N', off, hS, ih (i + 1) hd' (by omega) _ hJ'⟩
  exact gen xs 0 rfl (Nat.zero_le _) [] h0
end
/-! ## what the law asks -/
abbrev waysOf (one two : Str) : List Way := joinN (lst one) (lst two) one.length two.length
def cntN (ws : List Way) (l : List Nat) : Nat := (ws.filter fun q => q.1.map lowc == l).length
def weighC (c : List (Str × Int)) (ws : List Way) : Int := (c.map fun p => (cntN ws (lst p.1) : Int) * p.2).sum
abbrev plainC (wd : Str) : List (Str × Int) := (scatC wd 4).cal
abbrev onesC (wd p : Str) : List Str := foundC wd p (rowsC p.length)
structure LawOk (wd one two : Str) : Prop where
  n1 : ((onesC wd one).length : Int) = kdpLook (plainC wd) one 0
  n2 : ((onesC wd two).length : Int) = kdpLook (plainC wd) two 0
  keys : ∀ p ∈ plainC wd, p.1.length ≤ 20 ∧ Abc p.1
  len : (plainC wd).length ≤ 1000
  em : ∀ p ∈ waysOf one two, chaseL (greats one ++ [58] :: greats two) (p.1 ++ 58 :: p.2) = true
  cnt : ∀ x y : Str, (lst x, lst y) ∈ waysOf one two → kdpLook (tallyC (onesC wd one) (onesC wd two)).cal (x ++ Str.ofString ":" ++ y) 0 = kdpLook (plainC wd) (Txt.lower x) 0
  cc : (tallyC (onesC wd one) (onesC wd two)).cc = ((onesC wd one).length : Int)
  nc : (tallyC (onesC wd one) (onesC wd two)).nc = weighC (plainC wd) (waysOf one two)
  sum : sumv (tallyC (onesC wd one) (onesC wd two)).cal = weighC (plainC wd) (waysOf one two)
theorem lower_lst {x : Str} (h : AbcU x) : lst (Txt.lower x) = (lst x).map lowc := low_lst fun c hc => by have := h c hc; omega
theorem cntA_ways {es : List Ent2} (h : ∀ e ∈ es, AbcU e.2.1.1) (x : Str) : cntA es x = cntN (ways es) (lst x) := by
  unfold cntA cntN ways
  rw [List.filter_map, List.length_map]
  congr 1
  refine List.filter_congr fun e he => ?_
  show (Txt.lower e.2.1.1 == x) = ((lst e.2.1.1).map lowc == lst x)
  rw [← lower_lst (h e he), Bool.eq_iff_iff, beq_iff_eq, beq_iff_eq]
  exact ⟨fun e => e ▸ rfl, fun e => lst_inj e⟩
theorem weigh_succ {c : List (Str × Int)} {ws : List Way} {i : Nat} {k : Str} {x : Int} (h : c[i]? = some (k, x)) : (c.take (i + 1)).map (fun p => (cntN ws (lst p.1) : Int) * p.2) = (c.take i).map (fun p => (cntN ws (lst p.1) : Int) * p.2) ++ [(cntN ws (lst k) : Int) * x] := by
  rw [take_snoc h, List.map_append]; rfl
theorem rows_small : ∀ k, k ≤ 3 → (rowsC k).length ≤ 20 := by decide
theorem found_ok {wd p : Str} (hw : wd.length = 4) (ha : Abc wd) (hp : p.length ≤ 3) : (onesC wd p).length ≤ 20 ∧ ∀ x ∈ onesC wd p, x.length = 4 ∧ AbcU x := by
  refine ⟨?_, fun x hx => ?_⟩
  · unfold onesC foundC
    rw [List.length_map]
    exact Nat.le_trans (List.length_filter_le _ _) (rows_small _ hp)
  · obtain ⟨row, -, rfl⟩ := List.mem_map.mp hx
    have e : lst (strOf (markL wd row)) = markL wd row := rfl
    refine ⟨by rw [← lst_len, e]; unfold markL; rw [List.length_map, List.length_range], fun c hc => ?_⟩
    rw [e] at hc
    obtain ⟨k, hk, rfl⟩ := List.mem_map.mp hc
    have := ha _ (chr_mem (x := wd) (k := k) (by have := List.mem_range.mp hk; omega))
    split <;> omega
theorem colon_lst : lst (Str.ofString ":") = [58] := by decide
theorem dotted_flat : ∀ (a : List (List Nat)) (x : List Nat), dotted (x :: (a ++ [[]])) = x ++ ((a.map fun p => [46, 46, 46] ++ p).flatten ++ [46, 46, 46])
  | [], x => by simp [dotted]
  | p :: r, x => by
    show x ++ [46, 46, 46] ++ dotted (p :: (r ++ [[]])) = _
    rw [dotted_flat r p]
    simp [List.append_assoc]
theorem dotted_pair (a b : List (List Nat)) : dotted ([] :: (a ++ [[]])) ++ [58] ++ dotted ([] :: (b ++ [[]])) = dotted ([] :: ((a ++ [58] :: b) ++ [[]])) := by
  rw [dotted_flat, dotted_flat, dotted_flat]
  simp [List.append_assoc]
theorem News.tail2 {h₀ h : Heap} {L : Addr} {x y : Addr × Obj} {r : List (Addr × Obj)} (N : News h₀ L h (x :: y :: r)) : News h₀ L h r := fun p hp => N p (.tail _ (.tail _ hp))
theorem greats_len (p : List Nat) : (((p.map fun c => [c - 32]).map fun q => [46, 46, 46] ++ q).flatten).length = 4 * p.length := by
  induction p with
  | nil => rfl
  | cons c r ih => simp only [List.map_cons, List.flatten_cons, List.length_append, List.length_cons, List.length_nil] at *; omega
theorem pattern_len {P p : Str} (h : lst P = dotted ([] :: (greats p ++ [[]]))) (hp : p.length ≤ 3) : P.length ≤ 20 := by
  have := congrArg List.length h
  rw [dotted_flat, lst_len] at this
  unfold greats at this
  simp only [List.length_append, greats_len, List.length_nil, List.length_cons, lst_len] at this
  omega
theorem lower_any {prog : Program} {w : World} {A : Around} {E : Value → Shared → Prop} {s : Shared} {x : Str} {t : Tok} {Q : Value → Shared → Prop} (hl : x.length ≤ 20) (h : Q (.str (Txt.lower x) s.toks) { s with toks := s.toks + 1 }) : wpAny (model prog w) A (call (.builtin "str.lower") [.str x t]) Q E s :=
  SCL.lower (by omega) fun _ => h
theorem ways_mem {es : List Ent2} {ws : List Way} (h : ways es = ws) {e : Ent2} (he : e ∈ es) : (lst e.2.1.1, lst e.2.2.1) ∈ ws := by
  rw [← h]; exact List.mem_map.mpr ⟨e, he, rfl⟩
theorem mid_lst (l : List (List Nat)) : (l.map strOf).map lst = l := by
  rw [List.map_map]
  conv => rhs; rw [← List.map_id l]
  rfl
theorem rot8 {α : Type} {a1 a2 a3 a4 a5 a6 a7 c : α} {led : List α} {p : α} (h : p ∈ c :: a1 :: a2 :: a3 :: a4 :: a5 :: a6 :: a7 :: led) : p ∈ led ++ [a1, a2, a3, a4, a5, a6, a7, c] := by
  simp only [List.mem_cons, List.mem_append, List.not_mem_nil, or_false] at h ⊢
  rcases h with h | h | h | h | h | h | h | h | h <;> simp [h]
end
theorem reset_D14 {M : Model} {A : Around} {E : Value → Shared → Prop} {Q : Flow → Shared → Prop} {s : Shared} {env : Env} (h : Q .next s) : wpAny M A (execs [] env) Q E s := by
  w_top off
  walk1
  w_top off
  exact h
section
section
local macro_rules | `(tactic| k_qdec) => `(tactic| decide +kernel)
local macro_rules | `(tactic| walk_at "call ref") => `(tactic| (refine hold_in ?_))
local macro_rules | `(tactic| walk_at "compareOp NotEq ref ref") => `(tactic| (refine hold_in ?_))
local macro_rules | `(tactic| walk_at "compareOp Eq ref ref") => `(tactic| (refine hold_in ?_))
local macro_rules | `(tactic| walk_at "subscriptTail") => `(tactic| (k_here; (with_reducible show wpAny _ _ (subscriptTail _ (PySem.Expr.Slice _ _ _ _) _ _) _ _ _); (refine hold_in ?_)))
local macro_rules | `(tactic| walk_at "eval ListComp") => `(tactic| (refine hold_in ?_))
local macro_rules | `(tactic| walk_at "compareOp NotEq int int") => `(tactic| (refine hold_in ?_))
local macro_rules | `(tactic| walk_at "call builtin:str.lower") => `(tactic| (k_here; (with_reducible show wpAny _ _ (call (Value.builtin "str.lower") [Value.str _ _]) _ _ _); k_dflt (refine lower_any (by omega) ?_)))
local macro_rules | `(tactic| walk_at "call builtin:sum") => `(tactic| (refine hold_in ?_))
theorem law_room : callerA.depth + 1 + 80 < recursionLimit ∧ callerA.units + 3 + 800 < cLine := by constructor <;> decide +kernel
theorem room_d {k : Nat} (h : k ≤ 80) : callerA.depth + 1 + k < recursionLimit := Nat.lt_of_le_of_lt (Nat.add_le_add_left h _) law_room.1
theorem room_u {k : Nat} (h : k ≤ 800) : callerA.units + 3 + k < cLine := Nat.lt_of_le_of_lt (Nat.add_le_add_left h _) law_room.2
theorem law_walk (pure_law : ∀ wd one two, Drawn2 wd one two → LawOk wd one two) : PySem.Challenge.rw_pm0056_02.Holds := hd (by
  k_go0
  all_goals try k_fold
  k_steps
  unfold Hold
  rename Fr _ _ _ _ => F
  rename IntsAre _ _ => hI
  rename Heap.IsList _ _ _ => hL
  rename Shared => s₁
  rename Frag.In _ _ => KX
  rename Top _ _ _ _ _ _ => T
  rename Below _ _ _ _ => K0
  rename ¬ _ < _ => hlen
  rename_i wc o1 N0 X0
  clear X0
  k_dflt (refine' drawn_use F N0 KX T ?hdp ?hun hL hI ?hnl ?_)
  case hdp => exact room_d (by decide)
  case hun => exact room_u (by decide)
  case hnl => omega
  intro Tp wd one two t1 t2 t3 h2 tk2 F2 N2 A2 hD
  clear F N0
  k_steps
  unfold Hold
  rename Fr _ _ _ _ => F
  rename News _ _ _ _ => N
  have LA := pure_law wd one two hD
  k_dflt (refine' scattered_use F N KX T ?hdp ?hun hD.wlen hD.wabc ?_)
  case hdp => exact room_d (by decide)
  case hun => exact room_u (by decide)
  intro Te a o kvs h3 tk3 v1 v2 v3 v4 F3 N3 A3 B3 hTa hlo hdz hfz
  clear F N
  k_steps
  unfold Hold
  rename Fr _ _ _ _ => F
  rename News _ _ _ _ => N
  k_dflt (refine' found_use F N KX T ?hdp ?hun hD.wlen (by have := hD.olen; omega) hD.wabc hD.oabc ?_)
  case hdp => exact room_d (by decide)
  case hun => exact room_u (by decide)
  intro D1 ws1 n1 h4 tk4 F4 N4 A4 hs1
  clear F N
  k_steps
  unfold Hold
  rename Fr _ _ _ _ => F
  rename News _ _ _ _ => N
  k_dflt (refine' found_use F N KX T ?hdp ?hun hD.wlen (by have := hD.tlen; omega) hD.wabc hD.tabc ?_)
  case hdp => exact room_d (by decide)
  case hun => exact room_u (by decide)
  intro D2 ws2 n2 h5 tk5 F5 N5 A5 hs2
  clear F N
  have fok1 := found_ok hD.wlen hD.wabc (show one.length ≤ 3 by have := hD.olen; omega)
  have fok2 := found_ok hD.wlen hD.wabc (show two.length ≤ 3 by have := hD.tlen; omega)
  have hl1 : ws1.length = (onesC wd one).length := hs1.length
  have hl2 : ws2.length = (onesC wd two).length := hs2.length
  have hz1 : ws1.length ≤ 20 := by have := fok1.1; omega
  have hz2 : ws2.length ≤ 20 := by have := fok2.1; omega
  have hsz1 : ws1.toArray.size = (onesC wd one).length := by rw [List.size_toArray, hl1]
  have hsz2 : ws2.toArray.size = (onesC wd two).length := by rw [List.size_toArray, hl2]
  have hft1 : (onesC wd one).length < 2 ^ 62 := by omega
  have hft2 : (onesC wd two).length < 2 ^ 62 := by omega
  k_steps
  unfold Hold
  rename Fr _ _ _ _ => F
  rename News _ _ _ _ => N
  k_dflt (refine' pair_ne LA.n1 LA.n2 N (.tail _ (.head _)) (.head _) ?hu ?_)
  case hu => exact room_u (by decide)
  have N6 := News.tail2 N
  clear N
  k_steps
  unfold Hold
  rename Fr _ _ _ _ => F
  k_dflt (refine' tally_use F N6 KX T ?hdp ?hun ⟨_, (N6 _ (.tail _ (.head _))).1, rfl, _, rfl⟩ ⟨_, (N6 _ (.head _)).1, rfl, _, rfl⟩ hs1 hs2 fok1.1 fok2.1 fok1.2 fok2.2 ?_)
  case hdp => exact room_d (by decide)
  case hun => exact room_u (by decide)
  intro Tt a2 o2 kvs2 h7 tk7 w1 w2 w3 w4 F7 N7 A7 B7 hTa2 hlo2 hdz2 hfz2
  clear F N6
  k_steps
  unfold Hold
  rename Fr _ _ _ _ => F
  rename News _ _ _ _ => N
  k_dflt (refine' joined_use (pushX K0 F rfl rfl) F N KX T ?hdp ?hun (by have := hD.olen; omega) hD.oabc (by have := hD.tlen; omega) hD.tabc ?_)
  case hdp => exact room_d (by decide)
  case hun => exact room_u (by decide)
  intro h8 tk8 x d l t0 m1 m2 hs led es F8 N8 BK hw hnl
  clear F N
  obtain ⟨R0, hR0⟩ : ∃ R0, R0 = (Tt, tup [.int (tallyC (onesC wd one) (onesC wd two)).cc w1, .int (tallyC (onesC wd one) (onesC wd two)).nc w2, .int 0 w3, .int 0 w4, .ref a2]) :: (a2, o2) :: (D2, W.listOf ws2.toArray n2) :: (D1, W.listOf ws1.toArray n1) :: (Te, tup [.int (scatC wd 4).cc v1, .int (scatC wd 4).nc v2, .int 0 v3, .int 0 v4, .ref a]) :: (a, o) :: (Tp, tup [.str wd t1, .str one t2, .str two t3]) :: led := ⟨_, rfl⟩
  have N8' : News s₁.heap s₁.heap.objs.size h8 ((s₁.heap.objs.size + 1, wc) :: R0) := by subst hR0; exact fun p hp => N8 p (rot8 hp)
  have hall : ∀ p ∈ R0, p.1 ≠ s₁.heap.objs.size + 1 := by
    intro p hp
    rw [hR0] at hp
    rcases List.mem_cons.mp hp with rfl | hp
    · exact A7.2.2.2.2.2.1.symm
    rcases List.mem_cons.mp hp with rfl | hp
    · exact B7.2.2.2.2.2.1.symm
    rcases List.mem_cons.mp hp with rfl | hp
    · exact A5.2.2.2.2.1.symm
    rcases List.mem_cons.mp hp with rfl | hp
    · exact A4.2.2.2.1.symm
    rcases List.mem_cons.mp hp with rfl | hp
    · exact A3.2.1.symm
    rcases List.mem_cons.mp hp with rfl | hp
    · exact B3.2.1.symm
    rcases List.mem_cons.mp hp with rfl | hp
    · exact A2.1.symm
    · exact hnl p hp _ (.tail _ (.tail _ (.tail _ (.tail _ (.tail _ (.tail _ (.tail _ (.head _))))))))
  clear N8
  k_steps
  unfold Hold
  rename Fr _ _ _ _ => F
  rename News _ _ _ _ => N
  k_dflt (refine' pattern_use F N KX T ?hdp ?hun (by have := hD.olen; omega) hD.oabc ?_)
  case hdp => exact room_d (by decide)
  case hun => exact room_u (by decide)
  intro P1 tp1 h9 tk9 F9 N9 hP1
  have hp1 := pattern_len hP1 (by have := hD.olen; omega)
  have hcl : (Str.ofString ":").length = 1 := rfl
  clear F N
  k_steps
  unfold Hold
  rename Fr _ _ _ _ => F
  rename News _ _ _ _ => N
  k_dflt (refine' pattern_use F N KX T ?hdp ?hun (by have := hD.tlen; omega) hD.tabc ?_)
  case hdp => exact room_d (by decide)
  case hun => exact room_u (by decide)
  intro P2 tp2 h10 tk10 F10 N10 hP2
  have hp2 := pattern_len hP2 (by have := hD.tlen; omega)
  clear F N
  subst hR0
  obtain ⟨b1, b2, b3, b4⟩ := id BK
  have hsm := joinN_small hD.oabc hD.tabc (Nat.le_refl one.length) (Nat.le_refl two.length) (by have := hD.olen; have := hD.tlen; omega)
  have hel : es.length ≤ 1000 := by have := hsm.1; rw [← hw, ways_len] at this; omega
  k_steps
  unfold Hold
  rename Fr _ _ _ _ => F
  rename News _ _ _ _ => N
  k_dflt (refine' items_use F N KX T ?hdp ?hun (BK.mono fun p hp => .tail _ (.tail _ (.tail _ (.tail _ (.tail _ (.tail _ (.tail _ (.tail _ hp)))))))) hel ?_)
  case hdp => exact room_d (by decide)
  case hun => exact room_u (by decide)
  intro h11 tk11 Di ltD F11 N11
  clear F N
  k_steps
  unfold Hold
  rename Fr _ _ _ _ => F
  rename News _ _ _ _ => N
  refine it_list (vs := entRefs2 es) (σ := Unit) (keep := [_]) (fun _ => _) (fun _ => []) (fun _ _ => True) ["name", "value", "line"] rfl (list_led N (.head _)) (src_news N (.head _)) F N (fun _ => ⟨.head _, trivial⟩) ⟨(), rfl, trivial, trivial⟩ ?_ ?_
  · rintro I2 k ⟨⟩ v u13 h13 tk13 oI2 hv - hlt13 hne13 F13 N13
    clear N
    obtain ⟨e, hek, rfl⟩ := entRefs2_at hv
    have hem : e ∈ es := List.mem_of_getElem? hek
    have hwk := ways_mem hw hem
    have hwo := hsm.2 _ hwk
    have b5 := b4 e hem
    obtain ⟨ea, ⟨en, et1⟩, ev, et2⟩ := e
    dsimp only at *
    have htup : IsTup h13 ea #[.str en et1, .str ev et2] := ⟨_, (N13 _ (.tail _ (.tail _ (.tail _ (.tail _ (.tail _ (.tail _ (.tail _ (.tail _ (.tail _ (.tail _ b5))))))))))).1, rfl, _, rfl⟩
    have hnl1 : en.length ≤ 6 := by rw [← lst_len]; exact hwo.1.1
    have hvl1 : ev.length ≤ 6 := by rw [← lst_len]; exact hwo.2.1
    k_steps
    unfold Hold
    rename Fr _ _ _ _ => F14
    rename News _ _ _ _ => N14
    have hch : chaseL (((greats one ++ [58] :: greats two).map strOf).map lst) (lst (en ++ Str.ofString ":" ++ ev)) = true := by rw [mid_lst, lst_append, lst_append, colon_lst, List.append_assoc]; exact LA.em _ hwk
    have hmids : ∀ q ∈ greats one ++ [58] :: greats two, q.length = 1 ∧ 46 ∉ q := by
      have hg : ∀ p : Str, Abc p → ∀ q ∈ greats p, q.length = 1 ∧ 46 ∉ q := fun p hp q hq => by
        obtain ⟨c, hc, rfl⟩ := List.mem_map.mp hq
        refine ⟨rfl, fun h => ?_⟩
        have := List.mem_singleton.mp h
        rcases hp c hc with e | e | e <;> omega
      intro q hq
      rcases List.mem_append.mp hq with hq | hq
      · exact hg one hD.oabc q hq
      rcases List.mem_cons.mp hq with rfl | hq
      · exact ⟨rfl, by decide⟩
      · exact hg two hD.tabc q hq
    have hgl : (greats one ++ [58] :: greats two).length ≤ 100 := by
      unfold greats
      rw [List.length_append, List.length_cons, List.length_map, List.length_map, lst_len, lst_len]
      have := hD.olen
      have := hD.tlen
      omega
    k_dflt (refine' em_mid_use (mid := (greats one ++ [58] :: greats two).map strOf) F14 N14 KX T ?e1 ?e2 ?e3 ?e4 ?e5 ?e6 ?e7 ?e8 ?_)
    case e1 => exact room_d (by decide)
    case e2 => exact room_u (by decide)
    case e3 => omega
    case e4 => omega
    case e5 => rw [List.length_map]; exact hgl
    case e6 =>
      intro x hx
      obtain ⟨q, hq, rfl⟩ := List.mem_map.mp hx
      have : (strOf q).length = q.length := (lst_len _).symm
      have := (hmids q hq).1
      omega
    case e7 =>
      intro x hx
      obtain ⟨q, hq, rfl⟩ := List.mem_map.mp hx
      exact (hmids q hq).2
    case e8 => rw [lst_append, lst_append, colon_lst, hP1, hP2, mid_lst]; exact dotted_pair _ _
    intro h15 tk15 F15 N15
    rw [hch]
    clear N14
    have hcnt : kdpLook (tallyC (foundC wd one (rowsC one.length)) (foundC wd two (rowsC two.length))).cal (en ++ Str.ofString ":" ++ ev) 0 = kdpLook (scatC wd 4).cal (Txt.lower en) 0 := LA.cnt en ev hwk
    k_steps
    unfold Hold
    k_dflt (refine ne_int ?_)
    rw [hcnt, bne_self_eq_false]
    k_steps
    refine turn_end () (by assumption) (by assumption) (.head _) (InLed.of_all fun p hp => .tail _ hp) hne13 trivial trivial ?mz
    case mz =>
      intro z hz
      obtain ⟨h1, h2, h3, -⟩ := id hz
      simp only [h1, h2, h3, if_false]
      rw [fmap_off ?hs hz]
      case hs => rfl
  · rintro ⟨⟩ u13 h13 tk13 - F13 N13
    clear N
    k_steps
    unfold Hold
    k_dflt (refine' kcp_ListComp (PySem.strKind _ _) F13 ?a3 ?a4 ?a5 ?a6 ?a7 ?a8 ?a9 ?_ ?a10; (case a3 => with_unfolding_all rfl); (case a4 => decide); (case a5 => rfl); (case a6 => decide); (case a7 => rfl); (case a8 => rfl); (case a9 => decide); (case a10 => intro _; rfl))
    k_steps
    rename Fr _ _ _ _ => F20
    rename News _ _ _ _ => N20
    have hkl : kvs.length = (plainC wd).length := by rw [← hfz.length, kdpD_length]
    have hkz : kvs.length ≤ sizeLine := by have := LA.len; rw [sizeLine_eq]; omega
    refine KcpSrc.intro (kvs := kvs) (enc := PyData.str) rfl F20 N20 ⟨_, (N20 _ (.head _)).1, rfl, rfl⟩ (.tail _ (.tail _ (.tail _ (.tail _ (.tail _ (.tail _ (.tail _ (.tail _ (.head _))))))))) hdz hkz (fun _ _ h => Value.isStrOf_shape h) rfl ?_
    intro g
    refine turnsK (fun i ys => IntsAre ys (((plainC wd).take i).map fun p => (cntN (waysOf one two) (lst p.1) : Int) * p.2)) (.inr ⟨o, .tail _ (.tail _ (.tail _ (.tail _ (.tail _ (.tail _ (.tail _ (.tail _ (.head _)))))))), rfl, 0, rfl⟩) ?_ ?_ .nil
    · intro i p ys t I oI C oC D m₂ h21 tk21 E' hp hJ hC ha hb F21 N21
      rw [List.getElem?_map] at hp
      obtain ⟨⟨ky, xv⟩, hkx, rfl⟩ := Option.map_eq_some_iff.mp hp
      obtain ⟨nv, tv, hcx, rfl⟩ := flat_at hfz hkx
      have ha' : m₂ (PySem.Str.ofString "text") = some (.str ky t) := ha
      have hb' : m₂ (PySem.Str.ofString "often") = some (.int nv tv) := hb
      clear ha hb hp F20 N20
      obtain ⟨hk1, hk2⟩ := LA.keys _ (List.mem_of_getElem? hcx)
      dsimp only at hk1 hk2
      have hca : cntA es ky = cntN (waysOf one two) (lst ky) := by rw [cntA_ways (fun e he => (hsm.2 _ (ways_mem hw he)).1.2) ky, hw]
      k_steps
      unfold Hold
      k_dflt (refine' get_all_use F21 N21 KX T ?hdp ?hun (BK.mono fun p hp => .tail _ (.tail _ (.tail _ (.tail _ (.tail _ (.tail _ (.tail _ (.tail _ (.tail _ (.tail _ (.tail _ (.tail _ (.tail _ hp))))))))))))) hel hk1 hk2 ?hnm ?_)
      case hdp => exact room_d (by decide)
      case hun => exact room_u (by decide)
      case hnm => intro e he; have := (hsm.2 _ (ways_mem hw he)).1.1; rw [lst_len] at this; omega
      intro h22 tk22 D22 vs22 n22 F22 N22 hv22
      have hsz22 : vs22.toArray.size = cntA es ky := by rw [List.size_toArray, hv22]
      have hft22 : cntA es ky < 2 ^ 62 := by
        have := List.length_filter_le (fun e : Ent2 => Txt.lower e.2.1.1 == ky) es
        unfold cntA
        omega
      clear F21 N21
      k_steps
      refine ⟨_, _, rfl, F22, fun p hp => N22 p (.tail _ hp), ?_⟩
      dsimp only
      rw [weigh_succ hcx, ← hca]
      exact ints_snoc hJ _ _
    · intro ys hys D h21 tk21 F21 N21 o21
      clear F20 N20
      dsimp only
      rw [List.length_map, hkl, List.take_length] at hys
      k_steps
      unfold Hold
      rename Fr _ _ _ _ => F23
      rename News _ _ _ _ => N23
      k_dflt (refine' LSm.sum_ints F23 N23 rfl ⟨_, (N23 _ (.head _)).1, rfl, _, rfl⟩ hys ?_)
      intro h24 tk24 t24 F24 N24
      have hnc : (tallyC (onesC wd one) (onesC wd two)).nc = (List.map (fun p => (cntN (waysOf one two) (lst p.1) : Int) * p.2) (plainC wd)).sum := LA.nc
      have hsu : sumv (tallyC (onesC wd one) (onesC wd two)).cal = (List.map (fun p => (cntN (waysOf one two) (lst p.1) : Int) * p.2) (plainC wd)).sum := LA.sum
      simp only [tup] at N24
      clear N23
      k_steps
      unfold Hold
      rename Fr _ _ _ _ => F25
      rename News _ _ _ _ => N25
      k_dflt (refine' slice_two F25 N25 (.tail _ (.tail _ (.tail _ (.tail _ (.head _))))) ?_ ?hs ?hg)
      case hs => with_unfolding_all rfl
      case hg => intro _; with_unfolding_all rfl
      intro D8 h26 F26 N26 l26
      clear N25
      k_steps
      unfold Hold
      rename Fr _ _ _ _ => F27
      rename News _ _ _ _ => N27
      k_dflt (refine' pair_eq LA.cc hnc N27 (.tail _ (.head _)) (.head _) ?hu ?_)
      case hu => exact room_u (by decide)
      k_steps
      unfold Hold
      k_dflt (refine' count_calls_use F27 N27 KX T ?hdp ?hun (TabAt.ofNews N27 (.tail _ (.tail _ (.tail _ (.tail _ (.tail _ (.tail _ (.tail _ (.head _)))))))) hlo2 hdz2 hfz2) ?_)
      case hdp => exact room_d (by decide)
      case hun => exact room_u (by decide)
      intro h28 tk28 t28 F28 N28
      rw [hsu]
      clear N27
      k_steps)
end
end
theorem reset_D15 {M : Model} {A : Around} {E : Value → Shared → Prop} {Q : Flow → Shared → Prop} {s : Shared} {env : Env} (h : Q .next s) : wpAny M A (execs [] env) Q E s := by
  w_top off
  walk1
  w_top off
  exact h
section
namespace PT
abbrev W := List Nat
abbrev C := List (W × Int)
def eqL : W → W → Bool
  | [], [] => true
  | a :: r, b :: s => Nat.beq a b && eqL r s
  | _, _ => false
def put (c : C) (k : W) (v : Int) : C := if c.any (fun p => eqL p.1 k) then c.map (fun p => if eqL p.1 k then (p.1, v) else p) else c ++ [(k, v)]
def look : C → W → Int
  | [], _ => 0
  | (k, v) :: r, x => if eqL k x then v else look r x
def copy (c : C) : C := c.foldl (fun a p => put a p.1 p.2) []
def add (a c : C) : C := c.foldl (fun a p => put a p.1 (look a p.1 + p.2)) a
def sumv (c : C) : Int := (c.map (·.2)).sum
def long (c : C) (s : W) : C := c.foldl (fun a p => put a (p.1 ++ s) p.2) []
def scat (w : W) : Nat → C
  | 0 => [([], 1)]
  | k + 1 => add (copy (scat w k)) (long (scat w k) [w.getD k 0])
/-- does it lie scattered in the other -/
def sub : W → W → Bool
  | [], _ => true
  | _ :: _, [] => false
  | a :: r, b :: s => if Nat.beq a b then sub r s else sub (a :: r) s
def mark : W → List Bool → W
  | c :: w, b :: m => (if b then c + 3 else c) :: mark w m
  | _, _ => []
def masks2 : List (List Bool) := [[true, true, false, false], [true, false, true, false], [true, false, false, true], [false, true, true, false], [false, true, false, true], [false, false, true, true]]
def masks3 : List (List Bool) := [[true, true, true, false], [true, true, false, true], [true, false, true, true], [false, true, true, true]]
def found (w p : W) (ms : List (List Bool)) : List W := (ms.map (mark w)).filter fun g => sub (p.map (· + 3)) g
def keep : W → W → W
  | x :: a, y :: b => if Nat.ble 3 x || Nat.ble 3 y then x :: keep a b else keep a b
  | _, _ => []
def pair (a b : W) : W := keep a b ++ 6 :: keep b a
structure S where
  nc : Int
  cal : C
def src (f : W) (gs : List W) : C := gs.foldl (fun c g => put c (pair f g) (look c (pair f g) + 1)) []
def step (gs : List W) (q : S) (f : W) : S := ⟨(gs.length : Int) + q.nc, add (copy q.cal) (src f gs)⟩
def tally (fs gs : List W) : S := fs.foldl (step gs) ⟨0, []⟩
abbrev Way := W × W
def wayA (a : W) (i : Nat) (p : Way) : Way := (p.1 ++ [a.getD i 0 + 3], p.2 ++ [a.getD i 0])
def wayB (b : W) (j : Nat) (p : Way) : Way := (p.1 ++ [b.getD j 0], p.2 ++ [b.getD j 0 + 3])
def wayC (a b : W) (i j : Nat) (p : Way) : Way := (p.1 ++ [a.getD i 0 + 3], p.2 ++ [b.getD j 0 + 3])
def join0 (b : W) : Nat → List Way
  | 0 => [([], [])]
  | j + 1 => (join0 b j).map (wayB b j)
def joinS (a b : W) (i : Nat) (prev : Nat → List Way) : Nat → List Way
  | 0 => (prev 0).map (wayA a i)
  | j + 1 => (prev (j + 1)).map (wayA a i) ++ ((joinS a b i prev j).map (wayB b j) ++ if Nat.beq (a.getD i 0) (b.getD j 0) then (prev j).map (wayC a b i j) else [])
def joinW (a b : W) : Nat → Nat → List Way
  | 0 => join0 b
  | i + 1 => joinS a b i (joinW a b i)
def low (c : Nat) : Nat := if Nat.ble 3 c then c - 3 else c
def sumL (pl : C) (ws : List Way) : Int := (ws.map fun p => look pl (p.1.map low)).sum
def words : Nat → List W
  | 0 => [[]]
  | n + 1 => (words n).flatMap fun w => [0 :: w, 1 :: w, 2 :: w]
def core (pl : C) (ws : List Way) (t : S) : Bool :=
  (ws.all fun p => look t.cal (p.1 ++ 6 :: p.2) == look pl (p.1.map low)) && (t.nc == sumL pl ws) && (sumv t.cal == sumL pl ws)
def tri (w a b : W) (mb : List (List Bool)) : Bool := core (scat w 4) (joinW a b a.length b.length) (tally (found w a masks2) (found w b mb))
def nod : C → Bool
  | [] => true
  | p :: r => !(r.any fun q => eqL p.1 q.1) && nod r
def small (w a : W) (ms : List (List Bool)) : Bool := ((found w a ms).length == look (scat w 4) a) && (!(found w a ms).isEmpty || !sub a w)
def wordOk (w : W) : Bool :=
  ((words 2).all fun a => (found w a masks2).isEmpty || (((words 2).all fun b => (found w b masks2).isEmpty || tri w a b masks2) && ((words 3).all fun b => (found w b masks3).isEmpty || tri w a b masks3))) &&
  ((words 2).all fun a => small w a masks2) && ((words 3).all fun a => small w a masks3) && ((scat w 4).all fun p => sub p.1 w) && nod (scat w 4)
def canon : Nat → List (W × Nat)
  | 0 => [([], 0)]
  | n + 1 => (canon n).flatMap fun p => (List.range (min (p.2 + 1) 3)).map fun c => (p.1 ++ [c], max p.2 (c + 1))
theorem canon_0 : wordOk [0, 0, 0, 0] = true := by decide +kernel
theorem canon_1 : wordOk [0, 0, 0, 1] = true := by decide +kernel
theorem canon_2 : wordOk [0, 0, 1, 0] = true := by decide +kernel
theorem canon_3 : wordOk [0, 0, 1, 1] = true := by decide +kernel
theorem canon_4 : wordOk [0, 0, 1, 2] = true := by decide +kernel
theorem canon_5 : wordOk [0, 1, 0, 0] = true := by decide +kernel
theorem canon_6 : wordOk [0, 1, 0, 1] = true := by decide +kernel
theorem canon_7 : wordOk [0, 1, 0, 2] = true := by decide +kernel
theorem canon_8 : wordOk [0, 1, 1, 0] = true := by decide +kernel
theorem canon_9 : wordOk [0, 1, 1, 1] = true := by decide +kernel
theorem canon_10 : wordOk [0, 1, 1, 2] = true := by decide +kernel
theorem canon_11 : wordOk [0, 1, 2, 0] = true := by decide +kernel
theorem canon_12 : wordOk [0, 1, 2, 1] = true := by decide +kernel
theorem canon_13 : wordOk [0, 1, 2, 2] = true := by decide +kernel
theorem canon_words : (canon 4).map (·.1) = [[0, 0, 0, 0], [0, 0, 0, 1], [0, 0, 1, 0], [0, 0, 1, 1], [0, 0, 1, 2], [0, 1, 0, 0], [0, 1, 0, 1], [0, 1, 0, 2], [0, 1, 1, 0], [0, 1, 1, 1], [0, 1, 1, 2], [0, 1, 2, 0], [0, 1, 2, 1], [0, 1, 2, 2]] := by decide +kernel
theorem canon_ok : ∀ w ∈ (canon 4).map (·.1), wordOk w = true := by
  rw [canon_words]
  intro w hw
  simp only [List.mem_cons, List.not_mem_nil, or_false] at hw
  rcases hw with rfl | rfl | rfl | rfl | rfl | rfl | rfl | rfl | rfl | rfl | rfl | rfl | rfl | rfl
  · exact canon_0
  · exact canon_1
  · exact canon_2
  · exact canon_3
  · exact canon_4
  · exact canon_5
  · exact canon_6
  · exact canon_7
  · exact canon_8
  · exact canon_9
  · exact canon_10
  · exact canon_11
  · exact canon_12
  · exact canon_13
end PT
end
theorem reset_D16 {M : Model} {A : Around} {E : Value → Shared → Prop} {Q : Flow → Shared → Prop} {s : Shared} {env : Env} (h : Q .next s) : wpAny M A (execs [] env) Q E s := by
  w_top off
  walk1
  w_top off
  exact h
section
namespace PT
theorem nbeq {a b : Nat} : Nat.beq a b = true ↔ a = b := ⟨Nat.eq_of_beq_eq_true, fun h => h ▸ Nat.beq_refl a⟩
theorem eqL_iff : ∀ {a b : W}, eqL a b = true ↔ a = b
  | [], [] => by simp [eqL]
  | [], _ :: _ => by simp [eqL]
  | _ :: _, [] => by simp [eqL]
  | a :: r, b :: s => by
    have ih := eqL_iff (a := r) (b := s)
    simp only [eqL, Bool.and_eq_true, nbeq, ih, List.cons.injEq]
theorem sub_iff : ∀ {b a : W}, sub a b = true ↔ a.Sublist b
  | b, [] => by simp [sub]
  | [], _ :: _ => by simp [sub]
  | b :: s, a :: r => by
    show (if Nat.beq a b = true then sub r s else sub (a :: r) s) = true ↔ _
    by_cases h : a = b
    · subst h
      rw [if_pos (Nat.beq_refl a), sub_iff (b := s) (a := r), List.cons_sublist_cons]
    · rw [if_neg (fun e => h (nbeq.mp e)), sub_iff (b := s) (a := a :: r)]
      refine ⟨fun e => .cons _ e, fun e => ?_⟩
      cases e with
      | cons _ e => exact e
      | cons_cons _ _ => exact absurd rfl h
theorem chase_sub : ∀ (g l : W), chaseL (l.map fun c => [c]) g = sub l g
  | g, [] => by cases g <;> rfl
  | [], a :: r => by
    show (match after [a] [] with | none => false | some g' => chaseL (r.map fun c => [c]) g') = false
    have : after [a] [] = none := if_neg (by simp)
    rw [this]
  | b :: t, a :: r => by
    show (match after [a] (b :: t) with | none => false | some g' => chaseL (r.map fun c => [c]) g') = if Nat.beq a b = true then sub r t else sub (a :: r) t
    by_cases h : a = b
    · subst h
      have : after [a] (a :: t) = some t := by
        show (if [a].isPrefixOf (a :: t) = true then some ((a :: t).drop [a].length) else after [a] t) = some t
        rw [if_pos (by simp [List.isPrefixOf])]; rfl
      rw [this, if_pos (Nat.beq_refl a)]
      exact chase_sub t r
    · have : after [a] (b :: t) = after [a] t := by
        show (if [a].isPrefixOf (b :: t) = true then some ((b :: t).drop [a].length) else after [a] t) = after [a] t
        rw [if_neg (by simp [List.isPrefixOf, h])]
      rw [this, if_neg (fun e => h (nbeq.mp e))]
      exact chase_sub t (a :: r)
section
variable {f : Nat → Nat}
theorem eqL_map (hf : ∀ a b, f a = f b → a = b) (a b : W) : eqL (a.map f) (b.map f) = eqL a b := by
  rw [Bool.eq_iff_iff, eqL_iff, eqL_iff]
  exact ⟨fun h => List.map_inj_right hf |>.mp h, fun h => h ▸ rfl⟩
theorem sub_map (hf : ∀ a b, f a = f b → a = b) : ∀ (b a : W), sub (a.map f) (b.map f) = sub a b
  | b, [] => by cases b <;> rfl
  | [], _ :: _ => rfl
  | b :: s, a :: r => by
    show (if Nat.beq (f a) (f b) = true then sub (r.map f) (s.map f) else sub ((a :: r).map f) (s.map f)) = if Nat.beq a b = true then sub r s else sub (a :: r) s
    rw [sub_map hf s r, sub_map hf s (a :: r)]
    by_cases h : a = b
    · subst h
      rw [if_pos (Nat.beq_refl _), if_pos (Nat.beq_refl _)]
    · rw [if_neg (fun e => h (nbeq.mp e)), if_neg (fun e => h (hf _ _ (nbeq.mp e)))]
/-- the image of a text -/
def G (f : Nat → Nat) (x : Str) : W := (lst x).map f
def tr (f : Nat → Nat) (c : List (Str × Int)) : C := c.map fun p => (G f p.1, p.2)
theorem G_len (x : Str) : (G f x).length = x.length := by unfold G; rw [List.length_map, lst_len]
theorem G_inj (hf : ∀ a b, f a = f b → a = b) {x y : Str} (h : G f x = G f y) : x = y := lst_inj ((List.map_inj_right hf).mp h)
theorem eqG (hf : ∀ a b, f a = f b → a = b) (x y : Str) : eqL (G f x) (G f y) = decide (x = y) := by
  rw [Bool.eq_iff_iff, eqL_iff, decide_eq_true_eq]
  exact ⟨G_inj hf, fun h => h ▸ rfl⟩
theorem G_app (x y : Str) : G f (x ++ y) = G f x ++ G f y := by unfold G; rw [lst_append, List.map_append]
theorem put_tr (hf : ∀ a b, f a = f b → a = b) (c : List (Str × Int)) (k : Str) (v : Int) : tr f (kdpPut c k v) = put (tr f c) (G f k) v := by
  have e : (tr f c).any (fun p => eqL p.1 (G f k)) = c.any (fun p => decide (p.1 = k)) := by
    unfold tr
    rw [List.any_map]
    congr 1
    funext p
    exact eqG hf p.1 k
  unfold kdpPut put
  rw [e]
  by_cases h : (c.any fun p => decide (p.1 = k)) = true
  · rw [if_pos h, if_pos h]
    unfold tr
    rw [List.map_map, List.map_map]
    congr 1
    funext p
    show ((G f (if decide (p.1 = k) = true then (p.1, v) else p).1, (if decide (p.1 = k) = true then (p.1, v) else p).2) : W × Int) = if eqL (G f p.1) (G f k) = true then (G f p.1, v) else (G f p.1, p.2)
    rw [eqG hf]
    split <;> rfl
  · rw [if_neg h, if_neg h]
    unfold tr
    rw [List.map_append]; rfl
theorem look_tr (hf : ∀ a b, f a = f b → a = b) (k : Str) : ∀ c : List (Str × Int), look (tr f c) (G f k) = kdpLook c k 0
  | [] => rfl
  | p :: r => by
    show (if eqL (G f p.1) (G f k) = true then p.2 else look (tr f r) (G f k)) = kdpLook (p :: r) k 0
    rw [eqG hf, look_tr hf k r]
    unfold kdpLook
    rw [List.find?_cons]
    by_cases h : p.1 = k
    · rw [decide_eq_true h, if_pos rfl]; rfl
    · rw [decide_eq_false h, if_neg (by decide)]
theorem foldl_tr {α β α' β' : Type} (g : α → α') (h : β → β') {F : α → β → α} {F' : α' → β' → α'} (e : ∀ a b, g (F a b) = F' (g a) (h b)) : ∀ (l : List β) (a : α), g (l.foldl F a) = (l.map h).foldl F' (g a)
  | [], _ => rfl
  | b :: l, a => by
    rw [List.foldl_cons, List.map_cons, List.foldl_cons, foldl_tr g h e l, e]
theorem foldl_trP {α β α' β' : Type} {P : β → Prop} (g : α → α') (h : β → β') {F : α → β → α} {F' : α' → β' → α'} (e : ∀ a b, P b → g (F a b) = F' (g a) (h b)) : ∀ (l : List β), (∀ b ∈ l, P b) → ∀ (a : α), g (l.foldl F a) = (l.map h).foldl F' (g a)
  | [], _, _ => rfl
  | b :: l, hl, a => by
    rw [List.foldl_cons, List.map_cons, List.foldl_cons, foldl_trP g h e l (fun x hx => hl x (.tail _ hx)), e _ _ (hl b (.head _))]
theorem copy_tr (hf : ∀ a b, f a = f b → a = b) (c : List (Str × Int)) : tr f (copyC c) = copy (tr f c) := foldl_tr (tr f) (fun p : Str × Int => (G f p.1, p.2)) (fun a p => put_tr hf a p.1 p.2) c []
theorem add_tr (hf : ∀ a b, f a = f b → a = b) (a c : List (Str × Int)) : tr f (addC a c) = add (tr f a) (tr f c) :=
  foldl_tr (tr f) (fun p : Str × Int => (G f p.1, p.2)) (fun a p => by rw [put_tr hf, look_tr hf]) c a
theorem sumv_tr (c : List (Str × Int)) : sumv (tr f c) = Mine.sumv c := by
  unfold sumv Mine.sumv tr
  rw [List.map_map]; rfl
theorem long_tr (hf : ∀ a b, f a = f b → a = b) (c : List (Str × Int)) (sg : Str) : tr f (longC c sg) = long (tr f c) (G f sg) :=
  foldl_tr (tr f) (fun p : Str × Int => (G f p.1, p.2)) (fun a p => by rw [put_tr hf, G_app]) c []
theorem getD_map {a : W} {i : Nat} (h : i < a.length) : (a.map f).getD i 0 = f (a.getD i 0) := by
  rw [List.getD_eq_getElem?_getD, List.getD_eq_getElem?_getD, List.getElem?_map, List.getElem?_eq_getElem h]; rfl
theorem scat_tr (hf : ∀ a b, f a = f b → a = b) {wd : Str} : ∀ k, k ≤ wd.length → tr f (scatC wd k).cal = scat (G f wd) k
  | 0, _ => rfl
  | k + 1, hk => by
    show tr f (addC (copyC (scatC wd k).cal) (longC (scatC wd k).cal (signAt wd k))) = add (copy (scat (G f wd) k)) (long (scat (G f wd) k) [(G f wd).getD k 0])
    have e : G f (signAt wd k) = [(G f wd).getD k 0] := by
      unfold G
      rw [getD_map (by rw [lst_len]; omega)]; rfl
    rw [add_tr hf, copy_tr hf, long_tr hf, scat_tr hf k (by omega), e]
/-- a renaming of the letters -/
structure Ren (f : Nat → Nat) : Prop where
  inj : ∀ a b, f a = f b → a = b
  up : ∀ c, (c = 97 ∨ c = 98 ∨ c = 99) → f (c - 32) = f c + 3
  lo : ∀ c, (c = 97 ∨ c = 98 ∨ c = 99) → f c < 3
  colon : f 58 = 6
def maskOf (row : List Int) : List Bool := (List.range 4).map fun (k : Nat) => decide ((k : Int) ∈ row)
theorem masks2_eq : (rowsC 2).map maskOf = masks2 := by decide +kernel
theorem masks3_eq : (rowsC 3).map maskOf = masks3 := by decide +kernel
theorem four {l : W} (h : l.length = 4) : ∃ a b c d, l = [a, b, c, d] := by
  match l, h with
  | [a, b, c, d], _ => exact ⟨a, b, c, d, rfl⟩
theorem mark_tr (R : Ren f) {wd : Str} (hw : wd.length = 4) (ha : Abc wd) (row : List Int) : (markL wd row).map f = mark (G f wd) (maskOf row) := by
  obtain ⟨a, b, c, d, e⟩ := four (show (lst wd).length = 4 by rw [lst_len]; exact hw)
  have key : ∀ x ∈ lst wd, ∀ p : Prop, [Decidable p] → f (if p then x - 32 else x) = if decide p = true then f x + 3 else f x := by
    intro x hx p hp
    by_cases h : p
    · rw [if_pos h, if_pos (decide_eq_true h), R.up x (ha x hx)]
    · rw [if_neg h, if_neg (by rw [decide_eq_false h]; decide)]
  rw [e] at key
  unfold markL maskOf G chr
  rw [e]
  show [f (if _ then a - 32 else a), f (if _ then b - 32 else b), f (if _ then c - 32 else c), f (if _ then d - 32 else d)] = [if _ then f a + 3 else f a, if _ then f b + 3 else f b, if _ then f c + 3 else f c, if _ then f d + 3 else f d]
  rw [key a (by simp), key b (by simp), key c (by simp), key d (by simp)]
theorem great_tr (R : Ren f) {p : Str} (hp : Abc p) : ((lst p).map (· - 32)).map f = (G f p).map (· + 3) := by
  unfold G
  rw [List.map_map, List.map_map]
  exact List.map_congr_left fun c hc => R.up c (hp c hc)
theorem greats_one (p : Str) : greats p = ((lst p).map (· - 32)).map fun c => [c] := by unfold greats; rw [List.map_map]; rfl
theorem hit_tr (R : Ren f) {wd p : Str} (hw : wd.length = 4) (ha : Abc wd) (hp : Abc p) (row : List Int) : sub ((G f p).map (· + 3)) (mark (G f wd) (maskOf row)) = hit wd p row := by
  unfold hit
  rw [greats_one, chase_sub, ← mark_tr R hw ha, ← great_tr R hp, sub_map R.inj]
theorem found_tr (R : Ren f) {wd p : Str} (hw : wd.length = 4) (ha : Abc wd) (hp : Abc p) {ms : List (List Bool)} (hms : (rowsC p.length).map maskOf = ms) : (onesC wd p).map (G f) = found (G f wd) (G f p) ms := by
  unfold onesC foundC found
  rw [← hms, List.map_map, List.map_map, List.filter_map]
  have e : ((fun g => sub ((G f p).map (· + 3)) g) ∘ (mark (G f wd) ∘ maskOf)) = hit wd p := by
    funext row
    exact hit_tr R hw ha hp row
  rw [e]
  refine List.map_congr_left fun row _ => ?_
  exact mark_tr R hw ha row
theorem big (R : Ren f) {c : Nat} (h : LetN c) : Nat.ble 3 (f c) = isUp c := by
  unfold isUp
  rcases h with h | h
  · have h1 := R.lo c (by omega)
    rw [decide_eq_false (by omega), Bool.eq_false_iff]
    intro e
    have := Nat.le_of_ble_eq_true e
    omega
  · have h1 := R.up (c + 32) (by omega)
    rw [Nat.add_sub_cancel] at h1
    rw [decide_eq_true (by omega), h1]
    exact Nat.ble_eq_true_of_le (by omega)
theorem pair_tr (R : Ren f) {x y : Str} (hx : x.length = 4 ∧ AbcU x) (hy : y.length = 4 ∧ AbcU y) : G f (pairS x y) = pair (G f x) (G f y) := by
  obtain ⟨a, b, c, d, e⟩ := four (show (lst x).length = 4 by rw [lst_len]; exact hx.1)
  obtain ⟨a', b', c', d', e'⟩ := four (show (lst y).length = 4 by rw [lst_len]; exact hy.1)
  have k1 : ∀ z ∈ lst x, Nat.ble 3 (f z) = isUp z := fun z hz => big R (hx.2 z hz)
  have k2 : ∀ z ∈ lst y, Nat.ble 3 (f z) = isUp z := fun z hz => big R (hy.2 z hz)
  rw [e] at k1
  rw [e'] at k2
  have u : ups x y 4 = [0, 1, 2, 3].filter fun k => isUp (chr x k) || isUp (chr y k) := rfl
  show (pairL x y).map f = _
  unfold pairL pair G
  rw [u, e, e']
  have c0 : chr x 0 = a := by unfold chr; rw [e]; rfl
  have c1 : chr x 1 = b := by unfold chr; rw [e]; rfl
  have c2 : chr x 2 = c := by unfold chr; rw [e]; rfl
  have c3 : chr x 3 = d := by unfold chr; rw [e]; rfl
  have d0 : chr y 0 = a' := by unfold chr; rw [e']; rfl
  have d1 : chr y 1 = b' := by unfold chr; rw [e']; rfl
  have d2 : chr y 2 = c' := by unfold chr; rw [e']; rfl
  have d3 : chr y 3 = d' := by unfold chr; rw [e']; rfl
  simp only [List.map_append, List.map_map, List.filter_cons, List.filter_nil, c0, c1, c2, c3, d0, d1, d2, d3, List.map_cons, List.map_nil, R.colon, keep, k1 a (by simp), k1 b (by simp), k1 c (by simp), k1 d (by simp), k2 a' (by simp), k2 b' (by simp), k2 c' (by simp), k2 d' (by simp)]
  rw [Bool.or_comm (isUp a') (isUp a), Bool.or_comm (isUp b') (isUp b), Bool.or_comm (isUp c') (isUp c), Bool.or_comm (isUp d') (isUp d)]
  generalize (isUp a || isUp a') = p0
  generalize (isUp b || isUp b') = p1
  generalize (isUp c || isUp c') = p2
  generalize (isUp d || isUp d') = p3
  cases p0 <;> cases p1 <;> cases p2 <;> cases p3 <;> simp [c0, c1, c2, c3, d0, d1, d2, d3]
abbrev Long (x : Str) : Prop := x.length = 4 ∧ AbcU x
theorem src_tr (R : Ren f) {x : Str} (hx : Long x) {gs : List Str} (hg : ∀ g ∈ gs, Long g) : tr f (srcC x gs) = src (G f x) (gs.map (G f)) :=
  foldl_trP (P := Long) (tr f) (G f) (fun c g hg => by rw [put_tr R.inj, pair_tr R hx hg, ← pair_tr R hx hg, look_tr R.inj]) gs hg []
theorem tally_tr (R : Ren f) {fs gs : List Str} (hf : ∀ g ∈ fs, Long g) (hg : ∀ g ∈ gs, Long g) : (⟨(tallyC fs gs).nc, tr f (tallyC fs gs).cal⟩ : S) = tally (fs.map (G f)) (gs.map (G f)) :=
  foldl_trP (P := Long) (fun q : SumSt => (⟨q.nc, tr f q.cal⟩ : S)) (G f) (fun q x hx => by
    show (⟨(gs.length : Int) + q.nc, tr f (addC (copyC q.cal) (srcC x gs))⟩ : S) = ⟨((gs.map (G f)).length : Int) + q.nc, add (copy (tr f q.cal)) (src (G f x) (gs.map (G f)))⟩
    rw [List.length_map, add_tr R.inj, copy_tr R.inj, src_tr R hx hg]) fs hf ⟨0, 0, []⟩
abbrev mp (f : Nat → Nat) (p : Mine.Way) : Way := (p.1.map f, p.2.map f)
theorem up_at (R : Ren f) {a : W} (ha : Low a) {i : Nat} (h : i < a.length) : f (a.getD i 0 - 32) = (a.map f).getD i 0 + 3 := by
  rw [getD_map h]; exact R.up _ (ha i h)
theorem wayA_tr (R : Ren f) {a : W} (ha : Low a) {i : Nat} (h : i < a.length) (p : Mine.Way) : mp f (Mine.wayA a i p) = wayA (a.map f) i (mp f p) := by
  unfold Mine.wayA wayA mp
  simp only [List.map_append, List.map_cons, List.map_nil, up_at R ha h, getD_map h]
theorem wayB_tr (R : Ren f) {a : W} (ha : Low a) {i : Nat} (h : i < a.length) (p : Mine.Way) : mp f (Mine.wayB a i p) = wayB (a.map f) i (mp f p) := by
  unfold Mine.wayB wayB mp
  simp only [List.map_append, List.map_cons, List.map_nil, up_at R ha h, getD_map h]
theorem wayC_tr (R : Ren f) {a b : W} (ha : Low a) (hb : Low b) {i j : Nat} (h : i < a.length) (k : j < b.length) (p : Mine.Way) : mp f (Mine.wayC a b i j p) = wayC (a.map f) (b.map f) i j (mp f p) := by
  unfold Mine.wayC wayC mp
  simp only [List.map_append, List.map_cons, List.map_nil, up_at R ha h, up_at R hb k]
theorem map_tr {α β : Type} (g : α → β) {F : α → α} {F' : β → β} (e : ∀ p, g (F p) = F' (g p)) (l : List α) : (l.map F).map g = (l.map g).map F' := by
  rw [List.map_map, List.map_map]
  exact List.map_congr_left fun p _ => e p
theorem join0_tr (R : Ren f) {b : W} (hb : Low b) : ∀ j, j ≤ b.length → (Mine.join0 b j).map (mp f) = join0 (b.map f) j
  | 0, _ => rfl
  | j + 1, hj => by
    show ((Mine.join0 b j).map (Mine.wayB b j)).map (mp f) = (join0 (b.map f) j).map (wayB (b.map f) j)
    rw [map_tr (mp f) (fun p => wayB_tr R hb (by omega) p), join0_tr R hb j (by omega)]
theorem joinS_tr (R : Ren f) {a b : W} (ha : Low a) (hb : Low b) {i : Nat} (hi : i < a.length) {prev : Nat → List Mine.Way} {prev' : Nat → List Way} (hp : ∀ j, j ≤ b.length → (prev j).map (mp f) = prev' j) :
    ∀ j, j ≤ b.length → (Mine.joinS a b i prev j).map (mp f) = joinS (a.map f) (b.map f) i prev' j
  | 0, hj => by
    show ((prev 0).map (Mine.wayA a i)).map (mp f) = (prev' 0).map (wayA (a.map f) i)
    rw [map_tr (mp f) (fun p => wayA_tr R ha hi p), hp 0 hj]
  | j + 1, hj => by
    have h1 := hp (j + 1) hj
    have h2 := joinS_tr R ha hb hi hp j (by omega)
    have h3 := hp j (by omega)
    show ((prev (j + 1)).map (Mine.wayA a i) ++ ((Mine.joinS a b i prev j).map (Mine.wayB b j) ++ if a.getD i 0 = b.getD j 0 then (prev j).map (Mine.wayC a b i j) else [])).map (mp f) =
      (prev' (j + 1)).map (wayA (a.map f) i) ++ ((joinS (a.map f) (b.map f) i prev' j).map (wayB (b.map f) j) ++ if Nat.beq ((a.map f).getD i 0) ((b.map f).getD j 0) = true then (prev' j).map (wayC (a.map f) (b.map f) i j) else [])
    rw [List.map_append, List.map_append, map_tr (mp f) (fun p => wayA_tr R ha hi p), map_tr (mp f) (fun p => wayB_tr R hb (show j < b.length by omega) p), h1, h2, getD_map hi, getD_map (show j < b.length by omega)]
    congr 2
    by_cases h : a.getD i 0 = b.getD j 0
    · rw [if_pos h, if_pos (nbeq.mpr (by rw [h])), map_tr (mp f) (fun p => wayC_tr R ha hb hi (show j < b.length by omega) p), h3]
    · rw [if_neg h, if_neg (fun e => h (R.inj _ _ (nbeq.mp e)))]; rfl
theorem joinN_tr (R : Ren f) {a b : W} (ha : Low a) (hb : Low b) : ∀ i, i ≤ a.length → ∀ j, j ≤ b.length → (joinN a b i j).map (mp f) = joinW (a.map f) (b.map f) i j
  | 0, _ => join0_tr R hb
  | i + 1, hi => joinS_tr R ha hb hi (joinN_tr R ha hb i (by omega))
theorem low_at (R : Ren f) {c : Nat} (h : LetN c) : f (lowc c) = low (f c) := by
  have hb := big R h
  unfold low lowc
  rw [hb]
  unfold isUp
  rcases h with h | h
  · rw [if_neg (by omega), if_neg (by simp; omega)]
  · have h1 := R.up (c + 32) (by omega)
    rw [Nat.add_sub_cancel] at h1
    rw [if_pos (by omega), if_pos (by simp; omega), h1]; omega
theorem low_tr (R : Ren f) {l : W} (h : ∀ c ∈ l, LetN c) : (l.map lowc).map f = (l.map f).map low := by
  rw [List.map_map, List.map_map]
  exact List.map_congr_left fun c hc => low_at R (h c hc)
end
end PT
end
theorem reset_D17 {M : Model} {A : Around} {E : Value → Shared → Prop} {Q : Flow → Shared → Prop} {s : Shared} {env : Env} (h : Q .next s) : wpAny M A (execs [] env) Q E s := by
  w_top off
  walk1
  w_top off
  exact h
section
namespace PT
/-! ## every way holds both words -/
def Has (a b : W) (i j : Nat) (p : Way) : Prop := (a.take i).Sublist (p.1.map low) ∧ (b.take j).Sublist (p.1.map low) ∧ ((a.take i).map (· + 3)).Sublist p.1 ∧ ((b.take j).map (· + 3)).Sublist p.2
theorem take_getD {a : W} {i : Nat} (h : i < a.length) : a.take (i + 1) = a.take i ++ [a.getD i 0] := by
  rw [List.take_add_one, List.getElem?_eq_getElem h, List.getD_eq_getElem?_getD, List.getElem?_eq_getElem h]; rfl
theorem low_big (x : Nat) : low (x + 3) = x := by
  unfold low
  rw [if_pos (Nat.ble_eq_true_of_le (by omega))]; omega
theorem low_small {x : Nat} (h : x < 3) : low x = x := by
  unfold low
  rw [if_neg]
  intro e
  have := Nat.le_of_ble_eq_true e
  omega
theorem getD_lt {a : W} (ha : ∀ c ∈ a, c < 3) {i : Nat} (h : i < a.length) : a.getD i 0 < 3 := by
  rw [List.getD_eq_getElem?_getD, List.getElem?_eq_getElem h]; exact ha _ (List.getElem_mem h)
section
variable {a b : W} {i j : Nat} {p : Way}
theorem has_A (h : Has a b i j p) (hi : i < a.length) : Has a b (i + 1) j (wayA a i p) := by
  obtain ⟨h1, h2, h3, h4⟩ := h
  unfold Has wayA
  rw [take_getD hi]
  simp only [List.map_append, List.map_cons, List.map_nil, low_big]
  exact ⟨h1.append (List.Sublist.refl _), h2.trans (List.sublist_append_left _ _), h3.append (List.Sublist.refl _), h4.trans (List.sublist_append_left _ _)⟩
theorem has_B (hb : ∀ c ∈ b, c < 3) (h : Has a b i j p) (hj : j < b.length) : Has a b i (j + 1) (wayB b j p) := by
  obtain ⟨h1, h2, h3, h4⟩ := h
  unfold Has wayB
  rw [take_getD hj]
  simp only [List.map_append, List.map_cons, List.map_nil, low_small (getD_lt hb hj)]
  exact ⟨h1.trans (List.sublist_append_left _ _), h2.append (List.Sublist.refl _), h3.trans (List.sublist_append_left _ _), h4.append (List.Sublist.refl _)⟩
theorem has_C (h : Has a b i j p) (hi : i < a.length) (hj : j < b.length) (he : a.getD i 0 = b.getD j 0) : Has a b (i + 1) (j + 1) (wayC a b i j p) := by
  obtain ⟨h1, h2, h3, h4⟩ := h
  unfold Has wayC
  rw [take_getD hi, take_getD hj]
  simp only [List.map_append, List.map_cons, List.map_nil, low_big]
  rw [← he]
  exact ⟨h1.append (List.Sublist.refl _), h2.append (List.Sublist.refl _), h3.append (List.Sublist.refl _), h4.append (List.Sublist.refl _)⟩
theorem has_0 (hb : ∀ c ∈ b, c < 3) : ∀ j, j ≤ b.length → ∀ p ∈ join0 b j, Has a b 0 j p
  | 0, _, p, hp => by
    rw [List.mem_singleton.mp hp]
    exact ⟨List.nil_sublist _, List.nil_sublist _, List.nil_sublist _, List.nil_sublist _⟩
  | j + 1, hj, p, hp => by
    obtain ⟨q, hq, rfl⟩ := List.mem_map.mp hp
    exact has_B hb (has_0 hb j (by omega) q hq) (by omega)
theorem has_S (hb : ∀ c ∈ b, c < 3) (hi : i < a.length) {prev : Nat → List Way} (hp : ∀ j, j ≤ b.length → ∀ p ∈ prev j, Has a b i j p) : ∀ j, j ≤ b.length → ∀ p ∈ joinS a b i prev j, Has a b (i + 1) j p
  | 0, hj, p, h => by
    obtain ⟨q, hq, rfl⟩ := List.mem_map.mp h
    exact has_A (hp 0 hj q hq) hi
  | j + 1, hj, p, h => by
    have h : p ∈ (prev (j + 1)).map (wayA a i) ++ ((joinS a b i prev j).map (wayB b j) ++ if Nat.beq (a.getD i 0) (b.getD j 0) = true then (prev j).map (wayC a b i j) else []) := h
    rcases List.mem_append.mp h with h | h
    · obtain ⟨q, hq, rfl⟩ := List.mem_map.mp h
      exact has_A (hp (j + 1) hj q hq) hi
    rcases List.mem_append.mp h with h | h
    · obtain ⟨q, hq, rfl⟩ := List.mem_map.mp h
      exact has_B hb (has_S hb hi hp j (by omega) q hq) (by omega)
    · by_cases he : Nat.beq (a.getD i 0) (b.getD j 0) = true
      · rw [if_pos he] at h
        obtain ⟨q, hq, rfl⟩ := List.mem_map.mp h
        exact has_C (hp j (by omega) q hq) hi (by omega) (nbeq.mp he)
      · rw [if_neg he] at h; cases h
theorem has_W (hb : ∀ c ∈ b, c < 3) : ∀ i, i ≤ a.length → ∀ j, j ≤ b.length → ∀ p ∈ joinW a b i j, Has a b i j p
  | 0, _ => has_0 hb
  | i + 1, hi => has_S hb hi (has_W hb i (by omega))
end
/-! ## the sums -/
theorem sum_add (c : C) (g h : W × Int → Int) : (c.map fun p => g p + h p).sum = (c.map g).sum + (c.map h).sum := by
  induction c with
  | nil => rfl
  | cons p r ih => simp only [List.map_cons, List.sum_cons, ih]; omega
theorem sum_zero {α : Type} (c : List α) (g : α → Int) (h : ∀ p ∈ c, g p = 0) : (c.map g).sum = 0 := by
  induction c with
  | nil => rfl
  | cons p r ih => simp only [List.map_cons, List.sum_cons, h p (.head _), ih fun q hq => h q (.tail _ hq)]; rfl
theorem ind_sum (l : W) : ∀ c : C, nod c = true → (c.map fun p => if eqL l p.1 = true then p.2 else 0).sum = look c l
  | [], _ => rfl
  | p :: r, hn => by
    have hn : (!(r.any fun q => eqL p.1 q.1) && nod r) = true := hn
    rw [Bool.and_eq_true] at hn
    obtain ⟨h1, h2⟩ := hn
    have ih := ind_sum l r h2
    show (if eqL l p.1 = true then p.2 else 0) + (r.map fun p => if eqL l p.1 = true then p.2 else 0).sum = if eqL p.1 l = true then p.2 else look r l
    by_cases h : l = p.1
    · subst h
      rw [if_pos (eqL_iff.mpr rfl), if_pos (eqL_iff.mpr rfl), sum_zero r _ fun q hq => ?_]
      · omega
      · rw [if_neg]
        intro e
        have : (r.any fun q => eqL p.1 q.1) = true := List.any_eq_true.mpr ⟨q, hq, e⟩
        rw [this] at h1; cases h1
    · rw [if_neg (fun e => h (eqL_iff.mp e)), if_neg (fun e => h (eqL_iff.mp e).symm), ih]; omega
def weighW (c : C) (ws : List Way) : Int := (c.map fun p => ((ws.filter fun q => eqL (q.1.map low) p.1).length : Int) * p.2).sum
theorem weigh_sum {c : C} (hn : nod c = true) : ∀ ws : List Way, weighW c ws = sumL c ws
  | [] => sum_zero c _ fun p _ => by simp
  | q :: ws => by
    have ih := weigh_sum hn ws
    have e : weighW c (q :: ws) = (c.map fun p => (if eqL (q.1.map low) p.1 = true then p.2 else 0) + ((ws.filter fun q => eqL (q.1.map low) p.1).length : Int) * p.2).sum := by
      unfold weighW
      congr 1
      refine List.map_congr_left fun p _ => ?_
      rw [List.filter_cons]
      by_cases h : eqL (q.1.map low) p.1 = true
      · rw [if_pos h, if_pos h, List.length_cons, Int.natCast_add, Int.add_mul]
        omega
      · rw [if_neg h, if_neg h]; omega
    rw [e, sum_add, ind_sum _ c hn]
    show look c (q.1.map low) + weighW c ws = look c (q.1.map low) + sumL c ws
    rw [ih]
theorem look_none {x : W} : ∀ {c : C}, (∀ q ∈ c, q.1 ≠ x) → look c x = 0
  | [], _ => rfl
  | (k, v) :: r, h => by
    show (if eqL k x = true then v else look r x) = 0
    rw [if_neg (fun e => h (k, v) (.head _) (eqL_iff.mp e)), look_none fun q hq => h q (.tail _ hq)]
theorem tally_none (fs : List W) : tally fs [] = ⟨0, []⟩ := by
  unfold tally
  induction fs with
  | nil => rfl
  | cons f r ih => exact ih
/-- what is computed of a word, told of all its parts -/
structure Facts (w a b : W) (mb : List (List Bool)) : Prop where
  at' : ∀ p ∈ joinW a b a.length b.length, look (tally (found w a masks2) (found w b mb)).cal (p.1 ++ 6 :: p.2) = look (scat w 4) (p.1.map low)
  nc : (tally (found w a masks2) (found w b mb)).nc = sumL (scat w 4) (joinW a b a.length b.length)
  sum : sumv (tally (found w a masks2) (found w b mb)).cal = sumL (scat w 4) (joinW a b a.length b.length)
  na : ((found w a masks2).length : Int) = look (scat w 4) a
  nb : ((found w b mb).length : Int) = look (scat w 4) b
  keys : ∀ p ∈ scat w 4, p.1.Sublist w
  nod : nod (scat w 4) = true
def Main (w a b : W) (mb : List (List Bool)) : Prop := (∀ p ∈ joinW a b a.length b.length, look (tally (found w a masks2) (found w b mb)).cal (p.1 ++ 6 :: p.2) = look (scat w 4) (p.1.map low)) ∧
  (tally (found w a masks2) (found w b mb)).nc = sumL (scat w 4) (joinW a b a.length b.length) ∧ sumv (tally (found w a masks2) (found w b mb)).cal = sumL (scat w 4) (joinW a b a.length b.length)
theorem facts {w a b : W} {mb : List (List Bool)} (hw : wordOk w = true) (ha : a ∈ words 2) (hb : (b ∈ words 2 ∧ mb = masks2) ∨ (b ∈ words 3 ∧ mb = masks3)) (hb3 : ∀ c ∈ b, c < 3) : Facts w a b mb := by
  unfold wordOk at hw
  simp only [Bool.and_eq_true] at hw
  obtain ⟨⟨⟨⟨h1, h2⟩, h3⟩, h4⟩, h5⟩ := hw
  have sm : ∀ x ms, small w x ms = true → ((found w x ms).length : Int) = look (scat w 4) x ∧ (found w x ms = [] → ¬ x.Sublist w) := by
    intro x ms h
    unfold small at h
    rw [Bool.and_eq_true] at h
    refine ⟨beq_iff_eq.mp h.1, fun e k => ?_⟩
    have h2 := h.2
    rw [e, sub_iff.mpr k] at h2
    cases h2
  have sa := sm a masks2 (List.all_eq_true.mp h2 a ha)
  have sb : ((found w b mb).length : Int) = look (scat w 4) b ∧ (found w b mb = [] → ¬ b.Sublist w) := by
    rcases hb with ⟨hb, rfl⟩ | ⟨hb, rfl⟩
    · exact sm b masks2 (List.all_eq_true.mp h2 b hb)
    · exact sm b masks3 (List.all_eq_true.mp h3 b hb)
  have keys : ∀ p ∈ scat w 4, p.1.Sublist w := fun p hp => sub_iff.mp (List.all_eq_true.mp h4 p hp)
  have main : Main w a b mb := by
    have triv : tally (found w a masks2) (found w b mb) = ⟨0, []⟩ → (¬ a.Sublist w ∨ ¬ b.Sublist w) → Main w a b mb := fun e hn => by
      have hz : ∀ p ∈ joinW a b a.length b.length, look (scat w 4) (p.1.map low) = 0 := fun p hp => by
        obtain ⟨q1, q2, -, -⟩ := has_W hb3 a.length (Nat.le_refl _) b.length (Nat.le_refl _) p hp
        rw [List.take_length] at q1 q2
        refine look_none fun q hq e => ?_
        have := keys q hq
        rw [e] at this
        rcases hn with hn | hn
        · exact hn (q1.trans this)
        · exact hn (q2.trans this)
      unfold Main
      rw [e]
      refine ⟨fun p hp => by rw [hz p hp]; rfl, ?_, ?_⟩
      · exact (sum_zero _ _ hz).symm
      · exact (sum_zero _ _ hz).symm
    have full : tri w a b mb = true → Main w a b mb := fun h => by
      unfold tri core at h
      simp only [Bool.and_eq_true] at h
      obtain ⟨⟨k1, k2⟩, k3⟩ := h
      exact ⟨fun p hp => beq_iff_eq.mp (List.all_eq_true.mp k1 p hp), beq_iff_eq.mp k2, beq_iff_eq.mp k3⟩
    have h1a := List.all_eq_true.mp h1 a ha
    rw [Bool.or_eq_true, Bool.and_eq_true] at h1a
    rcases h1a with h1a | ⟨k2, k3⟩
    · have e := List.isEmpty_iff.mp h1a
      exact triv (by rw [e]; rfl) (.inl (sa.2 e))
    · rcases hb with ⟨hb, rfl⟩ | ⟨hb, rfl⟩
      · have := List.all_eq_true.mp k2 b hb
        rw [Bool.or_eq_true] at this
        rcases this with this | this
        · have e := List.isEmpty_iff.mp this
          exact triv (by rw [e]; exact tally_none _) (.inr (sb.2 e))
        · exact full this
      · have := List.all_eq_true.mp k3 b hb
        rw [Bool.or_eq_true] at this
        rcases this with this | this
        · have e := List.isEmpty_iff.mp this
          exact triv (by rw [e]; exact tally_none _) (.inr (sb.2 e))
        · exact full this
  exact ⟨main.1, main.2.1, main.2.2, sa.1, sb.1, keys, h5⟩
/-! ## all words -/
def wordsL : Nat → List W
  | 0 => [[]]
  | n + 1 => (wordsL n).flatMap fun w => [97 :: w, 98 :: w, 99 :: w]
theorem mem_wordsL : ∀ {l : W}, (∀ c ∈ l, c = 97 ∨ c = 98 ∨ c = 99) → l ∈ wordsL l.length
  | [], _ => .head _
  | c :: l, h => by
    have ih := mem_wordsL (l := l) fun x hx => h x (.tail _ hx)
    refine List.mem_flatMap.mpr ⟨l, ih, ?_⟩
    rcases h c (.head _) with rfl | rfl | rfl <;> simp
theorem mem_words : ∀ {l : W}, (∀ c ∈ l, c < 3) → l ∈ words l.length
  | [], _ => .head _
  | c :: l, h => by
    have ih := mem_words (l := l) fun x hx => h x (.tail _ hx)
    refine List.mem_flatMap.mpr ⟨l, ih, ?_⟩
    have := h c (.head _)
    have : c = 0 ∨ c = 1 ∨ c = 2 := by omega
    rcases this with rfl | rfl | rfl <;> simp
def app (s : Nat × Nat × Nat) (n : Nat) : Nat :=
  if Nat.beq n 97 then s.1 else if Nat.beq n 98 then s.2.1 else if Nat.beq n 99 then s.2.2 else
  if Nat.beq n 65 then s.1 + 3 else if Nat.beq n 66 then s.2.1 + 3 else if Nat.beq n 67 then s.2.2 + 3 else if Nat.beq n 58 then 6 else n + 7
def perms : List (Nat × Nat × Nat) := [(0, 1, 2), (0, 2, 1), (1, 0, 2), (1, 2, 0), (2, 0, 1), (2, 1, 0)]
/-- the way back -/
def back (s : Nat × Nat × Nat) (m : Nat) : Nat :=
  if Nat.beq m s.1 then 97 else if Nat.beq m s.2.1 then 98 else if Nat.beq m s.2.2 then 99 else
  if Nat.beq m (s.1 + 3) then 65 else if Nat.beq m (s.2.1 + 3) then 66 else if Nat.beq m (s.2.2 + 3) then 67 else if Nat.beq m 6 then 58 else m - 7
theorem app_table : (perms.all fun s => ((List.range 100).all fun n => Nat.beq (back s (app s n)) n && Nat.ble (app s n) 106) && Nat.ble s.1 2 && Nat.ble s.2.1 2 && Nat.ble s.2.2 2) = true := by decide +kernel
theorem app_big (s : Nat × Nat × Nat) {n : Nat} (h : 100 ≤ n) : app s n = n + 7 := by
  have ne : ∀ k, k < 100 → ¬ Nat.beq n k = true := fun k hk e => by
    have := nbeq.mp e
    subst this
    exact Nat.not_le_of_lt hk h
  unfold app
  rw [if_neg (ne 97 (by decide)), if_neg (ne 98 (by decide)), if_neg (ne 99 (by decide)), if_neg (ne 65 (by decide)), if_neg (ne 66 (by decide)), if_neg (ne 67 (by decide)), if_neg (ne 58 (by decide))]
theorem app_ren {s : Nat × Nat × Nat} (hs : s ∈ perms) : Ren (app s) := by
  have h0 := List.all_eq_true.mp app_table s hs
  simp only [Bool.and_eq_true] at h0
  obtain ⟨⟨⟨h1, k1⟩, k2⟩, k3⟩ := h0
  have tab : ∀ n, n < 100 → back s (app s n) = n ∧ app s n ≤ 106 := fun n hn => by
    have := List.all_eq_true.mp h1 n (List.mem_range.mpr hn)
    rw [Bool.and_eq_true] at this
    exact ⟨nbeq.mp this.1, Nat.le_of_ble_eq_true this.2⟩
  clear h1
  refine ⟨fun a b h => ?_, ?_, ?_, rfl⟩
  · rcases Nat.lt_or_ge a 100 with ha | ha <;> rcases Nat.lt_or_ge b 100 with hb | hb
    · rw [← (tab a ha).1, ← (tab b hb).1, h]
    · have h2 := (tab a ha).2
      rw [h, app_big s hb] at h2
      exact absurd (Nat.le_trans (Nat.add_le_add_right hb 7) h2) (by decide)
    · have h2 := (tab b hb).2
      rw [← h, app_big s ha] at h2
      exact absurd (Nat.le_trans (Nat.add_le_add_right ha 7) h2) (by decide)
    · rw [app_big s ha, app_big s hb] at h
      exact Nat.add_right_cancel h
  · intro c hc
    rcases hc with rfl | rfl | rfl <;> rfl
  · intro c hc
    rcases hc with rfl | rfl | rfl
    · exact Nat.lt_succ_of_le (Nat.le_of_ble_eq_true k1)
    · exact Nat.lt_succ_of_le (Nat.le_of_ble_eq_true k2)
    · exact Nat.lt_succ_of_le (Nat.le_of_ble_eq_true k3)
theorem cover4 : ((wordsL 4).all fun l => perms.any fun s => ((canon 4).map (·.1)).any fun q => eqL (l.map (app s)) q) = true := by decide +kernel
theorem word_ok {wd : Str} (h : Abc wd) (hl : wd.length = 4) : ∃ f : Nat → Nat, Ren f ∧ wordOk (G f wd) = true := by
  have h4 : (lst wd).length = 4 := by rw [lst_len]; exact hl
  have := List.all_eq_true.mp cover4 (lst wd) (h4 ▸ mem_wordsL h)
  obtain ⟨s, hs, h2⟩ := List.any_eq_true.mp this
  obtain ⟨q, hq, h3⟩ := List.any_eq_true.mp h2
  refine ⟨app s, app_ren hs, ?_⟩
  show wordOk ((lst wd).map (app s)) = true
  rw [eqL_iff.mp h3]
  exact canon_ok q hq
theorem G_low {f : Nat → Nat} (R : Ren f) {x : Str} (h : Abc x) : ∀ c ∈ G f x, c < 3 := fun c hc => by
  obtain ⟨d, hd, rfl⟩ := List.mem_map.mp hc
  exact R.lo d (h d hd)
theorem weighC_tr {f : Nat → Nat} (R : Ren f) (c : List (Str × Int)) {ws : List Mine.Way} (hl : ∀ q ∈ ws, ∀ z ∈ q.1, LetN z) : weighC c ws = weighW (tr f c) (ws.map (mp f)) := by
  unfold weighC weighW tr
  rw [List.map_map]
  congr 1
  refine List.map_congr_left fun p _ => ?_
  show (cntN ws (lst p.1) : Int) * p.2 = (((ws.map (mp f)).filter fun q => eqL (q.1.map low) (G f p.1)).length : Int) * p.2
  have e : cntN ws (lst p.1) = ((ws.map (mp f)).filter fun q => eqL (q.1.map low) (G f p.1)).length := by
    unfold cntN
    rw [List.filter_map, List.length_map]
    congr 1
    refine List.filter_congr fun q hq => ?_
    show (q.1.map lowc == lst p.1) = eqL ((q.1.map f).map low) ((lst p.1).map f)
    rw [← low_tr R (hl q hq), eqL_map R.inj, Bool.eq_iff_iff, eqL_iff, beq_iff_eq]
  rw [e]
end PT
theorem tally_cc (gs : List Str) : ∀ (fs : List Str) (q : SumSt), (fs.foldl (tallyStep gs) q).cc = (fs.length : Int) + q.cc
  | [], q => by simp
  | f :: r, q => by
    rw [List.foldl_cons, tally_cc gs r]
    show (r.length : Int) + (1 + q.cc) = ((r.length + 1 : Nat) : Int) + q.cc
    omega
theorem scat_len (wd : Str) : ∀ k, (scatC wd k).cal.length ≤ 2 ^ k
  | 0 => Nat.le_refl _
  | k + 1 => by
    have ih := scat_len wd k
    have h1 := addC_len (copyC (scatC wd k).cal) (longC (scatC wd k).cal (signAt wd k))
    have h2 := copy_len (scatC wd k).cal
    have h3 := longC_len (scatC wd k).cal (signAt wd k)
    show (addC (copyC (scatC wd k).cal) (longC (scatC wd k).cal (signAt wd k))).length ≤ 2 ^ (k + 1)
    rw [Nat.pow_succ]
    omega
theorem pure_law (wd one two : Str) (hD : Drawn2 wd one two) : LawOk wd one two := by
  obtain ⟨f, R, hok⟩ := PT.word_ok hD.wabc hD.wlen
  have ha : PT.G f one ∈ PT.words 2 := by have := PT.mem_words (PT.G_low R hD.oabc); rwa [PT.G_len, hD.olen] at this
  obtain ⟨mb, hmb, hb⟩ : ∃ mb, (rowsC two.length).map PT.maskOf = mb ∧ ((PT.G f two ∈ PT.words 2 ∧ mb = PT.masks2) ∨ (PT.G f two ∈ PT.words 3 ∧ mb = PT.masks3)) := by
    have := PT.mem_words (PT.G_low R hD.tabc)
    rw [PT.G_len] at this
    rcases hD.tlen with e | e
    · exact ⟨PT.masks2, by rw [e]; exact PT.masks2_eq, .inl ⟨e ▸ this, rfl⟩⟩
    · exact ⟨PT.masks3, by rw [e]; exact PT.masks3_eq, .inr ⟨e ▸ this, rfl⟩⟩
  have FA := PT.facts hok ha hb (PT.G_low R hD.tabc)
  have hp : PT.tr f (plainC wd) = PT.scat (PT.G f wd) 4 := PT.scat_tr R.inj 4 (by rw [hD.wlen]; exact Nat.le_refl _)
  have f1 := PT.found_tr R hD.wlen hD.wabc hD.oabc (ms := PT.masks2) (by rw [hD.olen]; exact PT.masks2_eq)
  have f2 := PT.found_tr R hD.wlen hD.wabc hD.tabc hmb
  have o1 := found_ok hD.wlen hD.wabc (show one.length ≤ 3 by have := hD.olen; omega)
  have o2 := found_ok hD.wlen hD.wabc (show two.length ≤ 3 by have := hD.tlen; omega)
  have ht := PT.tally_tr R (fs := onesC wd one) (gs := onesC wd two) o1.2 o2.2
  rw [f1, f2] at ht
  have hla : (lst one).length = one.length := lst_len one
  have hlb : (lst two).length = two.length := lst_len two
  have hw := PT.joinN_tr R (low_of hD.oabc) (low_of hD.tabc) one.length (Nat.le_of_eq hla.symm) two.length (Nat.le_of_eq hlb.symm)
  have hws : (waysOf one two).map (PT.mp f) = PT.joinW (PT.G f one) (PT.G f two) (PT.G f one).length (PT.G f two).length := by rw [PT.G_len, PT.G_len]; exact hw
  have hsm := joinN_small hD.oabc hD.tabc (Nat.le_refl one.length) (Nat.le_refl two.length) (by have := hD.olen; have := hD.tlen; omega)
  have hin : ∀ p ∈ waysOf one two, PT.mp f p ∈ PT.joinW (PT.G f one) (PT.G f two) (PT.G f one).length (PT.G f two).length := fun p hp => by rw [← hws]; exact List.mem_map_of_mem hp
  have hweigh : weighC (plainC wd) (waysOf one two) = PT.sumL (PT.scat (PT.G f wd) 4) (PT.joinW (PT.G f one) (PT.G f two) (PT.G f one).length (PT.G f two).length) := by
    rw [PT.weighC_tr R _ fun q hq => (hsm.2 q hq).1.2, hp, hws, PT.weigh_sum FA.nod]
  have hcal : PT.tr f (tallyC (onesC wd one) (onesC wd two)).cal = (PT.tally (PT.found (PT.G f wd) (PT.G f one) PT.masks2) (PT.found (PT.G f wd) (PT.G f two) mb)).cal := by rw [← ht]
  have hnc : (tallyC (onesC wd one) (onesC wd two)).nc = (PT.tally (PT.found (PT.G f wd) (PT.G f one) PT.masks2) (PT.found (PT.G f wd) (PT.G f two) mb)).nc := by rw [← ht]
  refine ⟨?_, ?_, ?_, ?_, ?_, ?_, ?_, ?_, ?_⟩
  · rw [← PT.look_tr R.inj, hp, ← FA.na, ← f1, List.length_map]
  · rw [← PT.look_tr R.inj, hp, ← FA.nb, ← f2, List.length_map]
  · intro p hpm
    have hm : (PT.G f p.1, p.2) ∈ PT.scat (PT.G f wd) 4 := by rw [← hp]; exact List.mem_map.mpr ⟨p, hpm, rfl⟩
    have hs := FA.keys _ hm
    refine ⟨?_, fun c hc => ?_⟩
    · have := hs.length_le
      rw [PT.G_len, PT.G_len, hD.wlen] at this
      omega
    · obtain ⟨d, hd, e⟩ := List.mem_map.mp (hs.subset (List.mem_map_of_mem hc))
      exact R.inj _ _ e ▸ hD.wabc d hd
  · exact Nat.le_trans (scat_len wd 4) (by decide)
  · intro p hpm
    obtain ⟨-, -, q3, q4⟩ := PT.has_W (PT.G_low R hD.tabc) _ (Nat.le_refl _) _ (Nat.le_refl _) _ (hin p hpm)
    rw [List.take_length] at q3 q4
    have e : greats one ++ [58] :: greats two = (((lst one).map (· - 32)) ++ 58 :: ((lst two).map (· - 32))).map fun c => [c] := by
      rw [List.map_append, List.map_cons, PT.greats_one, PT.greats_one]
    rw [e, PT.chase_sub, ← PT.sub_map R.inj, PT.sub_iff, List.map_append, List.map_append, List.map_cons, List.map_cons, PT.great_tr R hD.oabc, PT.great_tr R hD.tabc]
    exact q3.append (.cons_cons _ q4)
  · intro x y hxy
    rw [← PT.look_tr R.inj, ← PT.look_tr R.inj, hp, hcal]
    have h1 := FA.at' _ (hin _ hxy)
    have hx : AbcU x := (hsm.2 _ hxy).1.2
    have e1 : PT.G f (x ++ Str.ofString ":" ++ y) = (PT.mp f (lst x, lst y)).1 ++ 6 :: (PT.mp f (lst x, lst y)).2 := by
      rw [PT.G_app, PT.G_app]
      show (lst x).map f ++ (lst (Str.ofString ":")).map f ++ (lst y).map f = (lst x).map f ++ 6 :: (lst y).map f
      rw [colon_lst, List.map_cons, R.colon, List.append_assoc]; rfl
    have e2 : PT.G f (Txt.lower x) = (PT.mp f (lst x, lst y)).1.map PT.low := by
      show (lst (Txt.lower x)).map f = ((lst x).map f).map PT.low
      rw [lower_lst hx, PT.low_tr R hx]
    rw [e1, e2]
    exact h1
  · have := tally_cc (onesC wd two) (onesC wd one) ⟨0, 0, []⟩
    show (tallyC _ _).cc = _
    unfold tallyC
    rw [this]
    exact Int.add_zero _
  · rw [hnc, hweigh, FA.nc]
  · rw [← PT.sumv_tr (f := f), hcal, hweigh, FA.sum]
theorem law_holds : PySem.Challenge.rw_pm0056_02.Holds := law_walk pure_law
end
end Mine
end
set_option maxRecDepth 100000 in
set_option maxHeartbeats 8000000 in
theorem PySem.Challenge.cw_pm0056_02_holds : PySem.Challenge.rw_pm0056_02.Holds := by
  exact Mine.law_holds
