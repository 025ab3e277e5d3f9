import PyProof.Rows.All
import Wide.All
import OpenK.AllK
import Wide.FinOn
import PySem.Challenge.RW_pm0056_01
set_option Elab.async false
section
open PySem PySem.W PyProof.Rows
set_option Elab.async false
set_option maxRecDepth 100000
set_option maxHeartbeats 8000000
namespace Mine
open_top hd for PySem.Challenge.rw_pm0056_01
end Mine
end
section
open PySem PySem.W PySem.Calls PyProof.Rows PyProof.V PySem.Spec
set_option Elab.async false
set_option maxRecDepth 100000
namespace Mine

abbrev amb (dp un : Nat) (fr : List Env) (gd : Option (List Code)) : Around := { handled := none, depth := dp, frames := some fr, guards := gd, units := un }

section
variable {prog : Program} {w : World} {s : Shared} {dp un : Nat} {fr : List Env} {gd : Option (List Code)} {E Q : Value → Shared → Prop} {K : Frag} {p : Program} {loose : List Str} {mean : ExcName → Option Value} {mg mb : Str → Option Value}
  {qual : Str} {name : Str} {params : Arguments} {body : List Stmt} {scope : Scope} {dV kV doc pm cdv ct oc : Value} {an od : Option Addr} {osl : Array (Option Value)} {f : Addr} {args : List Value} {kw : List (Str × Value)} {binds : List (Str × Value)}

/-- a call of a def of the text: everything that stands stays -/
theorem call_me (X : K.In s.heap) (T : Top p loose mean mg mb s.heap)
    (ho : K.lookup f = some ⟨oc, od, .func (fnOf name qual params body scope dV kV doc pm an cdv ct), osl⟩) (hcd : codeIn K cdv qual = true) (hroom : dp < recursionLimit)
    (hbind : BindsTo s (fnOf name qual params body scope dV kV doc pm an cdv ct) ⟨args, kw⟩ binds) (hloc : ∀ y ∈ binds, scope.names.lookup y.1 = some .local)
    (hcell : ∀ x ∈ scope.names, x.2 ≠ .cell) (hco : scope.isCoroutine = false) (hgen : scope.isGenerator = false) (hk : scope.kind = .function)
    (h : ∀ L h₁, Fr s.heap L h₁ (fun y => binds.reverse.lookup y) → News s.heap L h₁ [] →
      wpAny (model prog w) (amb (dp + 1) (un + 3) (envOf qual scope L f cdv :: fr) gd) (execs body (envOf qual scope L f cdv))
        (fun fl s' => Q (match fl with | .ret v => v | _ => .none) s') (fun _ _ => False) { s with heap := h₁, toks := s.toks + binds.length }) :
    wpAny (model prog w) (amb dp un fr gd) (call (.ref f) args kw) Q E s := by
  refine wpAny_call (codeAny_call_def (fd := fnOf name qual params body scope dV kV doc pm an cdv ct) (body := body) (binds := binds) hroom (X _ _ ho) rfl T.nolimit (codeRec_of X hcd) rfl hbind hcell hloc (fun h₁ hns hk₁ => ?_) hco hgen hk)
  exact wpAny_mono (h _ h₁ ⟨hns, hk₁, Nat.le_refl _⟩ News.nil) (fun _ _ x => x) fun _ _ x => x.elim
end

section
variable {prog : Program} {w : World} {A : Around} {E : Value → Shared → Prop} {s : Shared} {env : Env} {h₀ : Heap} {target : Expr} {body : List Stmt} {Q : Flow → Shared → Prop}

def LEnd (h₀ : Heap) (L I : Addr) (oI : Obj) (J : (Str → Option Value) → List (Addr × Obj) → Prop) (s₁ s₂ : Shared) : Prop :=
  ∃ h' tk m' news', s₂ = { s₁ with heap := h', toks := tk } ∧ Fr h₀ L h' m' ∧ News h₀ L h' ((I, oI) :: news') ∧ (∀ p ∈ news', p.1 ≠ I) ∧ J m' news'
def LPost (h₀ : Heap) (L I : Addr) (oI : Obj) (J : (Str → Option Value) → List (Addr × Obj) → Prop) (s₁ : Shared) (Q : Flow → Shared → Prop) (f : Flow) (s₂ : Shared) : Prop :=
  match f with
  | .ret v => Q (.ret v) s₂
  | .brk => Q .next s₂
  | _ => LEnd h₀ L I oI J s₁ s₂

theorem turns_inv {I : Addr} {fp : List Addr} {n : Nat} {P Md : Nat → Value → Heap → Prop} {St : Nat → Heap → Prop} {m : Str → Option Value} {news keep : List (Addr × Obj)} {hp : Heap} {tk0 : Nat}
    (W : KTurns prog w A target I (I :: fp) [I] n P Md St) (hI : ∀ i h, St i h → ∃ o, h.get? I = some o) (hIn : h₀.get? I = none) (hLI : env.locals ≠ I) (hL : env.locals ∉ fp)
    (hfp : ∀ b ∈ fp, (∃ o, h₀.get? b = some o) ∨ ∃ o, (b, o) ∈ keep) (hnw : ∀ p ∈ news, p.1 ≠ I) (hst : St 0 hp)
    (F : Fr h₀ env.locals hp m) (N : News h₀ env.locals hp news)
    (J : Nat → (Str → Option Value) → List (Addr × Obj) → Prop) (hJk : ∀ i m' n', J i m' n' → ∀ p ∈ keep, p ∈ n') (h0 : J 0 m news)
    (step : ∀ i v m₁ news₁ h₁ tk₁ oI, i < n → P i v h₁ → J i m₁ news₁ → (∀ p ∈ news₁, p.1 ≠ I) → Fr h₀ env.locals h₁ m₁ → News h₀ env.locals h₁ ((I, oI) :: news₁) →
      wpAny (model prog w) A (assign target env v) (fun _ s₂ => wpAny (model prog w) A (execs body env) (LPost h₀ env.locals I oI (J (i + 1)) { s with heap := h₁, toks := tk₁ } Q) E s₂) E { s with heap := h₁, toks := tk₁ })
    (done : ∀ h' tk m' news', Fr h₀ env.locals h' m' → News h₀ env.locals h' news' → J n m' news' → Q .next { s with heap := h', toks := tk }) :
    TurnsAt prog w A h₀ env target body Q E (.ref I) { s with heap := hp, toks := tk0 } := by
  refine ⟨I, I :: fp, [I], n, P, Md, St, m, news, J, rfl, W, ?_, ?_, ?_, hst, F, N, h0, ?_, ?_⟩
  · intro h
    rcases List.mem_cons.mp h with e | h
    · exact hLI e
    · exact hL h
  · intro b hb
    rw [List.mem_singleton.mp hb]; exact hIn
  · intro p hp' hb
    exact hnw p hp' (List.mem_singleton.mp hb)
  · intro i v m₁ news₁ h₁ tk₁ own hi hP hJ hnw₁ hown hget hall hst₁ F₁ N₁
    obtain ⟨oI, hoI⟩ := hI _ _ hst₁
    have hmI : (I, oI) ∈ own := hall I (List.mem_cons_self ..) hIn oI hoI
    have hne : ∀ p ∈ news₁, p.1 ≠ I := fun p hp' e => hnw₁ p hp' (List.mem_singleton.mpr e)
    have N₂ : News h₀ env.locals h₁ ((I, oI) :: news₁) := fun p hp' => by
      rcases List.mem_cons.mp hp' with rfl | hp'
      · exact N₁ _ (List.mem_append_left _ hmI)
      · exact N₁ _ (List.mem_append_right _ hp')
    have fin : ∀ s₃, LEnd h₀ env.locals I oI (J (i + 1)) { s with heap := h₁, toks := tk₁ } s₃ → LoopStepU h₀ env.locals [I] own (J (i + 1)) { s with heap := h₁, toks := tk₁ } .next s₃ := by
      rintro s₃ ⟨h', tk, m', news', e, F', N', hn', hJ'⟩
      refine ⟨rfl, h', tk, m', news', e, F', ?_, fun p hp' hb => hn' p hp' (List.mem_singleton.mp hb), hJ'⟩
      intro p hp'
      rcases List.mem_append.mp hp' with ho | hn
      · have h1 := hown p ho
        rcases List.mem_cons.mp h1 with e1 | h1
        · have h2 := hget p ho
          rw [e1, hoI] at h2
          obtain ⟨pa, po⟩ := p
          dsimp only at e1 h2
          cases h2; subst e1
          exact N' _ (List.mem_cons_self ..)
        · rcases hfp p.1 h1 with ⟨o, h2⟩ | ⟨o, h2⟩
          · have h3 := (N₁ p (List.mem_append_left _ ho)).2.2
            rw [h2] at h3; cases h3
          · have h3 := (N₁ _ (List.mem_append_right _ (hJk _ _ _ hJ _ h2))).1
            have h4 := hget p ho
            have h5 : o = p.2 := Option.some.inj (h3.symm.trans h4)
            have h6 := hJk _ _ _ hJ' _ h2
            rw [h5] at h6
            exact N' p (List.mem_cons_of_mem _ h6)
      · exact N' p (List.mem_cons_of_mem _ hn)
    refine wpAny_mono (step i v m₁ news₁ h₁ tk₁ oI hi hP hJ hne F₁ N₂) (fun _ s₂ h₂ => wpAny_mono h₂ (fun f s₃ q => ?_) fun _ _ e => e) fun _ _ e => e
    cases f with
    | ret v => exact .ret q
    | brk => exact .brk q
    | next => exact .next (fin _ q)
    | cont => exact .cont (fin _ q)
  · intro h' tk m' news' F' N' _ hJ
    exact done h' tk m' news' F' N' hJ

/-- the frame's map: known names, names forgotten, the rest as it stood -/
abbrev fmap (nm : List Str) (u m₀ : Str → Option Value) (ps : List (Str × Value)) : Str → Option Value := kstB (fun z => if nm.contains z then u z else m₀ z) ps

def PsAre (m : Str → Option Value) : List (Str × Value) → Prop
  | [] => True
  | p :: r => m p.1 = some p.2 ∧ PsAre m r
theorem PsAre.all {m : Str → Option Value} : ∀ {ps : List (Str × Value)}, PsAre m ps → ∀ p ∈ ps, m p.1 = some p.2
  | q :: r, h, p, hp => by
    rcases List.mem_cons.mp hp with rfl | hp
    · exact h.1
    · exact PsAre.all h.2 p hp
def OffL (z : Str) : List Str → Prop
  | [] => True
  | n :: r => z ≠ n ∧ OffL z r
theorem OffL.of {z : Str} : ∀ {nm : List Str}, nm.contains z = false → OffL z nm
  | [], _ => trivial
  | n :: r, h => by
    rw [List.contains_cons, Bool.or_eq_false_iff] at h
    exact ⟨by simpa using h.1, OffL.of h.2⟩
def InLed (big : List (Addr × Obj)) : List (Addr × Obj) → Prop
  | [] => True
  | p :: r => p ∈ big ∧ InLed big r
theorem InLed.all {big l : List (Addr × Obj)} (h : InLed big l) : ∀ p ∈ l, p ∈ big := by
  induction l with
  | nil => intro p hp; cases hp
  | cons q r ih =>
    intro p hp
    cases hp with
    | head => exact h.1
    | tail _ hp => exact ih h.2 p hp
def AllNe (a : Addr) : List (Addr × Obj) → Prop
  | [] => True
  | p :: r => (p.1 : Nat) ≠ a ∧ AllNe a r
theorem AllNe.all {a : Addr} {l : List (Addr × Obj)} (h : AllNe a l) : ∀ p ∈ l, p.1 ≠ a := by
  induction l with
  | nil => intro p hp; cases hp
  | cons q r ih =>
    intro p hp
    cases hp with
    | head => exact h.1
    | tail _ hp => exact ih h.2 p hp
theorem AllNe.of {a : Addr} : ∀ {l : List (Addr × Obj)}, (∀ p ∈ l, p.1 ≠ a) → AllNe a l
  | [], _ => trivial
  | p :: _, h => ⟨h p (.head _), AllNe.of fun q hq => h q (.tail _ hq)⟩

theorem OffL.no {z : Str} {nm : List Str} (h : OffL z nm) : nm.contains z = false := by
  induction nm with
  | nil => rfl
  | cons n r ih => rw [List.contains_cons, ih h.2, Bool.or_false]; simpa using h.1
theorem fmap_off {nm : List Str} {u m₀ : Str → Option Value} {z : Str} {ps : List (Str × Value)} (hs : (ps.all fun p => nm.contains p.1) = true) (h : OffL z nm) : fmap nm u m₀ ps z = m₀ z := by
  have e := h.no
  induction ps with
  | nil =>
    show (if nm.contains z = true then u z else m₀ z) = m₀ z
    rw [e]; simp
  | cons p r ih =>
    rw [List.all_cons, Bool.and_eq_true] at hs
    have hne : z ≠ p.1 := by
      rintro rfl
      rw [e] at hs; cases hs.1
    show (if z = p.1 then some p.2 else kstB _ r z) = m₀ z
    rw [if_neg hne]
    exact ih hs.2

def SJ {σ : Type} (Led : σ → List (Addr × Obj)) (ps : σ → List (Str × Value)) (Facts : Nat → σ → Prop) (nm : List Str) (m₀ : Str → Option Value) (i : Nat) (m : Str → Option Value) (nx : List (Addr × Obj)) : Prop :=
  ∃ c : σ, nx = Led c ∧ Facts i c ∧ PsAre m (ps c) ∧ (∀ z, OffL z nm → m z = m₀ z)

theorem fmap_eq {nm : List Str} {m₀ m : Str → Option Value} {ps : List (Str × Value)} (h1 : PsAre m ps) (h2 : ∀ z, OffL z nm → m z = m₀ z) : fmap nm m m₀ ps = m := by
  funext z
  refine kstB_eq h1.all fun _ => ?_
  show (if nm.contains z = true then m z else m₀ z) = m z
  cases h3 : nm.contains z with
  | true => simp
  | false => simp only [Bool.false_eq_true, if_false]; exact (h2 z (OffL.of h3)).symm

theorem turns_S {σ : Type} {I : Addr} {fp : List Addr} {n : Nat} {P Md : Nat → Value → Heap → Prop} {St : Nat → Heap → Prop} {m₀ : Str → Option Value} {keep led₀ : List (Addr × Obj)} {hp : Heap} {tk0 : Nat}
    (Led : σ → List (Addr × Obj)) (ps : σ → List (Str × Value)) (Facts : Nat → σ → Prop) (nm : List Str)
    (W : KTurns prog w A target I (I :: fp) [I] n P Md St) (hI : ∀ i h, St i h → ∃ o, h.get? I = some o) (hIn : h₀.get? I = none) (hLI : env.locals ≠ I) (hL : env.locals ∉ fp)
    (hfp : ∀ b ∈ fp, (∃ o, h₀.get? b = some o) ∨ ∃ o, (b, o) ∈ keep) (hnw : ∀ p ∈ led₀, p.1 ≠ I) (hst : St 0 hp)
    (F : Fr h₀ env.locals hp m₀) (N : News h₀ env.locals hp led₀) (hkeep : ∀ c, InLed (Led c) keep) (start : ∃ c₀ : σ, Led c₀ = led₀ ∧ Facts 0 c₀ ∧ PsAre m₀ (ps c₀))
    (turn : ∀ i (c : σ) v (u : Str → Option Value) h₁ tk₁ oI, i < n → P i v h₁ → Facts i c → (∀ p ∈ Led c, p.1 ≠ I) → Fr h₀ env.locals h₁ (fmap nm u m₀ (ps c)) → News h₀ env.locals h₁ ((I, oI) :: Led c) →
      wpAny (model prog w) A (assign target env v) (fun _ s₂ => wpAny (model prog w) A (execs body env) (LPost h₀ env.locals I oI (SJ Led ps Facts nm m₀ (i + 1)) { s with heap := h₁, toks := tk₁ } Q) E s₂) E { s with heap := h₁, toks := tk₁ })
    (done : ∀ (c : σ) (u : Str → Option Value) h' tk, Facts n c → Fr h₀ env.locals h' (fmap nm u m₀ (ps c)) → News h₀ env.locals h' (Led c) → Q .next { s with heap := h', toks := tk }) :
    TurnsAt prog w A h₀ env target body Q E (.ref I) { s with heap := hp, toks := tk0 } := by
  obtain ⟨c₀, hl0, hf, hps⟩ := start
  refine turns_inv (m := m₀) (news := led₀) (keep := keep) W hI hIn hLI hL hfp hnw hst F N (SJ Led ps Facts nm m₀) ?_ ⟨c₀, hl0.symm, hf, hps, fun _ _ => rfl⟩ ?_ ?_
  · rintro i m' n' ⟨c, rfl, _⟩ p hp'
    exact (hkeep c).all p hp'
  · rintro i v m₁ news₁ h₁ tk₁ oI hi hP ⟨c, rfl, hf', h1, h2⟩ hne F₁ N₁
    refine turn i c v m₁ h₁ tk₁ oI hi hP hf' hne ?_ N₁
    rw [fmap_eq h1 h2]; exact F₁
  · rintro h' tk m' news' F' N' ⟨c, rfl, hf', h1, h2⟩
    refine done c m' h' tk hf' ?_ N'
    rw [fmap_eq h1 h2]; exact F'

/-- a turn's end -/
theorem turn_end {σ : Type} {Led : σ → List (Addr × Obj)} {ps : σ → List (Str × Value)} {Facts : Nat → σ → Prop} {nm : List Str} {m₀ m' : Str → Option Value} {i : Nat} {L I : Addr} {oI : Obj} {s₁ : Shared} {h' : Heap} {tk : Nat} {news : List (Addr × Obj)}
    (c : σ) (F : Fr h₀ L h' m') (N : News h₀ L h' news) (hI : (I, oI) ∈ news) (hn : InLed news (Led c)) (hne : AllNe I (Led c)) (hf : Facts i c) (h1 : PsAre m' (ps c))
    (h2 : ∀ z, OffL z nm → m' z = m₀ z) : LEnd h₀ L I oI (SJ Led ps Facts nm m₀ i) s₁ { s₁ with heap := h', toks := tk } :=
  ⟨h', tk, m', Led c, rfl, F, fun p hp => by
    rcases List.mem_cons.mp hp with rfl | hp
    · exact N _ hI
    · exact N p (hn.all p hp), hne.all, c, rfl, hf, h1, h2⟩

/-! ## sources -/
theorem src_base {ax : Addr} {o : Obj} {L : Addr} {h : Heap} {m : Str → Option Value} {keep : List (Addr × Obj)} (F : Fr h₀ L h m) (e : h₀.get? ax = some o) : ((∃ o, h₀.get? ax = some o) ∨ ∃ o, (ax, o) ∈ keep) ∧ ax ≠ L :=
  ⟨.inl ⟨o, e⟩, Nat.ne_of_lt (Nat.lt_of_lt_of_le (Heap.lt_size e) F.above)⟩
theorem src_news {ax : Addr} {o : Obj} {L : Addr} {h : Heap} {news : List (Addr × Obj)} (N : News h₀ L h news) (hm : (ax, o) ∈ news) : ((∃ o, h₀.get? ax = some o) ∨ ∃ o', (ax, o') ∈ [(ax, o)]) ∧ ax ≠ L :=
  ⟨.inr ⟨o, List.mem_singleton.mpr rfl⟩, (N _ hm).2.1⟩

theorem it_list {σ : Type} {ax : Addr} {vs : List Value} {m₀ : Str → Option Value} {keep led₀ : List (Addr × Obj)}
    (Led : σ → List (Addr × Obj)) (ps : σ → List (Str × Value)) (Facts : Nat → σ → Prop) (nm : List Str)
    (hh : A.handled = none) (hl : s.heap.IsList ax vs.toArray) (hsrc : ((∃ o, h₀.get? ax = some o) ∨ ∃ o, (ax, o) ∈ keep) ∧ ax ≠ env.locals)
    (F : Fr h₀ env.locals s.heap m₀) (N : News h₀ env.locals s.heap led₀) (hkeep : ∀ c, InLed (Led c) keep) (start : ∃ c₀ : σ, Led c₀ = led₀ ∧ Facts 0 c₀ ∧ PsAre m₀ (ps c₀))
    (turn : ∀ I i (c : σ) v (u : Str → Option Value) h₁ tk₁ oI, vs[i]? = some v → Facts i c → AllLt I led₀ → AllNe I (Led c) → Fr h₀ env.locals h₁ (fmap nm u m₀ (ps c)) → News h₀ env.locals h₁ ((I, oI) :: Led c) →
      wpAny (model prog w) A (assign target env v) (fun _ s₂ => wpAny (model prog w) A (execs body env) (LPost h₀ env.locals I oI (SJ Led ps Facts nm m₀ (i + 1)) { s with heap := h₁, toks := tk₁ } Q) E s₂) E { s with heap := h₁, toks := tk₁ })
    (done : ∀ (c : σ) (u : Str → Option Value) h' tk, Facts vs.length c → Fr h₀ env.locals h' (fmap nm u m₀ (ps c)) → News h₀ env.locals h' (Led c) → Q .next { s with heap := h', toks := tk }) :
    wpAny (model prog w) A (pyIter (.ref ax)) (fun it s₂ => TurnsAt prog w A h₀ env target body Q E it s₂) E s := by
  obtain ⟨ol, hol, _⟩ := id hl
  have hne : ax ≠ s.heap.objs.size := Nat.ne_of_lt (Heap.lt_size hol)
  refine wpAny_pyIter_list hl ?_
  have hsz : vs.toArray.size = vs.length := by simp
  refine turns_S (tk0 := s.toks) (n := vs.length) (keep := keep) (fp := [ax]) Led ps Facts nm (hsz ▸ KTurns.ofWalks (Walks.list hh s.heap.objs.size ax hne vs.toArray) fun i v s Q E st q => letGo_listiter st.1 q)
    (fun i h st => ?_) (next_is_new F) (Nat.ne_of_lt F.ns.lt) (fun h => hsrc.2 (List.mem_singleton.mp h).symm) (fun b hb => ?_) (fun p hp => Nat.ne_of_lt (Heap.lt_size (N p hp).1)) ?_ (F.push _)
    (fun p hp => ⟨Heap.get?_push_of_some _ (N p hp).1, (N p hp).2⟩) hkeep start ?_ done
  · obtain ⟨it, hit, _⟩ := st.1
    exact ⟨it, hit⟩
  · rw [List.mem_singleton.mp hb]; exact hsrc.1
  · exact ⟨⟨_, Heap.get?_push_size _ rfl, rfl, rfl⟩, hl.at fun o e => Heap.get?_push_of_some _ e⟩
  · intro i c v u h₁ tk₁ oI hi hP hf' hne' F₁ N₁
    have hv : vs[i]? = some v := by
      have hP' : vs.toArray[i]? = some v := hP
      simpa using hP'
    exact turn _ i c v u h₁ tk₁ oI hv hf' (allLt_of fun p hp => Heap.lt_size (N p hp).1) (AllNe.of hne') F₁ N₁

theorem kdpD_get {c : List (Str × Int)} {i : Nat} {e : PyData} {dv : PyData} (h : (kdpD c)[i]? = some (e, dv)) : ∃ k x, c[i]? = some (k, x) ∧ e = .str k ∧ dv = .int x := by
  unfold kdpD at h
  rw [List.getElem?_map] at h
  cases hc : c[i]? with
  | none => rw [hc] at h; cases h
  | some q => rw [hc] at h; obtain ⟨k, x⟩ := q; cases h; exact ⟨k, x, rfl, rfl, rfl⟩

theorem it_values {σ : Type} {d vw : Addr} {c : List (Str × Int)} {m₀ : Str → Option Value} {keep led₀ : List (Addr × Obj)}
    (Led : σ → List (Addr × Obj)) (ps : σ → List (Str × Value)) (Facts : Nat → σ → Prop) (nm : List Str)
    (hh : A.handled = none) (hv : s.heap.IsValuesView vw d) (Ta : StrTab prog w s.heap d (kdpD c)) (hsrc : ((∃ o, h₀.get? d = some o) ∨ ∃ o, (d, o) ∈ keep) ∧ d ≠ env.locals)
    (F : Fr h₀ env.locals s.heap m₀) (N : News h₀ env.locals s.heap led₀) (hkeep : ∀ c, InLed (Led c) keep) (start : ∃ c₀ : σ, Led c₀ = led₀ ∧ Facts 0 c₀ ∧ PsAre m₀ (ps c₀))
    (turn : ∀ I i (c' : σ) k x t (u : Str → Option Value) h₁ tk₁ oI, c[i]? = some (k, x) → Facts i c' → AllLt I led₀ → AllNe I (Led c') → Fr h₀ env.locals h₁ (fmap nm u m₀ (ps c')) → News h₀ env.locals h₁ ((I, oI) :: Led c') →
      wpAny (model prog w) A (assign target env (.int x t)) (fun _ s₂ => wpAny (model prog w) A (execs body env) (LPost h₀ env.locals I oI (SJ Led ps Facts nm m₀ (i + 1)) { s with heap := h₁, toks := tk₁ } Q) E s₂) E { s with heap := h₁, toks := tk₁ })
    (done : ∀ (c' : σ) (u : Str → Option Value) h' tk, Facts c.length c' → Fr h₀ env.locals h' (fmap nm u m₀ (ps c')) → News h₀ env.locals h' (Led c') → Q .next { s with heap := h', toks := tk }) :
    wpAny (model prog w) A (pyIter (.ref vw)) (fun it s₂ => TurnsAt prog w A h₀ env target body Q E it s₂) E s := by
  obtain ⟨lo, kvs, hdo, hfl⟩ := Ta
  obtain ⟨ep, hat⟩ := hdo.dictAt
  have hlen : kvs.length = c.length := by rw [← hfl.length, kdpD_length]
  have hne : d ≠ s.heap.objs.size := Nat.ne_of_lt hat.lt_size
  refine wpAny_pyIter_values hv hat ?_
  refine turns_S (tk0 := s.toks) (n := kvs.length) (keep := keep) (fp := [d]) Led ps Facts nm (KTurns.ofWalks (Walks.dictValues (knd := PySem.strKind prog w) hh s.heap.objs.size d hne kvs ep) fun i v s Q E st q => letGo_valiter st.1 q)
    (fun i h st => ?_) (next_is_new F) (Nat.ne_of_lt F.ns.lt) (fun h => hsrc.2 (List.mem_singleton.mp h).symm) (fun b hb => ?_) (fun p hp => Nat.ne_of_lt (Heap.lt_size (N p hp).1)) ?_ (F.push _)
    (fun p hp => ⟨Heap.get?_push_of_some _ (N p hp).1, (N p hp).2⟩) hkeep start ?_ (fun c' u h' tk hF => done c' u h' tk (hlen ▸ hF))
  · obtain ⟨it, hit, _⟩ := st.1
    exact ⟨it, hit⟩
  · rw [List.mem_singleton.mp hb]; exact hsrc.1
  · exact ⟨⟨_, Heap.get?_push_size _ rfl, rfl, rfl⟩, hat.push _⟩
  · rintro i c' v u h₁ tk₁ oI hi ⟨k, hk⟩ hf' hne' F₁ N₁
    obtain ⟨dv, hD, hflv⟩ := hfl.at hk
    obtain ⟨k', x, hc, _, rfl⟩ := kdpD_get hD
    obtain ⟨t, rfl⟩ := Flat.int_inv hflv
    exact turn _ i c' k' x t u h₁ tk₁ oI hc hf' (allLt_of fun p hp => Heap.lt_size (N p hp).1) (AllNe.of hne') F₁ N₁

theorem it_items {σ : Type} {elts : List Expr} {kk : Nat} {pos : Pos} {d vw : Addr} {c : List (Str × Int)} {m₀ : Str → Option Value} {keep led₀ : List (Addr × Obj)}
    (Led : σ → List (Addr × Obj)) (ps : σ → List (Str × Value)) (Facts : Nat → σ → Prop) (nm : List Str)
    (hh : A.handled = none) (hv : s.heap.IsItemsView vw d) (Ta : StrTab prog w s.heap d (kdpD c)) (hsrc : ((∃ o, h₀.get? d = some o) ∨ ∃ o, (d, o) ∈ keep) ∧ d ≠ env.locals)
    (F : Fr h₀ env.locals s.heap m₀) (N : News h₀ env.locals s.heap led₀) (hkeep : ∀ c, InLed (Led c) keep) (start : ∃ c₀ : σ, Led c₀ = led₀ ∧ Facts 0 c₀ ∧ PsAre m₀ (ps c₀))
    (turn : ∀ I i (c' : σ) k x tk t T (u : Str → Option Value) h₁ tk₁ oI, c[i]? = some (k, x) → IsTup h₁ T #[.str k tk, .int x t] → Facts i c' → AllLt I led₀ → AllNe I (Led c') → Fr h₀ env.locals h₁ (fmap nm u m₀ (ps c')) → News h₀ env.locals h₁ ((I, oI) :: Led c') →
      wpAny (model prog w) A (assign (.Tuple elts kk pos) env (.ref T)) (fun _ s₂ => wpAny (model prog w) A (execs body env) (LPost h₀ env.locals I oI (SJ Led ps Facts nm m₀ (i + 1)) { s with heap := h₁, toks := tk₁ } Q) E s₂) E { s with heap := h₁, toks := tk₁ })
    (done : ∀ (c' : σ) (u : Str → Option Value) h' tk, Facts c.length c' → Fr h₀ env.locals h' (fmap nm u m₀ (ps c')) → News h₀ env.locals h' (Led c') → Q .next { s with heap := h', toks := tk }) :
    wpAny (model prog w) A (pyIter (.ref vw)) (fun it s₂ => TurnsAt prog w A h₀ env (.Tuple elts kk pos) body Q E it s₂) E s := by
  obtain ⟨lo, kvs, hdo, hfl⟩ := Ta
  obtain ⟨ep, hat⟩ := hdo.dictAt
  have hlen : kvs.length = c.length := by rw [← hfl.length, kdpD_length]
  have hne : d ≠ s.heap.objs.size := Nat.ne_of_lt hat.lt_size
  refine wpAny_pyIter_items hv hat ?_
  refine turns_S (tk0 := s.toks) (n := kvs.length) (keep := keep) (fp := [d]) Led ps Facts nm (kti_itemsTurns (knd := PySem.strKind prog w) hh s.heap.objs.size d hne kvs ep)
    (fun i h st => ?_) (next_is_new F) (Nat.ne_of_lt F.ns.lt) (fun h => hsrc.2 (List.mem_singleton.mp h).symm) (fun b hb => ?_) (fun p hp => Nat.ne_of_lt (Heap.lt_size (N p hp).1)) ?_ (F.push _)
    (fun p hp => ⟨Heap.get?_push_of_some _ (N p hp).1, (N p hp).2⟩) hkeep start ?_ (fun c' u h' tk hF => done c' u h' tk (hlen ▸ hF))
  · obtain ⟨⟨ok, ov, he⟩, _⟩ := st
    exact ⟨_, he⟩
  · rw [List.mem_singleton.mp hb]; exact hsrc.1
  · exact ⟨⟨.none, .none, Heap.get?_push_size _ rfl⟩, hat.push _⟩
  · rintro i c' v u h₁ tk₁ oI hi ⟨T, key, k, x, rfl, hx, hk, hT⟩ hf' hne' F₁ N₁
    obtain ⟨dv, hD, hflv⟩ := hfl.at hx
    obtain ⟨k', x', hc, ek, rfl⟩ := kdpD_get hD
    cases ek
    obtain ⟨t, rfl⟩ := Flat.int_inv hflv
    obtain ⟨tk, rfl⟩ : ∃ tk, key = .str k tk := by
      obtain ⟨t', e⟩ := Flat.str_inv (kdl_flat_str hk)
      exact ⟨t', e⟩
    exact turn _ i c' k x' tk t T u h₁ tk₁ oI hc hT hf' (allLt_of fun p hp => Heap.lt_size (N p hp).1) (AllNe.of hne') F₁ N₁

theorem it_keys {σ : Type} {d : Addr} {c : List (Str × Int)} {m₀ : Str → Option Value} {keep led₀ : List (Addr × Obj)}
    (Led : σ → List (Addr × Obj)) (ps : σ → List (Str × Value)) (Facts : Nat → σ → Prop) (nm : List Str)
    (hh : A.handled = none) (Ta : StrTab prog w s.heap d (kdpD c)) (hsrc : ((∃ o, h₀.get? d = some o) ∨ ∃ o, (d, o) ∈ keep) ∧ d ≠ env.locals)
    (F : Fr h₀ env.locals s.heap m₀) (N : News h₀ env.locals s.heap led₀) (hkeep : ∀ c, InLed (Led c) keep) (start : ∃ c₀ : σ, Led c₀ = led₀ ∧ Facts 0 c₀ ∧ PsAre m₀ (ps c₀))
    (turn : ∀ I i (c' : σ) k x t (u : Str → Option Value) h₁ tk₁ oI, c[i]? = some (k, x) → Facts i c' → AllLt I led₀ → AllNe I (Led c') → Fr h₀ env.locals h₁ (fmap nm u m₀ (ps c')) → News h₀ env.locals h₁ ((I, oI) :: Led c') →
      wpAny (model prog w) A (assign target env (.str k t)) (fun _ s₂ => wpAny (model prog w) A (execs body env) (LPost h₀ env.locals I oI (SJ Led ps Facts nm m₀ (i + 1)) { s with heap := h₁, toks := tk₁ } Q) E s₂) E { s with heap := h₁, toks := tk₁ })
    (done : ∀ (c' : σ) (u : Str → Option Value) h' tk, Facts c.length c' → Fr h₀ env.locals h' (fmap nm u m₀ (ps c')) → News h₀ env.locals h' (Led c') → Q .next { s with heap := h', toks := tk }) :
    wpAny (model prog w) A (pyIter (.ref d)) (fun it s₂ => TurnsAt prog w A h₀ env target body Q E it s₂) E s := by
  obtain ⟨lo, kvs, hdo, hfl⟩ := Ta
  obtain ⟨ep, hat⟩ := hdo.dictAt
  have hlen : kvs.length = c.length := by rw [← hfl.length, kdpD_length]
  have hne : d ≠ s.heap.objs.size := Nat.ne_of_lt hat.lt_size
  refine wpAny_pyIter_dict lo hat ?_
  refine turns_S (tk0 := s.toks) (n := kvs.length) (keep := keep) (fp := [d]) Led ps Facts nm (KTurns.ofWalks (Walks.dictKeys (knd := PySem.strKind prog w) hh s.heap.objs.size d hne kvs ep) fun i v s Q E st q => letGo_keyiter st.1 q)
    (fun i h st => ?_) (next_is_new F) (Nat.ne_of_lt F.ns.lt) (fun h => hsrc.2 (List.mem_singleton.mp h).symm) (fun b hb => ?_) (fun p hp => Nat.ne_of_lt (Heap.lt_size (N p hp).1)) ?_ (F.push _)
    (fun p hp => ⟨Heap.get?_push_of_some _ (N p hp).1, (N p hp).2⟩) hkeep start ?_ (fun c' u h' tk hF => done c' u h' tk (hlen ▸ hF))
  · obtain ⟨it, hit, _⟩ := st.1
    exact ⟨it, hit⟩
  · rw [List.mem_singleton.mp hb]; exact hsrc.1
  · exact ⟨⟨_, Heap.get?_push_size _ rfl, rfl, rfl⟩, hat.push _⟩
  · rintro i c' v u h₁ tk₁ oI hi ⟨k, x, hx, hk⟩ hf' hne' F₁ N₁
    obtain ⟨dv, hD, hflv⟩ := hfl.at hx
    obtain ⟨k', x', hc, ek, rfl⟩ := kdpD_get hD
    cases ek
    obtain ⟨t, rfl⟩ : ∃ tk, v = .str k tk := by
      obtain ⟨t', e⟩ := Flat.str_inv (kdl_flat_str hk)
      exact ⟨t', e⟩
    exact turn _ i c' k x' t u h₁ tk₁ oI hc hf' (allLt_of fun p hp => Heap.lt_size (N p hp).1) (AllNe.of hne') F₁ N₁
end
end Mine
end
section
open PySem PySem.W PySem.Calls PyProof.Rows PyProof.V PySem.Spec
set_option Elab.async false
set_option maxRecDepth 100000
namespace Mine
section
variable {prog : Program} {w : World} {A : Around} {E : Value → Shared → Prop} {s : Shared} {h₀ : Heap} {L d : Addr} {m : Str → Option Value} {news : List (Addr × Obj)} {Q : Value → Shared → Prop}
variable {D : List (PyData × PyData)}

theorem tab_obj {h : Heap} (T : StrTab prog w h d D) : ∃ o, h.get? d = some o := by
  obtain ⟨_, kvs, hd, _⟩ := T
  obtain ⟨o, ho, _⟩ := Heap.dictOf_iff.mp hd
  exact ⟨o, ho⟩

theorem call_values (F : Fr h₀ L s.heap m) (N : News h₀ L s.heap news) (T : StrTab prog w s.heap d D)
    (h : ∀ (V : Addr) h', Fr h₀ L h' m → News h₀ L h' ((V, { cls := .type "dict_values", data := .fields #[.ref d] }) :: news) → (∀ q ∈ news, q.1 < V) → Q (.ref V) { s with heap := h' }) :
    wpAny (model prog w) A (call (.builtin "dict.values") [.ref d]) Q E s := by
  obtain ⟨lo, kvs, hD, _⟩ := T
  exact call_meetsIn PySem.F.slot_dict_values hD.typeIs PySem.F.entry_dict_values (PySem.F.args_dict_values_1 _) (meets_dict_values (strKind prog w) d lo) ⟨⟨kvs, hD⟩, h _ _ (F.push _) (News.push F N _) fun q hq => Heap.lt_size (N q hq).1⟩
theorem call_items (F : Fr h₀ L s.heap m) (N : News h₀ L s.heap news) (T : StrTab prog w s.heap d D)
    (h : ∀ (V : Addr) h', Fr h₀ L h' m → News h₀ L h' ((V, { cls := .type "dict_items", data := .fields #[.ref d] }) :: news) → (∀ q ∈ news, q.1 < V) → Q (.ref V) { s with heap := h' }) :
    wpAny (model prog w) A (call (.builtin "dict.items") [.ref d]) Q E s := by
  obtain ⟨lo, kvs, hD, _⟩ := T
  exact call_meetsIn PySem.F.slot_dict_items hD.typeIs PySem.F.entry_dict_items (PySem.F.args_dict_items_1 _) (meets_dict_items (strKind prog w) d lo) ⟨⟨kvs, hD⟩, h _ _ (F.push _) (News.push F N _) fun q hq => Heap.lt_size (N q hq).1⟩
end

section
variable {prog : Program} {w : World} {A : Around} {E : Value → Shared → Prop} {s : Shared} {h₀ : Heap} {L a : Addr} {m : Str → Option Value} {news : List (Addr × Obj)} {Q : Value → Shared → Prop} {vs : List Value} {n : Nat}
open PySem.Builtin.Str in
theorem gives_find_to (x y : Str) (i : Int) (t u v z : Tok) : Gives (Builtin.«str.find» ⟨[.str x t, .str y u, .int i v, .int (x.length : Int) z], []⟩) (.int (Txt.find3 x y i)) := by
  have e : (max 0 (if (x.length : Int) < 0 then (x.length : Int) + x.length else (x.length : Int))).toNat = x.length := by
    rw [if_neg (by omega)]; omega
  show Gives (match occurrences x y (fromIndex x.length i) (min (max 0 (if (x.length : Int) < 0 then (x.length : Int) + x.length else (x.length : Int))).toNat x.length) 1 with | k :: _ => retInt k | [] => (do rule "str.find.not-found"; retInt (-1))) _
  rw [e, Nat.min_self]
  unfold Txt.find3
  cases occurrences x y (fromIndex x.length i) x.length 1 with
  | nil => exact .rule (.of_eq rfl)
  | cons k _ => exact .of_eq rfl
theorem find_to {x y : Str} {i : Int} {t u v z : Tok} (h : Q (.int (Txt.find3 x y i) s.toks) { s with toks := s.toks + 1 }) :
    wpAny (model prog w) A (call (.builtin "str.find") [.str x t, .str y u, .int i v, .int (x.length : Int) z]) Q E s :=
  call_gives F.slot_str_find (typeIs_str _ _ _) F.entry_str_find (F.args_str_find_4 _ _ _ _) (gives_find_to x y i t u v z) h
theorem list_led (N : News h₀ L s.heap news) (hm : (a, ({ cls := .type "list", data := .seq vs.toArray n } : Obj)) ∈ news) : s.heap.IsList a vs.toArray := ⟨_, (N _ hm).1, rfl, _, rfl⟩
theorem len_led (N : News h₀ L s.heap news) (hm : (a, ({ cls := .type "list", data := .seq vs.toArray n } : Obj)) ∈ news) (hz : vs.length ≤ 100000) (h : Q (.int vs.length (s.toks + 1)) { s with toks := s.toks + 1 + 1 }) :
    wpAny (model prog w) A (call (.builtin "len") [.ref a]) Q E s :=
  call_len_list (list_led N hm) (by rw [List.size_toArray]; omega) (by rw [List.size_toArray]; exact h)
end
end Mine
end
section
open PySem PySem.W PySem.Calls PyProof.Rows PyProof.V PySem.Spec
set_option Elab.async false
set_option maxRecDepth 100000
namespace Mine
def Hold (p : Prop) : Prop := p
theorem hold_in {p : Prop} (h : Hold p) : p := h
section
variable {prog : Program} {w : World} {A : Around} {E : Value → Shared → Prop} {s : Shared} {h₀ : Heap} {L a : Addr} {m : Str → Option Value} {news : List (Addr × Obj)} {Q : Value → Shared → Prop} {vs : List Value} {n : Nat} {x y : Str} {t u : Tok} {v : Value} {value slice : PySem.Expr} {k : Int}
theorem split_mid {mid : List Str} (hF : Fr h₀ L s.heap m) (hN : News h₀ L s.heap news) (hy : (y.length == 0) = false) (hsp : Txt.split x y = Str.empty :: (mid ++ [Str.empty]))
    (h : ∀ D t0 lm t1 h' k, lm.map (·.1) = mid → lm.length = mid.length → Fr h₀ L h' m → News h₀ L h' ((D, listOf (Value.str Str.empty t0 :: (strValues lm ++ [Value.str Str.empty t1])).toArray 0) :: news) → (∀ p ∈ news, p.1 < D) → Q (.ref D) { s with heap := h', toks := k })
    (hsz : x.length + 2 ≤ sizeLine) : wpAny (model prog w) A (call (.builtin "str.split") [.str x t, .str y u]) Q E s := by
  refine splitN1 hF hN hy (fun l h' k e F N => ?_) hsz
  rw [hsp] at e
  obtain ⟨t0, lm, t1, rfl, hlm⟩ : ∃ t0 lm t1, l = (Str.empty, t0) :: (lm ++ [(Str.empty, t1)]) ∧ lm.map (·.1) = mid := by
    cases l with
    | nil => cases e
    | cons q r =>
      obtain ⟨q1, q2⟩ := q
      simp only [List.map_cons, List.cons.injEq] at e
      obtain ⟨rfl, e⟩ := e
      obtain ⟨r1, r2, rfl, e1, e2⟩ := List.map_eq_append_iff.mp e
      cases r2 with
      | nil => cases e2
      | cons z r3 =>
        obtain ⟨z1, z2⟩ := z
        simp only [List.map_cons, List.cons.injEq, List.map_eq_nil_iff] at e2
        obtain ⟨rfl, rfl⟩ := e2
        exact ⟨q2, r1, z2, rfl, e1⟩
  have N' : News h₀ L h' ((s.heap.objs.size, listOf (Value.str Str.empty t0 :: (strValues lm ++ [Value.str Str.empty t1])).toArray 0) :: news) := by
    simpa [strValues] using N
  exact h _ t0 lm t1 h' k hlm (by rw [← hlm, List.length_map]) F N' fun p hp => Heap.lt_size (hN p hp).1
theorem split_two {q : Str} (hF : Fr h₀ L s.heap m) (hN : News h₀ L s.heap news) (hy : (y.length == 0) = false) (hsp : Txt.split x y = [q, Str.empty])
    (h : ∀ D t0 t1 h' k, Fr h₀ L h' m → News h₀ L h' ((D, listOf [Value.str q t0, Value.str Str.empty t1].toArray 0) :: news) → (∀ p ∈ news, p.1 < D) → Q (.ref D) { s with heap := h', toks := k })
    (hsz : x.length + 2 ≤ sizeLine) : wpAny (model prog w) A (call (.builtin "str.split") [.str x t, .str y u]) Q E s := by
  refine splitN1 hF hN hy (fun l h' k e F N => ?_) hsz
  rw [hsp] at e
  obtain ⟨t0, l', rfl, e1⟩ := KSpl.cons_of e
  obtain ⟨t1, l'', rfl, e2⟩ := KSpl.cons_of e1
  have := KSpl.nil_of e2
  subst this
  exact h _ t0 t1 h' k F N fun p hp => Heap.lt_size (hN p hp).1
theorem item_led (N : News h₀ L s.heap news) (hm : (a, ({ cls := .type "list", data := .seq vs.toArray n } : Obj)) ∈ news) (h0 : 0 ≤ k) (hf : k < 2 ^ 63) (hx : vs[k.toNat]? = some v) (h : Q v s)
    (hs : subscripted slice false (.ref a) (.int k u) = operate [.ref a, .int k u] (getItem (.ref a) (.int k u)) := by with_unfolding_all rfl) (hg : ∀ r, letTemporaryGo value (.ref a) r = pure () := by intro _; with_unfolding_all rfl) :
    wpAny (model prog w) A (subscriptTail value slice (.ref a) (.int k u)) Q E s := item_listL (list_led N hm) h0 hf hx h hs hg
theorem last_led (N : News h₀ L s.heap news) (hm : (a, ({ cls := .type "list", data := .seq vs.toArray n } : Obj)) ∈ news) (hz : vs.length ≤ 100000) (hx : vs.getLast? = some v) (h : Q v s)
    (hs : subscripted slice false (.ref a) (.int (-1) u) = operate [.ref a, .int (-1) u] (getItem (.ref a) (.int (-1) u)) := by with_unfolding_all rfl) (hg : ∀ r, letTemporaryGo value (.ref a) r = pure () := by intro _; with_unfolding_all rfl) :
    wpAny (model prog w) A (subscriptTail value slice (.ref a) (.int (-1) u)) Q E s := by
  have hl := list_led N hm
  have hpos : 0 < vs.length := by
    cases vs with
    | nil => cases hx
    | cons _ _ => simp
  refine subscriptTail_builtin hl.typeIs slot_list_getitem.lookup (wpAny_getItem_list_neg hl (by decide) (by rw [List.size_toArray]; omega) (by decide) ?_ h) hs hg
  rw [List.getLast?_eq_getElem?] at hx
  rw [List.size_toArray]
  have e : (-1 + (vs.length : Int)).toNat = vs.length - 1 := by omega
  rw [e]
  simpa using hx
end
end Mine
end
section
open PySem PySem.W PySem.Calls PyProof.Rows PyProof.V PySem.Spec
set_option Elab.async false
set_option maxRecDepth 100000
namespace Mine
open PySem.Builtin.Str PySem.StrLaws

abbrev lst (x : Str) : List Nat := x.cps.toList
theorem lst_len (x : Str) : (lst x).length = x.length := by simp [Str.length]
theorem lst_inj {x y : Str} (h : lst x = lst y) : x = y := Str.ext' (Array.toList_inj.mp h)
theorem lst_append (x y : Str) : lst (x ++ y) = lst x ++ lst y := by simp [lst, Str.cps_append]
theorem lst_empty : lst Str.empty = [] := rfl

/-- pieces between dots -/
def dotted : List (List Nat) → List Nat
  | [] => []
  | [p] => p
  | p :: q :: r => p ++ [46, 46, 46] ++ dotted (q :: r)

theorem at_iff (x y : Str) (i : Nat) : At x y x.length i ↔ i + y.length ≤ x.length ∧ ((lst x).drop i).take y.length = lst y := by
  unfold At
  rw [subAt_eq, beq_iff_eq]

theorem dots_len : (Str.ofString "...").length = 3 := by decide
theorem dots_lst : lst (Str.ofString "...") = [46, 46, 46] := by decide

theorem chain_dotted (x : Str) : ∀ (ps : List (List Nat)) (pre : List Nat) (cuts : List Nat) (f : Nat), ps ≠ [] → (∀ p ∈ ps, 46 ∉ p) → lst x = pre ++ dotted ps →
    ChainG x (Str.ofString "...") x.length pre.length cuts f → (∀ k, f ≤ k → ¬ At x (Str.ofString "...") x.length k) → (partsFrom x 3 pre.length cuts).map lst = ps := by
  intro ps
  induction ps with
  | nil => intro pre cuts f h; exact absurd rfl h
  | cons p r ih =>
    intro pre cuts f _ hno hx hch hf
    have hp : 46 ∉ p := hno p (.head _)
    have hxl := lst_len x
    cases r with
    | nil =>
      have hx' : lst x = pre ++ p := hx
      cases cuts with
      | nil =>
        show [lst (strSub x pre.length x.length)] = [p]
        rw [lst, strSub_toList]
        rw [hx'] at hxl
        rw [show x.cps.toList = pre ++ p from hx', List.drop_left, List.take_of_length_le (by rw [← hxl]; simp)]
      | cons c cs =>
        exfalso
        obtain ⟨h1, h2, _, _⟩ := hch
        rw [at_iff, dots_len, dots_lst, hx'] at h2
        rw [hx', List.length_append] at hxl
        obtain ⟨h2, h3⟩ := h2
        have h4 : (List.take 3 (List.drop c (pre ++ p)))[0]? = some 46 := by rw [h3]; rfl
        rw [List.getElem?_take_of_lt (by omega), List.getElem?_drop, Nat.add_zero, List.getElem?_append_right h1] at h4
        exact hp (List.mem_of_getElem? h4)
    | cons q r =>
      have hx' : lst x = pre ++ (p ++ [46, 46, 46] ++ dotted (q :: r)) := hx
      have hAt : At x (Str.ofString "...") x.length (pre.length + p.length) := by
        rw [at_iff, dots_len, dots_lst, hx']
        refine ⟨by rw [← hxl, hx']; simp; omega, ?_⟩
        rw [show pre ++ (p ++ [46, 46, 46] ++ dotted (q :: r)) = (pre ++ p) ++ ([46, 46, 46] ++ dotted (q :: r)) by simp, ← List.length_append, List.drop_left]
        rfl
      cases cuts with
      | nil =>
        exfalso
        have e : f = pre.length := hch
        exact hf _ (by omega) hAt
      | cons c cs =>
        obtain ⟨h1, h2, h3, h4⟩ := hch
        have hc : c = pre.length + p.length := by
          rcases Nat.lt_trichotomy c (pre.length + p.length) with hlt | he | hgt
          · exfalso
            rw [at_iff, dots_len, dots_lst, hx'] at h2
            obtain ⟨h5, h6⟩ := h2
            have h7 : (List.take 3 (List.drop c (pre ++ (p ++ [46, 46, 46] ++ dotted (q :: r)))))[0]? = some 46 := by rw [h6]; rfl
            rw [List.getElem?_take_of_lt (by omega), List.getElem?_drop, Nat.add_zero, List.getElem?_append_right h1, List.append_assoc, List.getElem?_append_left (by omega)] at h7
            exact hp (List.mem_of_getElem? h7)
          · exact he
          · exact absurd hAt (h3 _ (by omega) hgt)
        subst hc
        show lst (strSub x pre.length (pre.length + p.length)) :: (partsFrom x 3 (pre.length + p.length + 3) cs).map lst = p :: q :: r
        have e1 : lst (strSub x pre.length (pre.length + p.length)) = p := by
          rw [lst, strSub_toList, show x.cps.toList = pre ++ (p ++ [46, 46, 46] ++ dotted (q :: r)) from hx', List.drop_left, List.append_assoc, show pre.length + p.length - pre.length = p.length by omega, List.take_left]
        have e2 := ih (pre ++ p ++ [46, 46, 46]) cs f (by simp) (fun z hz => hno z (.tail _ hz)) (by rw [hx']; simp) (by
          have e3 : (pre ++ p ++ [46, 46, 46]).length = pre.length + p.length + 3 := by simp; omega
          rw [e3]; rw [dots_len] at h4; exact h4) hf
        have e3 : (pre ++ p ++ [46, 46, 46]).length = pre.length + p.length + 3 := by simp; omega
        rw [e3] at e2
        rw [e1, e2]

theorem kind_dots (x : Str) : ¬ Builtin.Str.strKind x < Builtin.Str.strKind (Str.ofString "...") := by
  have : Builtin.Str.strKind (Str.ofString "...") = 1 := by decide +kernel
  rw [this]
  unfold Builtin.Str.strKind
  split
  · omega
  · split <;> omega

theorem split_dotted (x : Str) (p q : List Nat) (r : List (List Nat)) (hno : ∀ z ∈ p :: q :: r, 46 ∉ z) (hx : lst x = dotted (p :: q :: r)) :
    Txt.contains x (Str.ofString "...") = true ∧ (Txt.split x (Str.ofString "...")).map lst = p :: q :: r := by
  have hxl := lst_len x
  have hAt : At x (Str.ofString "...") x.length p.length := by
    rw [at_iff, dots_len, dots_lst, hx]
    refine ⟨by rw [← hxl, hx]; simp [dotted], ?_⟩
    rw [show dotted (p :: q :: r) = p ++ ([46, 46, 46] ++ dotted (q :: r)) by simp [dotted], List.drop_left]
    rfl
  have hc : Txt.contains x (Str.ofString "...") = true := by
    unfold Txt.contains
    exact (found_iff x _).mpr ⟨_, hAt.1, hAt.2⟩
  refine ⟨hc, ?_⟩
  obtain ⟨f, hG, hn⟩ := occ_tight x (Str.ofString "...") (by rw [dots_len]; decide)
  have hne : (occurrences x (Str.ofString "...") 0 x.length (x.length + 1)).isEmpty = false := by
    cases ho : occurrences x (Str.ofString "...") 0 x.length (x.length + 1) with
    | nil =>
      rw [ho] at hG
      have e : f = 0 := hG
      exact absurd hAt (hn _ (by omega))
    | cons _ _ => rfl
  unfold Txt.split
  have h1 : (decide (x.length < (Str.ofString "...").length) || decide (Builtin.Str.strKind x < Builtin.Str.strKind (Str.ofString "..."))) = false := by
    rw [Bool.or_eq_false_iff, decide_eq_false_iff_not, decide_eq_false_iff_not]
    refine ⟨?_, kind_dots x⟩
    have := hAt.1
    omega
  rw [h1, if_neg (by simp), hne, if_neg (by simp), partsBetween_eq, dots_len]
  exact chain_dotted x (p :: q :: r) [] _ f (by simp) hno hx hG hn

/-- what follows the first place of x in g -/
def after (x : List Nat) : List Nat → Option (List Nat)
  | [] => if x = [] then some [] else none
  | c :: t => if x.isPrefixOf (c :: t) then some ((c :: t).drop x.length) else after x t

theorem after_none {x : List Nat} : ∀ {g : List Nat}, after x g = none → ∀ i, ¬ (i + x.length ≤ g.length ∧ (g.drop i).take x.length = x)
  | [], h, i, hi => by
    have : x = [] := by
      cases x with
      | nil => rfl
      | cons a r => simp at hi
    rw [this] at h; cases h
  | c :: t, h, i, hi => by
    unfold after at h
    split at h
    · cases h
    · rename_i hp
      cases i with
      | zero =>
        apply hp
        rw [List.isPrefixOf_iff_prefix]
        refine List.prefix_iff_eq_take.mpr ?_
        rw [List.drop_zero] at hi; exact hi.2.symm
      | succ i =>
        refine after_none h i ⟨?_, ?_⟩
        · have := hi.1; simp at this; omega
        · simpa using hi.2
theorem after_some {x : List Nat} : ∀ {g r : List Nat}, after x g = some r → ∃ i, i + x.length ≤ g.length ∧ (g.drop i).take x.length = x ∧ (∀ k, k < i → ¬ (k + x.length ≤ g.length ∧ (g.drop k).take x.length = x)) ∧ r = g.drop (i + x.length)
  | [], r, h => by
    unfold after at h
    split at h
    · rename_i hx
      subst hx
      cases h
      exact ⟨0, by simp, by simp, fun k hk => absurd hk (Nat.not_lt_zero _), by simp⟩
    · cases h
  | c :: t, r, h => by
    unfold after at h
    split at h
    · rename_i hp
      cases h
      rw [List.isPrefixOf_iff_prefix] at hp
      have hle := hp.length_le
      exact ⟨0, by simpa using hle, by rw [List.drop_zero]; exact (List.prefix_iff_eq_take.mp hp).symm, fun k hk => absurd hk (Nat.not_lt_zero _), by rw [Nat.zero_add]⟩
    · rename_i hp
      obtain ⟨i, h1, h2, h3, h4⟩ := after_some h
      refine ⟨i + 1, by simp; omega, by simpa using h2, fun k hk => ?_, by rw [h4, show i + 1 + x.length = (i + x.length) + 1 by omega]; rfl⟩
      cases k with
      | zero =>
        intro hh
        apply hp
        rw [List.isPrefixOf_iff_prefix]
        refine List.prefix_iff_eq_take.mpr ?_
        rw [List.drop_zero] at hh; exact hh.2.symm
      | succ k =>
        intro hh
        refine h3 k (by omega) ⟨by have := hh.1; simp at this; omega, by simpa using hh.2⟩

theorem find3_after (G x : Str) (p : Int) (h0 : 0 ≤ p) (h1 : p ≤ (G.length : Nat)) :
    match after (lst x) ((lst G).drop p.toNat) with
    | none => Txt.find3 G x p < 0
    | some r => 0 ≤ Txt.find3 G x p ∧ r = (lst G).drop (Txt.find3 G x p + (x.length : Nat)).toNat ∧ Txt.find3 G x p + (x.length : Nat) ≤ (G.length : Nat) := by
  have e : fromIndex G.length p = p.toNat := by
    unfold fromIndex
    rw [if_neg (by omega)]; omega
  have hxl := lst_len x
  have hgl := lst_len G
  have key : ∀ i, At G x G.length (p.toNat + i) ↔ (i + (lst x).length ≤ ((lst G).drop p.toNat).length ∧ (((lst G).drop p.toNat).drop i).take (lst x).length = lst x) := by
    intro i
    rw [at_iff, List.length_drop, List.drop_drop, hxl, hgl]
    constructor
    · rintro ⟨a, b⟩; exact ⟨by omega, b⟩
    · rintro ⟨a, b⟩; exact ⟨by omega, b⟩
  have hf : Txt.find3 G x p = match occurrences G x p.toNat G.length 1 with | k :: _ => (k : Int) | [] => -1 := by
    unfold Txt.find3; rw [e]
    cases occurrences G x p.toNat G.length 1 <;> rfl
  rcases occ_head_from G x p.toNat 1 (Nat.le_refl 1) with ⟨h2, h3⟩ | ⟨i, r, h2, h3, h4, h5⟩
  · rw [h2] at hf
    cases ha : after (lst x) ((lst G).drop p.toNat) with
    | none => show Txt.find3 G x p < 0; rw [hf]; decide
    | some r =>
      exfalso
      obtain ⟨i, a1, a2, _, _⟩ := after_some ha
      exact h3 (p.toNat + i) (by omega) ((key i).mpr ⟨a1, a2⟩)
  · rw [h2] at hf
    have hi : i = p.toNat + (i - p.toNat) := by omega
    cases ha : after (lst x) ((lst G).drop p.toNat) with
    | none =>
      exfalso
      rw [hi] at h4
      exact after_none ha _ ((key _).mp h4)
    | some q =>
      obtain ⟨j, a1, a2, a3, a4⟩ := after_some ha
      have hij : i - p.toNat = j := by
        rcases Nat.lt_trichotomy (i - p.toNat) j with hlt | he | hgt
        · rw [hi] at h4
          exact absurd ((key _).mp h4) (a3 _ hlt)
        · exact he
        · exact absurd ((key j).mpr ⟨a1, a2⟩) (h5 _ (by omega) (by omega))
      have hfi : Txt.find3 G x p = (i : Int) := hf
      have hb := h4.1
      show 0 ≤ Txt.find3 G x p ∧ q = (lst G).drop (Txt.find3 G x p + (x.length : Nat)).toNat ∧ Txt.find3 G x p + (x.length : Nat) ≤ (G.length : Nat)
      rw [hfi]
      refine ⟨by omega, ?_, by omega⟩
      rw [a4, List.drop_drop]
      congr 1
      omega

def chase (G : Str) : List Str → Int → Bool
  | [], _ => true
  | x :: r, p => if Txt.find3 G x p < 0 then false else chase G r (Txt.find3 G x p + (x.length : Nat))
def chaseL : List (List Nat) → List Nat → Bool
  | [], _ => true
  | x :: r, g => match after x g with
    | none => false
    | some g' => chaseL r g'
theorem chase_eq (G : Str) : ∀ (xs : List Str) (p : Int), 0 ≤ p → p ≤ (G.length : Nat) → chase G xs p = chaseL (xs.map lst) ((lst G).drop p.toNat)
  | [], _, _, _ => rfl
  | x :: r, p, h0, h1 => by
    have h := find3_after G x p h0 h1
    show (if Txt.find3 G x p < 0 then false else chase G r (Txt.find3 G x p + (x.length : Nat))) = (match after (lst x) ((lst G).drop p.toNat) with | none => false | some g' => chaseL (r.map lst) g')
    cases ha : after (lst x) ((lst G).drop p.toNat) with
    | none =>
      rw [ha] at h
      have h' : Txt.find3 G x p < 0 := h
      rw [if_pos h']
    | some q =>
      rw [ha] at h
      obtain ⟨h2, h3, h4⟩ : 0 ≤ Txt.find3 G x p ∧ q = (lst G).drop (Txt.find3 G x p + (x.length : Nat)).toNat ∧ Txt.find3 G x p + (x.length : Nat) ≤ (G.length : Nat) := h
      rw [if_neg (by omega), chase_eq G r _ (by omega) h4, h3]
theorem after_nil (g : List Nat) : after [] g = some g := by
  cases g <;> simp [after]
theorem chaseL_mid (mid : List (List Nat)) (g : List Nat) : chaseL ([] :: (mid ++ [[]])) g = chaseL mid g := by
  show (match after [] g with | none => false | some g' => chaseL (mid ++ [[]]) g') = _
  rw [after_nil]
  show chaseL (mid ++ [[]]) g = chaseL mid g
  induction mid generalizing g with
  | nil => show (match after [] g with | none => false | some g' => chaseL [] g') = _; rw [after_nil]
  | cons x r ih =>
    show (match after x g with | none => false | some g' => chaseL (r ++ [[]]) g') = (match after x g with | none => false | some g' => chaseL r g')
    cases after x g with
    | none => rfl
    | some q => exact ih q
/-- x stands somewhere in g -/
def inB (x g : List Nat) : Bool := (after x g).isSome
theorem chaseL_one (x g : List Nat) : chaseL [x] g = inB x g := by
  show (match after x g with | none => false | some g' => chaseL [] g') = _
  unfold inB
  cases after x g <;> rfl
theorem starts_eq (G q : Str) : Txt.startswith G q = (lst q).isPrefixOf (lst G) := by
  have h := at_iff G q 0
  unfold At at h
  unfold Txt.startswith
  rw [Bool.eq_iff_iff, Bool.and_eq_true, decide_eq_true_eq, List.isPrefixOf_iff_prefix]
  rw [h, List.drop_zero, List.prefix_iff_eq_take, lst_len]
  constructor
  · rintro ⟨_, b⟩; exact b.symm
  · intro b
    refine ⟨?_, b.symm⟩
    have := congrArg List.length b
    rw [List.length_take, lst_len, lst_len] at this
    omega
end Mine
end
section
open PySem PySem.W PySem.Calls PyProof.Rows PyProof.V PySem.Spec
set_option Elab.async false
set_option maxRecDepth 100000
namespace Mine
section
open PySem.Builtin PySem.Builtin.Re
theorem rx_plain : PlainAttrs "re.Pattern" :=
  ⟨⟨"object.__getattribute__", by rw [typeLookup_type, builtinLookup_eq_fast]; kernel_rfl, by decide +kernel⟩, by rw [typeLookup_type, builtinLookup_eq_fast]; kernel_rfl⟩
theorem rx_slot : Slot "re.Pattern" "search" "re.Pattern.search" :=
  .of (owner := "re.Pattern") (n := "search") (by rw [typeLookup_type, builtinLookup_eq_fast]; kernel_rfl) (by decide +kernel) (by decide +kernel) (by decide +kernel)
    (by first | exact .inl (by decide +kernel) | exact .inr (by decide +kernel)) (by rw [isSubtype_type]; kernel_rfl)
theorem rx_type : typeOf (.builtin "re.Pattern.search") = pure (.type "method_descriptor") := by show builtinType _ = _; rw [builtinType_eq_fast]; kernel_rfl
theorem rx_entry : entryFor table "re.Pattern.search" = some Builtin.«re.Pattern.search» := entryFor_of_tree (by kernel_rfl)
theorem rx_args (a b : Value) : argsOk "re.Pattern.search" ⟨[a, b], []⟩ := by unfold argsOk; kernel_rfl

def codeN : Array Nat := #[14, 10, 4, 1, 1, 22, 0, 31, 16, 127, 0, 13, 7, 22, 0, 31, 16, 127, 0, 1]
def codeV : Array Nat := #[14, 14, 4, 1, 1, 9, 4294966783, 0, 0, 2147483648, 0, 0, 0, 0, 0, 13, 11, 9, 4294966783, 0, 0, 2147483648, 0, 0, 0, 0, 0, 1]
def NoHit (code : Array Nat) (c : Nat) : Prop := ∀ seen, ∃ seen', Sre.inSet code c code.size 5 true seen = .ok (false, seen')
theorem noHitN {c : Nat} (h1 : 32 < c) (h2 : c < 127) : NoHit codeN c := by
  intro seen
  have a1 : (decide (0 ≤ c) && decide (c ≤ 31)) = false := by simp; omega
  have a2 : (c == 127) = false := by simp; omega
  refine ⟨((seen.add 22).add 16).add 0, ?_⟩
  show (if (decide (0 ≤ c) && decide (c ≤ 31)) = true then _ else (if (c == 127) = true then _ else _)) = _
  rw [a1, a2]
  rfl
theorem noHitV {c : Nat} (h1 : 32 < c) (h2 : c < 127) : NoHit codeV c := by
  intro seen
  have a1 : (decide (c < 256) && (codeV.getD (5 + (1 + c / 32)) 0).testBit (c % 32)) = false := by
    rw [Bool.and_eq_false_iff]
    right
    rcases (by omega : c / 32 = 1 ∨ c / 32 = 2 ∨ c / 32 = 3) with e | e | e
    · rw [e]; show Nat.testBit 0 _ = false; exact Nat.zero_testBit _
    · rw [e]; show Nat.testBit 0 _ = false; exact Nat.zero_testBit _
    · rw [e]
      show Nat.testBit 2147483648 _ = false
      rw [show (2147483648 : Nat) = 2 ^ 31 from rfl, Nat.testBit_two_pow]
      simp; omega
  refine ⟨(seen.add 9).add 0, ?_⟩
  show (if (decide (c < 256) && (codeV.getD (5 + (1 + c / 32)) 0).testBit (c % 32)) = true then _ else _) = _
  rw [a1]
  rfl
theorem admitted_none (m : Sre.M) (h : ∀ s, s < m.lim → NoHit m.code (m.text.getD s 0)) : ∀ fuel s seen, ∃ seen', Sre.M.admitted m fuel s seen = .ok (none, seen')
  | 0, _, seen => ⟨seen, rfl⟩
  | fuel + 1, s, seen => by
    unfold Sre.M.admitted
    split
    · exact ⟨seen, rfl⟩
    · rename_i hs
      obtain ⟨seen', e⟩ := h s (by omega) seen
      rw [e]
      exact admitted_none m h fuel (s + 1) seen'
def m0 (code text : Array Nat) (pc : Nat) : Sre.M :=
  { code, text, lim := text.size, start := 0, pc, pos := 0, handed := 0, marks := Array.replicate (2 * 0) none, mustAdvance := false, seen := ({} : Sre.Seen).add 14 }
theorem attempt_none (code text : Array Nat) (pc : Nat) (hf : (m0 code text pc).hasFirstSet = true) (hc : ∀ s, s < text.size → NoHit code (text.getD s 0)) :
    ∃ m, Sre.M.attemptFrom { m0 code text pc with lastStart := text.size } 0 true = m ∧ m.answer = some false ∧ m.frames = [] ∧ m.outcome = none := by
  obtain ⟨seen', e⟩ := admitted_none { m0 code text pc with lastStart := text.size } hc (text.size + 1 - 0) 0 (({} : Sre.Seen).add 14)
  refine ⟨_, rfl, ?_⟩
  have e1 : Sre.M.attemptFrom { m0 code text pc with lastStart := text.size } 0 true = ({ { m0 code text pc with lastStart := text.size } with seen := seen' } : Sre.M).say false := by
    unfold Sre.M.attemptFrom
    have hf' : ({ m0 code text pc with lastStart := text.size } : Sre.M).hasFirstSet = true := hf
    rw [hf']
    show (match Sre.M.admitted { m0 code text pc with lastStart := text.size } (text.size + 1 - 0) 0 (({} : Sre.Seen).add 14) with
      | .ok (some s, seen) => _
      | .ok (none, seen) => ({ { m0 code text pc with lastStart := text.size } with seen } : Sre.M).say false
      | .error why => _) = _
    rw [e]
  rw [e1]
  exact ⟨rfl, rfl, rfl⟩
theorem search_N (text : Array Nat) (hc : ∀ s, s < text.size → NoHit codeN (text.getD s 0)) : ∃ m, Sre.forSearch codeN text 0 0 text.size false = m ∧ m.answer = some false ∧ m.frames = [] ∧ m.outcome = none := by
  have e : Sre.forSearch codeN text 0 0 text.size false = if (decide (0 > text.size) || decide (text.size - 0 < 1)) = true then (m0 codeN text 11).say false else Sre.M.attemptFrom { m0 codeN text 11 with lastStart := text.size } 0 true := rfl
  rw [e]
  split
  · exact ⟨_, rfl, rfl, rfl, rfl⟩
  · exact attempt_none codeN text 11 rfl hc
theorem search_V (text : Array Nat) (hc : ∀ s, s < text.size → NoHit codeV (text.getD s 0)) : ∃ m, Sre.forSearch codeV text 0 0 text.size false = m ∧ m.answer = some false ∧ m.frames = [] ∧ m.outcome = none := by
  have e : Sre.forSearch codeV text 0 0 text.size false = if (decide (0 > text.size) || decide (text.size - 0 < 1)) = true then (m0 codeV text 15).say false else Sre.M.attemptFrom { m0 codeV text 15 with lastStart := text.size } 0 true := rfl
  rw [e]
  split
  · exact ⟨_, rfl, rfl, rfl, rfl⟩
  · exact attempt_none codeV text 15 rfl hc

section
variable {prog : Program} {w : World} {A : Around} {E : Value → Shared → Prop} {s : Shared}
theorem drive_done {M : Model} {m : Sre.M} {Q : Sre.M → Shared → Prop} {n : Nat} (h1 : m.answer = some false) (h2 : m.frames = []) (h3 : m.outcome = none) (h : ∀ m' : Sre.M, m'.outcome = some .failed → Q m' s) : wpAny M A (reDrive (n + 1) m) Q E s := by
  have e : m.runFor reTurnSteps = { m with outcome := some .failed } := by
    show (if m.outcome.isSome = true then m else Sre.M.runFor 3 m.step) = _
    rw [h3]
    have es : m.step = { m with outcome := some .failed } := by
      unfold Sre.M.step
      rw [h3, h1, h2]
      rfl
    rw [es]
    rfl
  unfold reDrive
  dsimp only
  rw [e]
  show wpAny M A (if (some Sre.Outcome.failed : Option Sre.Outcome).isSome = true then _ else _) Q E s
  rw [if_pos (show (some Sre.Outcome.failed : Option Sre.Outcome).isSome = true from rfl)]
  exact wpAny_pure (h { m with outcome := some .failed } rfl)
theorem rules_done {M : Model} {l : List Nat} {body : Nat → PUnit → Sem (ForInStep PUnit)} {Q : PUnit → Shared → Prop} (hb : ∀ i (Q : ForInStep PUnit → Shared → Prop), Q (.yield ⟨⟩) s → wpAny M A (body i ⟨⟩) Q E s) (h : Q ⟨⟩ s) :
    wpAny M A (forIn l PUnit.unit body) Q E s := by
  induction l with
  | nil => exact wpAny_pure h
  | cons a r ih =>
    rw [List.forIn_cons]
    exact wpAny_bind (hb a _ ih)
theorem runToEnd_none {M : Model} {m : Sre.M} {Q : Option Sre.M → Shared → Prop} (h1 : m.answer = some false) (h2 : m.frames = []) (h3 : m.outcome = none) (h : Q none s) : wpAny M A (reRunToEnd m) Q E s := by
  unfold reRunToEnd
  rw [show (2 ^ 64 : Nat) = 18446744073709551615 + 1 from rfl]
  refine wpAny_bind (drive_done h1 h2 h3 fun m' hm => ?_)
  refine wpAny_bind (rules_done (fun i Q hq => ?_) ?_)
  · split
    · repeat (first | exact wpAny_pure hq | refine wpAny_bind ?_ | refine wpAny_rule ?_)
    · repeat (first | exact wpAny_pure hq | refine wpAny_bind ?_ | refine wpAny_rule ?_)
  rw [hm]
  exact wpAny_pure h

theorem answer_none {M : Model} {tt : ReTarget} {code text : Array Nat} {R : Result → Shared → Prop} {E : Value → Shared → Prop} (e1 : tt.code = code) (e2 : tt.text = text) (e3 : tt.groups = 0) (e4 : tt.pos = 0) (e5 : tt.lim = text.size)
    (hno : ∃ m, Sre.forSearch code text 0 0 text.size false = m ∧ m.answer = some false ∧ m.frames = [] ∧ m.outcome = none) (h' : R (.ok (.ret .none)) s) :
    wpAny M A (reAnswer tt (Sre.forSearch tt.code tt.text tt.groups tt.pos tt.lim false)) (fun fin s' => ∃ v, fin = Fin.done (Flow.ret v) ∧ R (Except.ok (Flow.ret v)) s') E s := by
  obtain ⟨mm, em, a1, a2, a3⟩ := hno
  unfold reAnswer
  rw [e1, e2, e3, e4, e5, em]
  exact wpAny_bind (runToEnd_none a1 a2 a3 (wpAny_pure ⟨_, rfl, h'⟩))
/-- the rule: a compiled pattern that finds nothing -/
theorem search_rule {P C : Addr} {oP oC : Obj} {pv fl gi ix : Value} {x : Str} {t : Tok} {cs : Array Value} {code : Array Nat} {n : Nat} {Q : Value → Shared → Prop} {z0 z1 : Tok}
    (hP : s.heap.get? P = some oP) (hPc : oP.cls = .type "re.Pattern") (hPd : oP.data = .fields #[pv, fl, .int 0 z0, gi, ix, .ref C, .int 0 z1]) (hC : s.heap.get? C = some oC) (hCd : oC.data = .seq cs n)
    (hcode : (cs.map reRawOf).map (·.toNat) = code) (hno : ∃ m, Sre.forSearch code x.cps 0 0 x.cps.size false = m ∧ m.answer = some false ∧ m.frames = [] ∧ m.outcome = none) (hx : x.length ≤ 1000)
    (h : Q .none s) : wpAny (model prog w) A (call (.builtin "re.Pattern.search") [.ref P, .str x t]) Q E s := by
  refine call_meetsIn (S := fun _ R s' => s'.heap.get? P = some oP ∧ s'.heap.get? C = some oC ∧ R (.ok (.ret .none)) s') rx_slot ⟨oP, hP, hPc⟩ rx_entry (rx_args _ _) (.of_wp fun A R s' ⟨hP', hC', h'⟩ => ?_) ⟨hP, hC, h⟩
  unfold Builtin.«re.Pattern.search»
  refine wpAny_bind ?_
  unfold reTarget
  dsimp only
  refine wpAny_bind (m := reNamed _ _ _ _ _ _) (wpAny_pure ?_)
  refine wpAny_bind (m := (pure 0 : Sem Int)) (wpAny_pure ?_)
  refine wpAny_bind (m := (pure (2 ^ 63 - 1) : Sem Int)) (wpAny_pure ?_)
  refine wpAny_bind (m := fieldsOf (Value.ref P)) ?_
  unfold fieldsOf
  refine wpAny_bind (wpAny_load hP' ?_)
  rw [hPd]
  refine wpAny_pure ?_
  refine wpAny_bind (m := reTextOf (Value.str x t)) ?_
  unfold reTextOf
  refine wpAny_bind (m := asStr? (Value.str x t)) (wpAny_pure ?_)
  refine wpAny_pure ?_
  refine wpAny_bind (m := reNoCollectionInside (Value.str x t) 0) (wpAny_pure ?_)
  refine wpAny_bind (m := reRawItems (Value.ref C)) ?_
  unfold reRawItems
  refine wpAny_bind (m := seqItems? (Value.ref C)) ?_
  unfold seqItems?
  refine wpAny_bind (wpAny_load hC' ?_)
  rw [hCd]
  refine wpAny_pure ?_
  refine wpAny_pure ?_
  refine wpAny_pure ?_
  obtain ⟨mm, em, a1, a2, a3⟩ := hno
  have hl : Min.min (2 ^ 63 - 1 : Int).toNat x.cps.size = x.cps.size := by
    have : x.cps.size ≤ 1000 := hx
    show min 9223372036854775807 _ = _
    omega
  have hp0 : Min.min (Int.toNat 0) x.cps.size = 0 := Nat.zero_min _
  exact answer_none (code := code) hcode rfl rfl hp0 hl ⟨mm, em, a1, a2, a3⟩ h'
theorem search_meth {P : Addr} {oP : Obj} {pl : Sem Bool} {Q : Value × List Value → Shared → Prop} (hP : s.heap.get? P = some oP) (hPc : oP.cls = .type "re.Pattern") (hPn : oP.dict = none)
    (h : Q (.builtin "re.Pattern.search", [.ref P]) s) : wpAny (model prog w) A (getMethod (.ref P) "search" pl) Q E s :=
  getMethod_builtin ⟨oP, hP, hPc⟩ rx_plain rx_slot rx_type (fun a e => by cases e; exact ⟨oP, hP, hPn⟩) h
end
end
end Mine
end
section
open PySem PySem.W PySem.Calls PyProof.Rows PyProof.V PySem.Spec
set_option Elab.async false
set_option maxRecDepth 100000
namespace Mine
/-- letters a, b and c -/
def Abc (x : Str) : Prop := ∀ c ∈ lst x, c = 97 ∨ c = 98 ∨ c = 99
theorem up_lst {x : Str} (h : Abc x) : lst (Txt.upper x) = (lst x).map (· - 32) := by
  show ((x.cps.mapIdx fun i c => (PySem.Unicode.upperOf c).toArray).flatten).toList = _
  have h1 : (x.cps.mapIdx fun i c => (PySem.Unicode.upperOf c).toArray) = (x.cps.map fun c => #[c - 32]) := by
    apply Array.ext
    · simp
    · intro i hi hi2
      have hi3 : i < x.cps.size := by simpa using hi
      simp only [Array.getElem_mapIdx, Array.getElem_map]
      rcases h _ (show x.cps[i] ∈ lst x from Array.getElem_mem_toList hi3) with e | e | e <;> rw [e] <;> decide +kernel
  rw [h1]
  simp only [Array.toList_flatten, Array.toList_map, List.map_map]
  show (List.map (fun c => [c - 32]) x.cps.toList).flatten = x.cps.toList.map (· - 32)
  generalize x.cps.toList = l
  induction l with
  | nil => rfl
  | cons a r ih => simp [ih]
def lowc (c : Nat) : Nat := if c < 97 then c + 32 else c
theorem low_lst {x : Str} (h : ∀ c ∈ lst x, c = 65 ∨ c = 66 ∨ c = 67 ∨ c = 97 ∨ c = 98 ∨ c = 99) : lst (Txt.lower x) = (lst x).map lowc := by
  show ((x.cps.mapIdx fun i c => (PySem.Unicode.lowerAt x.cps i).toArray).flatten).toList = _
  have h1 : (x.cps.mapIdx fun i c => (PySem.Unicode.lowerAt x.cps i).toArray) = (x.cps.map fun c => #[lowc c]) := by
    apply Array.ext
    · simp
    · intro i hi hi2
      have hi3 : i < x.cps.size := by simpa using hi
      simp only [Array.getElem_mapIdx, Array.getElem_map]
      have hm := h _ (show x.cps[i] ∈ lst x from Array.getElem_mem_toList hi3)
      unfold PySem.Unicode.lowerAt
      rw [Array.getElem?_eq_getElem hi3]
      generalize x.cps[i] = c at hm
      have hne : (c == 0x3A3) = false := by
        rcases hm with e | e | e | e | e | e <;> rw [e] <;> rfl
      simp only [hne, Bool.false_and, Bool.false_eq_true, if_false]
      rcases hm with e | e | e | e | e | e <;> rw [e] <;> decide +kernel
  rw [h1]
  simp only [Array.toList_flatten, Array.toList_map, List.map_map]
  show (List.map (fun c => [lowc c]) x.cps.toList).flatten = x.cps.toList.map lowc
  generalize x.cps.toList = l
  induction l with
  | nil => rfl
  | cons a r ih => simp [ih]
theorem low_abc {x : Str} (h : Abc x) : Txt.lower x = x := by
  apply lst_inj
  rw [low_lst fun c hc => by rcases h c hc with e | e | e <;> simp [e]]
  conv => rhs; rw [← List.map_id (lst x)]
  apply List.map_congr_left
  intro c hc
  rcases h c hc with e | e | e <;> rw [e] <;> rfl
theorem up_low {x : Str} (h : Abc x) : Txt.lower (Txt.upper x) = x := by
  apply lst_inj
  rw [low_lst, up_lst h, List.map_map]
  · conv => rhs; rw [← List.map_id (lst x)]
    apply List.map_congr_left
    intro c hc
    rcases h c hc with e | e | e <;> rw [e] <;> rfl
  · intro c hc
    rw [up_lst h] at hc
    obtain ⟨d, hd, rfl⟩ := List.mem_map.mp hc
    rcases h d hd with e | e | e <;> simp [e]
theorem up_len {x : Str} (h : Abc x) : (Txt.upper x).length = x.length := by
  rw [← lst_len, ← lst_len, up_lst h, List.length_map]
theorem Abc.chars {x : Str} (h : Abc x) : ∀ c ∈ lst x, 32 < c ∧ c < 127 := fun c hc => by
  rcases h c hc with e | e | e <;> rw [e] <;> decide
theorem Abc.upChars {x : Str} (h : Abc x) : ∀ c ∈ lst (Txt.upper x), 32 < c ∧ c < 127 := fun c hc => by
  rw [up_lst h] at hc
  obtain ⟨d, hd, rfl⟩ := List.mem_map.mp hc
  rcases h d hd with e | e | e <;> rw [e] <;> decide
theorem Abc.nodot {x : Str} (h : Abc x) : 46 ∉ lst x := fun hc => by
  rcases h 46 hc with e | e | e <;> cases e
end Mine
end
section
open PySem PySem.W PySem.Calls PyProof.Rows PyProof.V PySem.Spec
set_option Elab.async false
set_option maxRecDepth 100000
namespace Mine
section
variable {prog : Program} {w : World} {A : Around} {s : Shared} {h₀ : Heap} {L : Addr} {m : Str → Option Value} {news : List (Addr × Obj)} {K : Frag} {p : Program} {loose : List Str} {mean : ExcName → Option Value} {mg mb : Str → Option Value}
  {R : Result → Shared → Prop} {name qual : Str} {params : Arguments} {body : List Stmt} {scope : Scope} {dV kV doc pm cdv ct oc : Value} {an od : Option Addr} {osl : Array (Option Value)} {f : Addr} {args : Args} {binds : List (Str × Value)}
theorem code_in (F : Fr h₀ L s.heap m) (N : News h₀ L s.heap news) (X : K.In h₀) (T : Top p loose mean mg mb h₀)
    (ho : K.lookup f = some ⟨oc, od, .func (fnOf name qual params body scope dV kV doc pm an cdv ct), osl⟩) (hcd : codeIn K cdv qual = true) (hroom : A.depth < recursionLimit)
    (hbind : BindsTo s (fnOf name qual params body scope dV kV doc pm an cdv ct) args binds) (hloc : ∀ y ∈ binds, scope.names.lookup y.1 = some .local)
    (hcell : ∀ x ∈ scope.names, x.2 ≠ .cell) (hco : scope.isCoroutine = false) (hgen : scope.isGenerator = false) (hk : scope.kind = .function)
    (h : ∀ g L' h₁, Fr g L' h₁ (fun y => binds.reverse.lookup y) → News g L' h₁ news → K.In g → Top p loose mean mg mb g → h₀.StaysIn g →
      wpAny (model prog w) (A.deeper (envOf qual scope L' f cdv)) (execs body (envOf qual scope L' f cdv))
        (fun fl s' => LeaveK h₀ L m g R (match fl with | .ret v => v | _ => .none) s') (fun _ _ => False) { s with heap := h₁, toks := s.toks + binds.length }) :
    codeAny (model prog w) A (.call (.ref f) args) R s := by
  refine codeAny_call_def (fd := fnOf name qual params body scope dV kV doc pm an cdv ct) (body := body) (binds := binds) hroom ((X.keeps F.keep) _ _ ho) rfl (T.nolimit.keeps F.keep) (codeRec_of (X.keeps F.keep) hcd) rfl hbind hcell hloc (fun h₁ hns hk₁ => ?_) hco hgen hk
  have nm : ∀ b o, h₀.get? b = some o → b ∉ news.map (·.1) := fun b o e q => by
    obtain ⟨p, hp, rfl⟩ := List.mem_map.mp q
    rw [(N p hp).2.2] at e; cases e
  have st : h₀.StaysIn (hideAll s.heap (news.map (·.1))) := fun b o e => hideAll_get _ (F.keep b o e) (nm b o e)
  obtain ⟨oL, es, ep, hL, hLd, hLk, hLf⟩ := F.ns
  have nL : L ∉ news.map (·.1) := fun q => by
    obtain ⟨p, hp, e⟩ := List.mem_map.mp q
    exact (N p hp).2.1 e
  have hLg := hideAll_get (news.map (·.1)) hL nL
  refine wpAny_mono (h (hideAll s.heap (news.map fun (q : Addr × Obj) => q.1)) s.heap.objs.size h₁ ⟨hns, fun b o e => hk₁ b o (of_hideAll _ e), Nat.le_of_eq (hideAll_size _ _)⟩
    (fun p hp => ⟨hk₁ _ _ (N p hp).1, Nat.ne_of_lt (Heap.lt_size (N p hp).1), hideAll_none _ (List.mem_map_of_mem hp)⟩) (X.keeps (fun b o e => st b o e)) (T.keeps (fun b o e => st b o e)) st) (fun fl s' hl => ?_) fun _ _ y => y.elim
  obtain ⟨L', m', news', F', N', k⟩ := hl
  refine k ⟨⟨oL, es, ep, F'.keep L oL hLg, hLd, hLk, hLf⟩, fun b o e => F'.keep b o (st b o e), F.above⟩ fun p hp => ⟨(N' p hp).1, fun q => ?_, ?_⟩
  · have := (N' p hp).2.2; rw [q, hLg] at this; cases this
  · cases q : h₀.get? p.1 with
    | none => rfl
    | some o => have := (N' p hp).2.2; rw [st _ _ q] at this; cases this
end
section
variable {prog : Program} {w : World} {dp un : Nat} {fr : List Env} {gd : Option (List Code)} {E Q : Value → Shared → Prop} {s : Shared} {h₀ : Heap} {L : Addr} {m : Str → Option Value} {news : List (Addr × Obj)} {K : Frag} {p : Program} {loose : List Str} {mean : ExcName → Option Value} {mg mb : Str → Option Value}
  {name qual : Str} {params : Arguments} {body : List Stmt} {scope : Scope} {dV kV doc pm cdv ct oc : Value} {an od : Option Addr} {osl : Array (Option Value)} {f C : Addr} {args : List Value} {kw : List (Str × Value)} {binds : List (Str × Value)}
def RQ (E Q : Value → Shared → Prop) (r : Result) (s' : Shared) : Prop := match r with | .ok (.ret v) => Q v s' | .ok _ => False | .error e => E e s'
/-- a call in which what the caller holds may change -/
theorem call_in (F : Fr h₀ L s.heap m) (N : News h₀ L s.heap news) (X : K.In h₀) (T : Top p loose mean mg mb h₀)
    (ho : K.lookup f = some ⟨oc, od, .func (fnOf name qual params body scope dV kV doc pm an cdv ct), osl⟩) (hcd : codeIn K cdv qual = true) (hroom : dp < recursionLimit)
    (hbind : BindsTo s (fnOf name qual params body scope dV kV doc pm an cdv ct) ⟨args, kw⟩ binds) (hloc : ∀ y ∈ binds, scope.names.lookup y.1 = some .local)
    (hcell : ∀ x ∈ scope.names, x.2 ≠ .cell) (hco : scope.isCoroutine = false) (hgen : scope.isGenerator = false) (hk : scope.kind = .function)
    (h : ∀ g L' h₁, Fr g L' h₁ (fun y => binds.reverse.lookup y) → News g L' h₁ news → K.In g → Top p loose mean mg mb g → h₀.StaysIn g →
      wpAny (model prog w) (amb (dp + 1) (un + 3) (envOf qual scope L' f cdv :: fr) gd) (execs body (envOf qual scope L' f cdv))
        (fun fl s' => LeaveK h₀ L m g (RQ E Q) (match fl with | .ret v => v | _ => .none) s') (fun _ _ => False) { s with heap := h₁, toks := s.toks + binds.length }) :
    wpAny (model prog w) (amb dp un fr gd) (call (.ref f) args kw) Q E s :=
  wpAny_call (code_in (A := amb dp un fr gd) (R := RQ E Q) F N X T ho hcd hroom hbind hloc hcell hco hgen hk h)
/-- a fresh object of a class -/
theorem call_new {bs : Addr → List (Str × Value)} (F : Fr h₀ L s.heap m) (N : News h₀ L s.heap news) (X : K.In h₀) (T : Top p loose mean mg mb h₀) (hm : makesIn K C = true) (hi : findIn K (.ref C) "__init__" = some (some (.ref f))) (hf : isFn K (.ref f) = true)
    (ho : K.lookup f = some ⟨oc, od, .func (fnOf name qual params body scope dV kV doc pm an cdv ct), osl⟩) (hcd : codeIn K cdv qual = true) (hroom : dp + 1 < recursionLimit)
    (hbind : ∀ x s, BindsTo s (fnOf name qual params body scope dV kV doc pm an cdv ct) ⟨.ref x :: args, kw⟩ (bs x)) (hloc : ∀ x, ∀ y ∈ bs x, scope.names.lookup y.1 = some .local)
    (hcell : ∀ x ∈ scope.names, x.2 ≠ .cell) (hco : scope.isCoroutine = false) (hgen : scope.isGenerator = false) (hk : scope.kind = .function)
    (h : ∀ x dx h₂ g L' h₁, (∀ p ∈ news, p.1 < dx) → dx < x → Fr h₀ L h₂ m → Fr g L' h₁ (fun y => (bs x).reverse.lookup y) → News g L' h₁ ((x, instObj C dx) :: (dx, dictOf [] 0) :: news) → K.In g → Top p loose mean mg mb g → h₀.StaysIn g →
      wpAny (model prog w) (amb (dp + 1 + 1) (un + 1 + 3) (envOf qual scope L' f cdv :: fr) gd) (execs body (envOf qual scope L' f cdv))
        (fun fl s' => LeaveK h₀ L m g (InitBack x (RQ E Q)) (match fl with | .ret v => v | _ => .none) s') (fun _ _ => False) { s with heap := h₁, toks := s.toks + (bs x).length }) :
    wpAny (model prog w) (amb dp un fr gd) (call (.ref C) args kw) Q E s := by
  refine call_cls F X N hm hi hf fun x dx h' F' N' l1 l2 => ?_
  refine code_in (s := { s with heap := h' }) (R := InitBack x (RQ E Q)) (A := (amb dp un fr gd).under (.builtin "type.__call__" ⟨.ref C :: args, kw⟩)) F' N' X T ho hcd hroom (hbind x _) (hloc x) hcell hco hgen hk ?_
  · intro g L' h₁ F₁ N₁ X₁ T₁ st
    exact h x dx h' g L' h₁ l1 l2 F' F₁ N₁ X₁ T₁ st
end
end Mine
end
section
open PySem PySem.W PySem.Calls PyProof.Rows PyProof.V PySem.Spec
set_option Elab.async false
set_option maxRecDepth 100000
namespace Mine
open PySem.Builtin.Str
theorem slice_neg (x : Str) (l : Option Int) {j : Int} (h : j < 0) (h2 : -(x.length : Int) ≤ j) : Txt.slice x l (some j) = Txt.slice x l (some (j + x.length)) := by
  have e : strSliceIndices l (some j) 1 x.length = strSliceIndices l (some (j + x.length)) 1 x.length := by
    unfold strSliceIndices
    dsimp only
    rw [if_pos h, if_neg (show ¬ (j + (x.length : Int) < 0) by omega)]
  unfold Txt.slice
  rw [e]
theorem slice_ab {x : Str} {a b : Int} (h0 : 0 ≤ a) (h1 : a ≤ b) (h2 : b ≤ x.length) : lst (Txt.slice x (some a) (some b)) = ((lst x).drop a.toNat).take (b - a).toNat := by
  rw [eq_of_beq (slice_closesL h0 h1 h2)]
theorem slice_init {x : Str} (h : 1 ≤ x.length) : lst (Txt.slice x none (some (-1))) = (lst x).dropLast := by
  rw [eq_of_beq (slice_closes_to_neg (x := x) (j := -1) (by omega) (by omega) rfl)]
  show ((lst x).drop 0).take _ = _
  rw [List.drop_zero, List.dropLast_eq_take, lst_len]
  congr 1; omega
theorem slice_mid {x : Str} (h : 2 ≤ x.length) : lst (Txt.slice x (some 1) (some (-1))) = ((lst x).drop 1).dropLast := by
  rw [slice_neg x _ (by omega) (by omega), slice_ab (by omega) (by omega) (by omega), List.dropLast_eq_take, List.length_drop, lst_len]
  congr 1; omega
theorem item_last {x : Str} (h : 1 ≤ x.length) : lst (Txt.item x (-1)) = [(lst x).getLast?.getD 0] := by
  rw [eq_of_beq (item_closes_neg (x := x) (i := -1) (j := -1 + x.length) (by omega) (by omega) rfl)]
  have hl := lst_len x
  rw [List.getLast?_eq_getElem?, hl]
  have e : (-1 + (x.length : Int)).toNat = x.length - 1 := by omega
  rw [e]
  show [x.cps.getD (x.length - 1) 0] = _
  congr 1
  have : x.length - 1 < x.cps.size := by have : x.length = x.cps.size := rfl; omega
  simp [lst, this]
theorem Abc.of {x : Str} {l : List Nat} (h : ∀ c ∈ l, c = 97 ∨ c = 98 ∨ c = 99) (e : ∀ c ∈ lst x, c ∈ l) : Abc x := fun c hc => h c (e c hc)
theorem abc_init {x : Str} (hx : Abc x) (h : 1 ≤ x.length) : Abc (Txt.slice x none (some (-1))) := Abc.of hx fun c hc => by
  rw [slice_init h] at hc; exact List.dropLast_subset _ hc
theorem abc_mid {x : Str} (hx : Abc x) (h : 2 ≤ x.length) : Abc (Txt.slice x (some 1) (some (-1))) := Abc.of hx fun c hc => by
  rw [slice_mid h] at hc; exact List.mem_of_mem_drop (List.dropLast_subset _ hc)
theorem abc_item {x : Str} (hx : Abc x) (h : 1 ≤ x.length) : Abc (Txt.item x (-1)) := fun c hc => by
  rw [item_last h] at hc
  rw [List.mem_singleton.mp hc]
  have hl := lst_len x
  obtain ⟨y, hy⟩ : ∃ y, (lst x).getLast? = some y := by
    cases q : (lst x).getLast? with
    | some y => exact ⟨y, rfl⟩
    | none => rw [List.getLast?_eq_none_iff] at q; rw [q] at hl; simp at hl; omega
  rw [hy]
  exact hx _ (List.mem_of_getLast? hy)
theorem abc_app {x y : Str} (hx : Abc x) (hy : Abc y) : Abc (x ++ y) := fun c hc => by
  rw [lst_append] at hc
  rcases List.mem_append.mp hc with h | h
  · exact hx c h
  · exact hy c h
theorem abc_nil : Abc (Str.ofString "") := fun c hc => by cases hc
end Mine
end
section
open PySem PySem.W PySem.Calls PyProof.Rows PyProof.V PySem.Spec
set_option Elab.async false
set_option maxRecDepth 100000
namespace Mine
section
variable {prog : Program} {w : World} {A : Around} {E : Value → Shared → Prop} {s : Shared} {env : Env} {h₀ : Heap} {target : Expr} {body : List Stmt} {Q : Flow → Shared → Prop}
theorem letGo_rangeiter {Q' : Unit → Shared → Prop} {s' : Shared} {I : Addr} {x l st : Int} {v : Value} (hit : IsRangeIter s'.heap I x l st) (h : Q' () s') : wpAny (model prog w) A (letOwnedTupleGo target (.ref I) v) Q' E s' := by
  unfold letOwnedTupleGo
  cases target <;> first
    | exact wpAny_pure h
    | (cases v <;> first
        | exact wpAny_pure h
        | (refine wpAny_bind (wpAny_load hit ?_)
           exact wpAny_pure h))
theorem it_range {σ : Type} {r : Addr} {n : Nat} {t0 u0 v0 : Tok} {m₀ : Str → Option Value} {keep led₀ : List (Addr × Obj)}
    (Led : σ → List (Addr × Obj)) (ps : σ → List (Str × Value)) (Facts : Nat → σ → Prop) (nm : List Str)
    (hh : A.handled = none) (hr : IsRange s.heap r 0 (n : Int) 1 t0 u0 v0) (hn : n ≤ 100000)
    (F : Fr h₀ env.locals s.heap m₀) (N : News h₀ env.locals s.heap led₀) (hkeep : ∀ c, InLed (Led c) keep) (start : ∃ c₀ : σ, Led c₀ = led₀ ∧ Facts 0 c₀ ∧ PsAre m₀ (ps c₀))
    (turn : ∀ I (i : Nat) (c : σ) t (u : Str → Option Value) h₁ tk₁ oI, i < n → Facts i c → AllLt I led₀ → AllNe I (Led c) → Fr h₀ env.locals h₁ (fmap nm u m₀ (ps c)) → News h₀ env.locals h₁ ((I, oI) :: Led c) →
      wpAny (model prog w) A (assign target env (.int i t)) (fun _ s₂ => wpAny (model prog w) A (execs body env) (LPost h₀ env.locals I oI (SJ Led ps Facts nm m₀ (i + 1)) { s with heap := h₁, toks := tk₁ } Q) E s₂) E { s with heap := h₁, toks := tk₁ })
    (done : ∀ (c : σ) (u : Str → Option Value) h' tk, Facts n c → Fr h₀ env.locals h' (fmap nm u m₀ (ps c)) → News h₀ env.locals h' (Led c) → Q .next { s with heap := h', toks := tk }) :
    wpAny (model prog w) A (pyIter (.ref r)) (fun it s₂ => TurnsAt prog w A h₀ env target body Q E it s₂) E s := by
  refine wpAny_pyIter_range hr (small_one (by decide) (by omega) (by omega) (by omega)) ?_
  have hsz : Builtin.Range.rangeSize 0 (n : Int) 1 = (n : Int) := by rw [rangeSize_nat]; omega
  refine turns_S (tk0 := s.toks) (n := n) (keep := keep) (fp := []) Led ps Facts nm (KTurns.ofWalks (Walks.range hh s.heap.objs.size 0 1 n) fun i v s Q E st q => letGo_rangeiter st q)
    (fun i h st => ⟨_, st⟩) (next_is_new F) (Nat.ne_of_lt F.ns.lt) (fun h => nomatch h) (fun b hb => nomatch hb) (fun p hp => Nat.ne_of_lt (Heap.lt_size (N p hp).1)) ?_ (F.push _)
    (fun p hp => ⟨Heap.get?_push_of_some _ (N p hp).1, (N p hp).2⟩) hkeep start ?_ done
  · show IsRangeIter _ _ _ _ _
    rw [hsz]
    simpa using Heap.get?_push_size _ rfl
  · rintro i c v u h₁ tk₁ oI hi ⟨t, rfl⟩ hf' hne' F₁ N₁
    have := turn _ i c t u h₁ tk₁ oI hi hf' (allLt_of fun p hp => Heap.lt_size (N p hp).1) (AllNe.of hne') F₁ N₁
    simpa using this
end
end Mine
end
section
open PySem PySem.W PySem.Calls PyProof.Rows PyProof.V PySem.Spec
set_option Elab.async false
set_option maxRecDepth 100000
namespace Mine
section
variable {prog : Program} {w : World} {A : Around} {E : Value → Shared → Prop} {R : Result → Shared → Prop} {s : Shared}
theorem turn2_outer (elt t1 i1 t2 i2 : PySem.Expr) (scope : Scope) (pos : Pos) (it acc : Value) (env : Env) :
    compTurn (.ListComp elt [⟨t1, i1, [], 0⟩, ⟨t2, i2, [], 0⟩] scope pos) 0 it acc env = (standAt i1.pos >>= fun _ => pyNext it >>= fun r => match r with
      | none => pure (.done .next)
      | some v => letOwnedTupleGo t1 it v >>= fun _ => assign t1 env v >>= fun _ =>
        eval i2 env >>= fun x => standAt i2.pos >>= fun _ => foldedSetIterable i2 env x >>= fun x => holding [x] (pyIter x) >>= fun it' =>
          runOwn (.compStart (.ListComp elt [⟨t1, i1, [], 0⟩, ⟨t2, i2, [], 0⟩] scope pos) 1 it' acc env) env >>= fun _ =>
          again (.compLoop (.ListComp elt [⟨t1, i1, [], 0⟩, ⟨t2, i2, [], 0⟩] scope pos) 0 it acc env)) := by rfl
theorem turn2_inner (elt t1 i1 t2 i2 : PySem.Expr) (scope : Scope) (pos : Pos) (it acc : Value) (env : Env) :
    compTurn (.ListComp elt [⟨t1, i1, [], 0⟩, ⟨t2, i2, [], 0⟩] scope pos) 1 it acc env = (standAt i2.pos >>= fun _ => pyNext it >>= fun r => match r with
      | none => pure (.done .next)
      | some v => letOwnedTupleGo t2 it v >>= fun _ => assign t2 env v >>= fun _ =>
        (eval elt env >>= fun x => call (.builtin "list.append") [acc, x] >>= fun _ => pure ()) >>= fun _ =>
          again (.compLoop (.ListComp elt [⟨t1, i1, [], 0⟩, ⟨t2, i2, [], 0⟩] scope pos) 1 it acc env)) := by rfl
theorem start2_inner {elt t1 i1 t2 i2 : PySem.Expr} {scope : Scope} {pos : Pos} {it acc : Value} {env : Env}
    (h0 : codeAny (model prog w) A (.compLoop (.ListComp elt [⟨t1, i1, [], 0⟩, ⟨t2, i2, [], 0⟩] scope pos) 1 it acc env) R s)
    (h : wpAny (model prog w) A (pyIter it) (fun it' s' => codeAny (model prog w) A (.compLoop (.ListComp elt [⟨t1, i1, [], 0⟩, ⟨t2, i2, [], 0⟩] scope pos) 1 it' acc env) R s')
      (notedBy (model prog w) A env fun x s' => R (.error x) s') s) :
    codeAny (model prog w) A (.compStart (.ListComp elt [⟨t1, i1, [], 0⟩, ⟨t2, i2, [], 0⟩] scope pos) 1 it acc env) R s := by
  refine codeAny_of_tree ?_
  show wpAny _ _ ((compStart (.ListComp elt [⟨t1, i1, [], 0⟩, ⟨t2, i2, [], 0⟩] scope pos) 1 it acc env).onRaise (fun x => do noteFrame x env; standAt theWindowsPlace)) _ _ s
  refine wpAny_notedAt ?_
  unfold compStart
  show wpAny _ _ (ask >>= _) _ _ s
  refine wpAny_bind (wpAny_askSetting (wpAny_ite ?_))
  split
  · first
      | exact wpAny_bind (wpAny_pure (wpAny_pure (And.intro rfl h0)))
      | exact wpAny_pure (And.intro rfl h0)
  · first
      | exact wpAny_bind (wpAny_rule (wpAny_bind (wpAny_standAt (wpAny_bind (wpAny_mono h (fun it' s' h' => wpAny_pure (And.intro rfl h')) fun _ _ x => x)))))
      | (refine wpAny_bind (wpAny_rule ?_); show wpAny _ _ (standAt i2.pos >>= _) _ _ s; exact wpAny_bind (wpAny_standAt (wpAny_bind (wpAny_mono h (fun it' s' h' => wpAny_pure (And.intro rfl h')) fun _ _ x => x))))
theorem loop2_inner {elt t1 i1 t2 i2 : PySem.Expr} {scope : Scope} {pos : Pos} {it acc : Value} {env : Env} (I : Nat → Shared → Prop)
    (turn : ∀ n s, I n s → wpAny (model prog w) A (pyNext it) (fun r s₁ => match r with
      | none => R (.ok .next) s₁
      | some v => wpAny (model prog w) A (assign t2 env v) (fun _ s₂ => wpAny (model prog w) A (eval elt env) (fun x s₃ =>
          wpAny (model prog w) A (call (.builtin "list.append") [acc, x]) (fun _ s₄ => ∃ m, m < n ∧ I m s₄) (notedBy (model prog w) A env fun e s' => R (.error e) s') s₃)
          (notedBy (model prog w) A env fun e s' => R (.error e) s') s₂) (notedBy (model prog w) A env fun e s' => R (.error e) s') s₁) (notedBy (model prog w) A env fun e s' => R (.error e) s') s)
    (n : Nat) (h : I n s) (ht : ∀ v, letOwnedTupleGo t2 it v = pure () := by intro _; rfl) :
    codeAny (model prog w) A (.compLoop (.ListComp elt [⟨t1, i1, [], 0⟩, ⟨t2, i2, [], 0⟩] scope pos) 1 it acc env) R s := by
  refine codeAny_loop rfl I (fun n s hI => ?_) n h
  show wpAny _ A ((compTurn (.ListComp elt [⟨t1, i1, [], 0⟩, ⟨t2, i2, [], 0⟩] scope pos) 1 it acc env).onRaise (fun x => do noteFrame x env; theTreesLotGoes x)) _ _ s
  refine wpAny_noted ?_
  rw [turn2_inner]
  refine wpAny_bind (wpAny_standAt (wpAny_bind (wpAny_mono (turn n s hI) (fun r s₁ h₁ => ?_) fun _ _ h' => h')))
  cases r with
  | none => exact wpAny_pure h₁
  | some v =>
    refine wpAny_bind (wpAny_of_eq (ht v) ?_)
    exact wpAny_bind (wpAny_mono h₁ (fun _ s₂ h₂ => wpAny_bind (wpAny_bind (wpAny_mono h₂ (fun x s₃ h₃ => wpAny_bind (wpAny_mono h₃
      (fun _ s₄ h₄ => wpAny_pure (wpAny_pure ⟨rfl, h₄⟩)) fun _ _ h' => h')) fun _ _ h' => h'))) fun _ _ h' => h')
theorem loop2_outer {elt t1 i1 t2 i2 : PySem.Expr} {scope : Scope} {pos : Pos} {it acc : Value} {env : Env} (I : Nat → Shared → Prop)
    (turn : ∀ n s, I n s → wpAny (model prog w) A (pyNext it) (fun r s₁ => match r with
      | none => R (.ok .next) s₁
      | some v => wpAny (model prog w) A (assign t1 env v) (fun _ s₂ => wpAny (model prog w) A (eval i2 env) (fun x s₃ =>
          wpAny (model prog w) A (pyIter x) (fun it' s₄ =>
            codeAny (model prog w) A (.compStart (.ListComp elt [⟨t1, i1, [], 0⟩, ⟨t2, i2, [], 0⟩] scope pos) 1 it' acc env) (fun r s₅ => match r with | .ok _ => ∃ m, m < n ∧ I m s₅ | .error _ => False) s₄)
            (notedBy (model prog w) A env fun e s' => R (.error e) s') s₃)
          (notedBy (model prog w) A env fun e s' => R (.error e) s') s₂) (notedBy (model prog w) A env fun e s' => R (.error e) s') s₁) (notedBy (model prog w) A env fun e s' => R (.error e) s') s)
    (n : Nat) (h : I n s) (hs : ∀ x, foldedSetIterable i2 env x = pure x := by intro _; rfl) (ht : ∀ v, letOwnedTupleGo t1 it v = pure () := by intro _; rfl) :
    codeAny (model prog w) A (.compLoop (.ListComp elt [⟨t1, i1, [], 0⟩, ⟨t2, i2, [], 0⟩] scope pos) 0 it acc env) R s := by
  refine codeAny_loop rfl I (fun n s hI => ?_) n h
  show wpAny _ A ((compTurn (.ListComp elt [⟨t1, i1, [], 0⟩, ⟨t2, i2, [], 0⟩] scope pos) 0 it acc env).onRaise (fun x => do noteFrame x env; theTreesLotGoes x)) _ _ s
  refine wpAny_noted ?_
  rw [turn2_outer]
  refine wpAny_bind (wpAny_standAt (wpAny_bind (wpAny_mono (turn n s hI) (fun r s₁ h₁ => ?_) fun _ _ h' => h')))
  cases r with
  | none => exact wpAny_pure h₁
  | some v =>
    refine wpAny_bind (wpAny_of_eq (ht v) ?_)
    refine wpAny_bind (wpAny_mono h₁ (fun _ s₂ h₂ => wpAny_bind (wpAny_mono h₂ (fun x s₃ h₃ => wpAny_bind (wpAny_standAt (wpAny_bind (wpAny_of_eq (hs x) (wpAny_bind (wpAny_holding (wpAny_mono h₃ (fun it' s₄ h₄ => ?_) fun _ _ h' => h'))))))) fun _ _ h' => h')) fun _ _ h' => h')
    refine wpAny_bind (wpAny_runOwn (codeAny_mono h₄ fun r s₅ hr => ?_))
    cases r with
    | ok f => exact wpAny_pure ⟨rfl, hr⟩
    | error e => exact hr.elim
end
end Mine
end
section
open PySem PySem.W PySem.Calls PyProof.Rows PyProof.V PySem.Spec PyProof.Rows.LCg
set_option Elab.async false
set_option maxRecDepth 100000
namespace Mine
structure Apart (h₀ : Heap) (L C D I : Addr) (news : List (Addr × Obj)) : Prop where
  ic : (I : Nat) ≠ C
  id : (I : Nat) ≠ D
  cd : (C : Nat) ≠ D
  cl : C ≠ L
  dl : D ≠ L
  il : I ≠ L
  i0 : h₀.get? I = none
  c0 : h₀.get? C = none
  d0 : h₀.get? D = none
  off : ∀ p ∈ news, p.1 ≠ I ∧ p.1 ≠ C ∧ p.1 ≠ D
structure RowSt (h₀ : Heap) (L : Addr) (m : Str → Option Value) (C D I : Addr) (news : List (Addr × Obj)) (ys : List Value) (i n1 : Nat) (m' : Str → Option Value) (h : Heap) : Prop where
  it : IsRangeIter h I (0 + (i : Nat) * 1) ((n1 : Int) - (i : Nat)) 1
  fr : Fr h₀ L h m
  ns : h.Ns C m'
  nw : News h₀ L h ((D, LCg.lst ys) :: news)
def RowOk (EL : Nat → Value → Prop) (n : Nat) (ys : List Value) : Prop := ys.length = n ∧ ∀ j y, ys[j]? = some y → EL j y
theorem RowOk.snoc {EL : Nat → Value → Prop} {n : Nat} {ys : List Value} {y : Value} (h : RowOk EL n ys) (hy : EL n y) : RowOk EL (n + 1) (ys ++ [y]) := by
  refine ⟨by rw [List.length_append, h.1]; rfl, fun j z hz => ?_⟩
  rw [List.getElem?_append] at hz
  split at hz
  · exact h.2 j z hz
  · rename_i hj
    rw [h.1] at hj hz
    have : j = n := by
      rcases Nat.lt_or_ge n j with q | q
      · rw [List.getElem?_eq_none (by simp; omega)] at hz; cases hz
      · omega
    subst this
    simp at hz
    subst hz
    exact hy
section
variable {prog : Program} {w : World} {A : Around} {E : Value → Shared → Prop} {R : Result → Shared → Prop} {s : Shared} {h₀ : Heap} {L C D I J : Addr} {m : Str → Option Value} {news : List (Addr × Obj)} {env : Env} {scope : Scope} {cl : List (Str × Addr)} {elt i1 i2 : PySem.Expr} {x1 x2 : Str} {px1 px2 pos : Pos}
theorem inner_RR {EL : Nat → Value → Prop} {v1 : Value} {n1 n2 i : Nat} {ys : List Value} {m' : Str → Option Value} {h : Heap} {tk : Nat}
    (hh : A.handled = none) (hkind : scope.kind = .function) (hx2 : scope.names.lookup x2 = some .local) (hne : x1 ≠ x2)
    (ap : Apart h₀ L C D I news) (jc : (J : Nat) ≠ C) (jd : (J : Nat) ≠ D) (ji : (J : Nat) ≠ I) (jl : J ≠ L) (j0 : h₀.get? J = none) (jn : ∀ p ∈ news, p.1 ≠ J)
    (st : RowSt h₀ L m C D I news ys i n1 m' h) (hm1 : m' x1 = some v1) (hJ : IsRangeIter h J (0 + ((0 : Nat) : Int) * 1) ((n2 : Int) - ((0 : Nat) : Int)) 1) (hsz : ys.length + n2 ≤ sizeLine)
    (el : ∀ j ys oI oJ oC m₂ h tk t2 (E' : Value → Shared → Prop), j < n2 → m₂ x1 = some v1 → m₂ x2 = some (.int (j : Int) t2) → NsObj oC m₂ → Fr h₀ L h m → News h₀ L h ((J, oJ) :: (C, oC) :: (D, LCg.lst ys) :: (I, oI) :: news) →
      wpAny (model prog w) A (eval elt (compEnvC scope cl C env)) (fun y s' => ∃ h' tk', s' = { s with heap := h', toks := tk' } ∧ Fr h₀ L h' m ∧ News h₀ L h' ((J, oJ) :: (C, oC) :: (D, LCg.lst ys) :: (I, oI) :: news) ∧ EL j y) E' { s with heap := h, toks := tk })
    (fin : ∀ h' tk' ys2 m'', RowOk EL n2 ys2 → RowSt h₀ L m C D I news (ys ++ ys2) i n1 m'' h' → R (.ok .next) { s with heap := h', toks := tk' }) :
    codeAny (model prog w) A (.compStart (.ListComp elt [⟨.Name x1 px1, i1, [], 0⟩, ⟨.Name x2 px2, i2, [], 0⟩] scope pos) 1 (.ref J) (.ref D) (compEnvC scope cl C env)) R { s with heap := h, toks := tk } := by
  have W : Walks prog w A J [J] [J] n2 (fun i v => ∃ t, v = .int (0 + (i : Int)) t) (fun i h => IsRangeIter h J (0 + (i : Nat) * 1) ((n2 : Int) - (i : Nat)) 1) := range_walks hh 0 n2
  have loop : ∀ s₃ : Shared, s₃ = { s with heap := h, toks := tk } →
      codeAny (model prog w) A (.compLoop (.ListComp elt [⟨.Name x1 px1, i1, [], 0⟩, ⟨.Name x2 px2, i2, [], 0⟩] scope pos) 1 (.ref J) (.ref D) (compEnvC scope cl C env)) R s₃ := by
    rintro s₃ rfl
    refine loop2_inner (fun k s' => ∃ h' tk' j ys2 m'', s' = { s with heap := h', toks := tk' } ∧ j ≤ n2 ∧ k = n2 + 1 - j ∧ RowOk EL j ys2 ∧ RowSt h₀ L m C D I news (ys ++ ys2) i n1 m'' h' ∧ m'' x1 = some v1 ∧ IsRangeIter h' J (0 + (j : Nat) * 1) ((n2 : Int) - (j : Nat)) 1) ?_ (n2 + 1)
      ⟨h, tk, 0, [], m', rfl, Nat.zero_le _, rfl, ⟨rfl, by intro j y hy; simp at hy⟩, by rw [List.append_nil]; exact st, hm1, hJ⟩
    rintro k s' ⟨h', tk', j, ys2, m'', rfl, hj, rfl, hok, st', hm, hJ'⟩
    by_cases hlt : j < n2
    · refine W.item j _ _ _ hlt hJ' fun v h₂ tk₂ hPv hJ₂ hk₂ => ?_
      obtain ⟨t2, rfl⟩ := hPv
      have k2 : ∀ b o, b ≠ J → h'.get? b = some o → h₂.get? b = some o := fun b o hb => hk₂ b o (by simpa using hb)
      have hn₂ : h₂.Ns C m'' := st'.ns.at' fun o e => k2 _ o (fun q => jc q.symm) e
      refine wpAny_assign_Name (wpAny_storeName_local (lookup_relabel_local hx2) hn₂ (fun h₃ hn₃ hs₃ => ?_) (by simp [compEnvC, relabel, hkind]))
      have k3 : ∀ b o, b ≠ C → h₂.get? b = some o → h₃.get? b = some o := fun b o hb e => hs₃.extBut b o hb e
      have hJ₃ : IsRangeIter h₃ J (0 + ((j + 1 : Nat) : Int) * 1) ((n2 : Int) - ((j + 1 : Nat) : Int)) 1 := k3 _ _ jc hJ₂
      obtain ⟨oC, heC, hoC⟩ := ns_obj hn₃
      have F₃ : Fr h₀ L h₃ m := (fr_but st'.fr (fun b o hb e => k2 b o (by simpa using hb) e) (fun q => jl q.symm) j0).change hs₃ ap.cl ap.c0
      have N₃ : News h₀ L h₃ ((J, _) :: (C, oC) :: (D, LCg.lst (ys ++ ys2)) :: (I, _) :: news) := fun p hp => by
        rcases List.mem_cons.mp hp with rfl | hp
        · exact ⟨hJ₃, jl, j0⟩
        rcases List.mem_cons.mp hp with rfl | hp
        · exact ⟨heC, ap.cl, ap.c0⟩
        rcases List.mem_cons.mp hp with rfl | hp
        · have z := st'.nw _ (.head _)
          exact ⟨k3 _ _ (fun q => ap.cd q.symm) (k2 _ _ (fun q => jd q.symm) z.1), z.2⟩
        rcases List.mem_cons.mp hp with rfl | hp
        · exact ⟨k3 _ _ ap.ic (k2 _ _ (fun q => ji q.symm) st'.it), ap.il, ap.i0⟩
        · have z := st'.nw _ (.tail _ hp)
          exact ⟨k3 _ _ (ap.off p hp).2.1 (k2 _ _ (jn p hp) z.1), z.2⟩
      have e0 : (Value.int (0 + (j : Int)) t2) = Value.int (j : Int) t2 := by rw [Int.zero_add]
      refine wpAny_mono (el j (ys ++ ys2) _ _ oC _ h₃ _ t2 _ hlt (by simp [hne]; exact hm) (by simp) hoC F₃ N₃) (fun y s₄ h₄ => ?_) fun _ _ e => e
      obtain ⟨h₄, tk₄, rfl, F₄, N₄, hy⟩ := h₄
      have zJ := (N₄ _ (.head _)).1
      have zC := (N₄ _ (.tail _ (.head _))).1
      have zD := (N₄ _ (.tail _ (.tail _ (.head _)))).1
      have zI := (N₄ _ (.tail _ (.tail _ (.tail _ (.head _))))).1
      refine append_at (hsz := by show (ys ++ ys2).toArray.size ≤ sizeLine; rw [List.size_toArray, List.length_append, hok.1]; omega) zD fun h₅ hs₅ hD₅ => ?_
      have k5 : ∀ b o, b ≠ D → h₄.get? b = some o → h₅.get? b = some o := fun b o hb e => hs₅.extBut b o hb e
      refine ⟨n2 + 1 - (j + 1), by omega, h₅, tk₄, j + 1, ys2 ++ [y], _, rfl, hlt, rfl, hok.snoc hy, ⟨k5 _ _ ap.id zI, F₄.change hs₅ ap.dl ap.d0, (hoC.ns zC).sameBut hs₅ ap.cd, fun p hp => ?_⟩, by simp [hne]; exact hm, k5 _ _ jd zJ⟩
      rcases List.mem_cons.mp hp with rfl | hp
      · refine ⟨?_, ap.dl, ap.d0⟩
        rw [← List.append_assoc]
        exact hD₅.trans (congrArg some (lst_snoc (ys ++ ys2) y))
      · have z := N₄ p (.tail _ (.tail _ (.tail _ (.tail _ hp))))
        exact ⟨k5 _ _ (ap.off p hp).2.2 z.1, z.2⟩
    · obtain rfl : j = n2 := Nat.le_antisymm hj (Nat.not_lt.mp hlt)
      refine W.done _ _ _ hJ' fun h₂ tk₂ hk₂ => ?_
      have k2 : ∀ b o, b ≠ J → h'.get? b = some o → h₂.get? b = some o := fun b o hb => hk₂ b o (by simpa using hb)
      refine fin h₂ tk₂ ys2 m'' hok ⟨k2 _ _ (fun q => ji q.symm) st'.it, fr_but st'.fr (fun b o hb e => k2 b o (by simpa using hb) e) (fun q => jl q.symm) j0, st'.ns.at' fun o e => k2 _ o (fun q => jc q.symm) e, fun p hp => ?_⟩
      have z := st'.nw p hp
      refine ⟨k2 _ _ ?_ z.1, z.2⟩
      rcases List.mem_cons.mp hp with rfl | hp
      · exact fun q => jd q.symm
      · exact jn p hp
  exact start2_inner (loop _ rfl) (W.self 0 _ _ _ hJ (loop _ rfl))
inductive RowsOk (EL : Nat → Nat → Value → Prop) (n2 : Nat → Nat) : Nat → List Value → Prop
  | nil : RowsOk EL n2 0 []
  | snoc {i ys ys2} : RowsOk EL n2 i ys → RowOk (EL i) (n2 i) ys2 → RowsOk EL n2 (i + 1) (ys ++ ys2)
theorem RowsOk.len {EL : Nat → Nat → Value → Prop} {n2 : Nat → Nat} {b : Nat} (hb : ∀ i, n2 i ≤ b) : ∀ {i ys}, RowsOk EL n2 i ys → ys.length ≤ i * b
  | _, _, .nil => Nat.zero_le _
  | _, _, .snoc h1 h2 => by
    rw [List.length_append, h2.1, Nat.succ_mul]
    exact Nat.add_le_add (RowsOk.len hb h1) (hb _)
theorem sz_facts {Z C L : Nat} (hC : C = Z + 2) (hL : L < Z) : Z ≠ C ∧ Z ≠ Z + 1 ∧ C ≠ Z + 1 ∧ C ≠ L ∧ Z + 1 ≠ L ∧ Z ≠ L ∧ Z ≤ C ∧ Z ≤ Z + 1 ∧ Z < C ∧ Z + 1 < C := by omega
theorem sz_lt {Z C b : Nat} (hC : C = Z + 2) (h : b < Z) : b < C ∧ b ≠ C ∧ b ≠ Z + 1 ∧ b ≠ Z := by omega
theorem comp_RR {EL : Nat → Nat → Value → Prop} {n1 : Nat} {n2 : Nat → Nat} {b : Nat} {r : Addr} {t0 u0 v0 : Tok} {RR : Value → Addr → Result → Shared → Prop}
    (hh : A.handled = none) (hkind : scope.kind = .function) (hcell : ∀ y ∈ scope.names, y.2 ≠ .cell) (hx1 : scope.names.lookup x1 = some .local) (hx2 : scope.names.lookup x2 = some .local) (hne : x1 ≠ x2)
    (hb : ∀ i, n2 i ≤ b) (hbs : n1 ≤ 1000 ∧ b ≤ 1000) (F : Fr h₀ L s.heap m) (N : News h₀ L s.heap news) (hr : IsRange s.heap r 0 (n1 : Int) 1 t0 u0 v0)
    (it2 : ∀ I C D i ys oI oC m₂ h tk t1 (E' : Value → Shared → Prop), i < n1 → m₂ x1 = some (.int (i : Int) t1) → NsObj oC m₂ → Fr h₀ L h m → News h₀ L h ((I, oI) :: (C, oC) :: (D, LCg.lst ys) :: news) →
      wpAny (model prog w) A (eval i2 (compEnvC scope cl C env)) (fun x s' => ∃ h' tk' r t u v, x = .ref r ∧ s' = { s with heap := h', toks := tk' } ∧ Fr h₀ L h' m ∧ News h₀ L h' ((I, oI) :: (C, oC) :: (D, LCg.lst ys) :: news) ∧ IsRange h' r 0 (n2 i : Int) 1 t u v) E' { s with heap := h, toks := tk })
    (el : ∀ J C D I i j ys oI oJ oC m₂ h tk t1 t2 (E' : Value → Shared → Prop), i < n1 → j < n2 i → m₂ x1 = some (.int (i : Int) t1) → m₂ x2 = some (.int (j : Int) t2) → NsObj oC m₂ → Fr h₀ L h m → News h₀ L h ((J, oJ) :: (C, oC) :: (D, LCg.lst ys) :: (I, oI) :: news) →
      wpAny (model prog w) A (eval elt (compEnvC scope cl C env)) (fun y s' => ∃ h' tk', s' = { s with heap := h', toks := tk' } ∧ Fr h₀ L h' m ∧ News h₀ L h' ((J, oJ) :: (C, oC) :: (D, LCg.lst ys) :: (I, oI) :: news) ∧ EL i j y) E' { s with heap := h, toks := tk })
    (hi2 : ∀ C x, foldedSetIterable i2 (compEnvC scope cl C env) x = pure x)
    (fin : ∀ D C h' tk' m' ys, RowsOk EL n2 n1 ys → Fr h₀ L h' m → News h₀ L h' ((D, LCg.lst ys) :: news) → Off1 D news → h'.Ns C m' → h₀.get? C = none → C ≠ L → (C : Nat) ≠ D → (∀ p ∈ news, p.1 ≠ C) → RR (.ref D) C (.ok .next) { s with heap := h', toks := tk' }) :
    wpAny (model prog w) A (pyIter (.ref r)) (fun it s₂ => wpAny (model prog w) A (newList []) (fun acc s₃ => wpAny (model prog w) A (newFunctionEnv scope env.globals cl [] env.qual none .none (some env)) (fun cenv s₄ =>
      codeAny (model prog w) A (.compStart (.ListComp elt [⟨.Name x1 px1, i1, [], 0⟩, ⟨.Name x2 px2, i2, [], 0⟩] scope pos) 0 it acc { cenv with scope := relabel scope env }) (RR acc cenv.locals) s₄) E s₃) E s₂) E s := by
  obtain ⟨hb1, hb2⟩ := hbs
  refine wpAny_pyIter_range hr (small_one (by decide) (by omega) (by omega) (by omega)) ?_
  have hszr : Builtin.Range.rangeSize 0 (n1 : Int) 1 = (n1 : Int) := by rw [rangeSize_nat]; omega
  rw [hszr]
  have up : ∀ b o, s.heap.get? b = some o → (s.heap.push { cls := .type "range_iterator", data := .fields #[rawInt 0, rawInt (n1 : Int), rawInt 1] }).get? b = some o := fun b o e => Heap.get?_push_of_some _ e
  have hI : (s.heap.push { cls := .type "range_iterator", data := .fields #[rawInt 0, rawInt (n1 : Int), rawInt 1] }).get? s.heap.objs.size = some { cls := .type "range_iterator", data := .fields #[rawInt 0, rawInt (n1 : Int), rawInt 1] } := Heap.get?_push_size _ rfl
  have hz1 : (s.heap.push { cls := .type "range_iterator", data := .fields #[rawInt 0, rawInt (n1 : Int), rawInt 1] }).objs.size = s.heap.objs.size + 1 := Heap.size_push ..
  generalize s.heap.push { cls := .type "range_iterator", data := .fields #[rawInt 0, rawInt (n1 : Int), rawInt 1] } = H1 at up hI hz1 ⊢
  refine wpAny_newObj_type (wpAny_newFunctionEnv hcell (by intro y hy; simp at hy) (fun h₁ hns₁ hsb₁ => ?_) hkind)
  dsimp only at hns₁ hsb₁ ⊢
  generalize hH2 : H1.push { cls := .type "list", dict := none, data := .seq ([] : List Value).toArray } = H2 at hns₁ hsb₁ ⊢
  have hC : H2.objs.size = s.heap.objs.size + 2 := by rw [← hH2, Heap.size_push, hz1]
  rw [hz1]
  have fresh₀ : ∀ a, s.heap.objs.size ≤ a → h₀.get? a = none := fun a ha => by
    cases e : h₀.get? a with
    | none => rfl
    | some o' => exact absurd (Heap.lt_size (F.keep a o' e)) (Nat.not_lt.mpr ha)
  have hLlt : L < s.heap.objs.size := F.ns.lt
  have zf := sz_facts hC hLlt
  have old1 : ∀ b o, b < H2.objs.size → H1.get? b = some o → h₁.get? b = some o := fun b o hb e => hsb₁.extBut b o (Nat.ne_of_lt hb) (Heap.get?_push_of_some _ (hH2 ▸ Heap.get?_push_of_some _ e))
  have old : ∀ b o, s.heap.get? b = some o → h₁.get? b = some o := fun b o e => old1 b o (sz_lt hC (Heap.lt_size e)).1 (up b o e)
  have hacc0 : H2.get? (s.heap.objs.size + 1) = some (LCg.lst []) := hH2 ▸ hz1 ▸ Heap.get?_push_size _ rfl
  have hacc : h₁.get? (s.heap.objs.size + 1) = some (LCg.lst []) := hsb₁.extBut _ _ (Nat.ne_of_lt zf.2.2.2.2.2.2.2.2.2) (Heap.get?_push_of_some _ hacc0)
  have ap : Apart h₀ L H2.objs.size (s.heap.objs.size + 1) s.heap.objs.size news :=
    ⟨zf.1, zf.2.1, zf.2.2.1, zf.2.2.2.1, zf.2.2.2.2.1, zf.2.2.2.2.2.1, fresh₀ _ (Nat.le_refl _), fresh₀ _ zf.2.2.2.2.2.2.1, fresh₀ _ zf.2.2.2.2.2.2.2.1, fun p hp =>
      have q := sz_lt hC (Heap.lt_size (N p hp).1)
      ⟨q.2.2.2, q.2.1, q.2.2.1⟩⟩
  have hI1 : h₁.get? s.heap.objs.size = some { cls := .type "range_iterator", data := .fields #[rawInt 0, rawInt (n1 : Int), rawInt 1] } := old1 _ _ zf.2.2.2.2.2.2.2.2.1 hI
  have st0 : RowSt h₀ L m H2.objs.size (s.heap.objs.size + 1) s.heap.objs.size news [] 0 n1 (fun x => ([] : List (Str × Value)).reverse.lookup x) h₁ :=
    ⟨by simpa using hI1, F.keeps old, hns₁, fun p hp => by
      rcases List.mem_cons.mp hp with rfl | hp
      · exact ⟨hacc, ap.dl, ap.d0⟩
      · exact ⟨old _ _ (N p hp).1, (N p hp).2⟩⟩
  clear hacc0 hacc hI1 old old1 hH2 hsb₁ hns₁ hI zf
  generalize H2.objs.size = C at ap st0 ⊢
  generalize s.heap.objs.size + 1 = D at ap st0 ⊢
  generalize s.heap.objs.size = I at ap st0 ⊢
  have W : Walks prog w A I [I] [I] n1 (fun i v => ∃ t, v = .int (0 + (i : Int)) t) (fun i h => IsRangeIter h I (0 + (i : Nat) * 1) ((n1 : Int) - (i : Nat)) 1) := range_walks hh 0 n1
  have loop : ∀ s₃ : Shared, s₃ = { s with heap := h₁, toks := s.toks + ([] : List (Str × Value)).length } →
      codeAny (model prog w) A (.compLoop (.ListComp elt [⟨.Name x1 px1, i1, [], 0⟩, ⟨.Name x2 px2, i2, [], 0⟩] scope pos) 0 (.ref I) (.ref D) (compEnvC scope cl C env)) (RR (.ref D) C) s₃ := by
    rintro s₃ rfl
    refine loop2_outer (fun k s' => ∃ h' tk' i ys m', s' = { s with heap := h', toks := tk' } ∧ i ≤ n1 ∧ k = n1 + 1 - i ∧ RowsOk EL n2 i ys ∧ RowSt h₀ L m C D I news ys i n1 m' h') ?_ (n1 + 1) ⟨h₁, _, 0, [], _, rfl, Nat.zero_le _, rfl, .nil, st0⟩ (hi2 C)
    rintro k s' ⟨h', tk', i, ys, m', rfl, hi, rfl, hok, st'⟩
    by_cases hlt : i < n1
    · refine W.item i _ _ _ hlt st'.it fun v h₂ tk₂ hPv hI₂ hk₂ => ?_
      obtain ⟨t1, rfl⟩ := hPv
      have k2 : ∀ b o, b ≠ I → h'.get? b = some o → h₂.get? b = some o := fun b o hb => hk₂ b o (by simpa using hb)
      have hn₂ : h₂.Ns C m' := st'.ns.at' fun o e => k2 _ o (fun q => ap.ic q.symm) e
      refine wpAny_assign_Name (wpAny_storeName_local (lookup_relabel_local hx1) hn₂ (fun h₃ hn₃ hs₃ => ?_) (by simp [compEnvC, relabel, hkind]))
      have k3 : ∀ b o, b ≠ C → h₂.get? b = some o → h₃.get? b = some o := fun b o hb e => hs₃.extBut b o hb e
      have hI₃ : IsRangeIter h₃ I (0 + ((i + 1 : Nat) : Int) * 1) ((n1 : Int) - ((i + 1 : Nat) : Int)) 1 := k3 _ _ ap.ic hI₂
      obtain ⟨oC, heC, hoC⟩ := ns_obj hn₃
      have F₃ : Fr h₀ L h₃ m := (fr_but st'.fr (fun b o hb e => k2 b o (by simpa using hb) e) (fun q => ap.il q.symm) ap.i0).change hs₃ ap.cl ap.c0
      have N₃ : News h₀ L h₃ ((I, _) :: (C, oC) :: (D, LCg.lst ys) :: news) := fun p hp => by
        rcases List.mem_cons.mp hp with rfl | hp
        · exact ⟨hI₃, ap.il, ap.i0⟩
        rcases List.mem_cons.mp hp with rfl | hp
        · exact ⟨heC, ap.cl, ap.c0⟩
        rcases List.mem_cons.mp hp with rfl | hp
        · have z := st'.nw _ (.head _)
          exact ⟨k3 _ _ (fun q => ap.cd q.symm) (k2 _ _ (fun q => ap.id q.symm) z.1), z.2⟩
        · have z := st'.nw _ (.tail _ hp)
          exact ⟨k3 _ _ (ap.off p hp).2.1 (k2 _ _ (ap.off p hp).1 z.1), z.2⟩
      rw [Int.zero_add] at hoC
      refine wpAny_mono (it2 I C D i ys _ oC _ h₃ _ t1 _ hlt (by simp) hoC F₃ N₃) (fun x s₄ h₄ => ?_) fun _ _ e => e
      obtain ⟨h₄, tk₄, r₄, t₄, u₄, v₄, rfl, rfl, F₄, N₄, hR₄⟩ := h₄
      have hni := hb i
      refine wpAny_pyIter_range hR₄ (small_one (by decide) (by omega) (by omega) (by omega)) ?_
      have hsz4 : Builtin.Range.rangeSize 0 (n2 i : Int) 1 = (n2 i : Int) := by rw [rangeSize_nat]; omega
      rw [hsz4]
      have zI := N₄ _ (.head _)
      have zC := N₄ _ (.tail _ (.head _))
      have zD := N₄ _ (.tail _ (.tail _ (.head _)))
      have jlt : ∀ {p : Addr × Obj}, h₄.get? p.1 = some p.2 → p.1 ≠ h₄.objs.size := fun e => Nat.ne_of_lt (Heap.lt_size e)
      have up4 : ∀ b o, h₄.get? b = some o → (h₄.push { cls := .type "range_iterator", data := .fields #[rawInt 0, rawInt (n2 i : Int), rawInt 1] }).get? b = some o := fun b o e => Heap.get?_push_of_some _ e
      have hlen := RowsOk.len hb hok
      have hsq : ys.length + n2 i ≤ sizeLine := by
        have h1 : i * b ≤ 1000 * 1000 := Nat.mul_le_mul (by omega) hb2
        rw [sizeLine_eq]; omega
      refine inner_RR (s := s) (EL := EL i) (v1 := .int (i : Int) t1) (n1 := n1) (n2 := n2 i) (i := i + 1) (ys := ys) hh hkind hx2 hne ap (fun q => jlt zC.1 q.symm) (fun q => jlt zD.1 q.symm) (fun q => jlt zI.1 q.symm) (Nat.ne_of_gt F₄.ns.lt) (next_is_new F₄)
        (fun p hp => jlt (N₄ p (.tail _ (.tail _ (.tail _ hp)))).1)
        ⟨up4 _ _ zI.1, F₄.keeps up4, (hoC.ns (up4 _ _ zC.1)), fun p hp => ?_⟩ (by simp) ?hJ hsq
        (fun j ys oI oJ oC m₂ h tk t2 E' hj hm1 hm2 hoC' F' N' => el _ _ _ _ i j ys oI oJ oC m₂ h tk t1 t2 E' hlt hj hm1 hm2 hoC' F' N') ?fin2
      case hJ =>
        have : (h₄.push { cls := .type "range_iterator", data := .fields #[rawInt 0, rawInt (n2 i : Int), rawInt 1] }).get? h₄.objs.size = some _ := Heap.get?_push_size _ rfl
        simpa using this
      case fin2 =>
        intro h₅ tk₅ ys2 m₅ hok2 st₅
        exact ⟨n1 + 1 - (i + 1), by omega, h₅, tk₅, i + 1, ys ++ ys2, m₅, rfl, hlt, rfl, hok.snoc hok2, st₅⟩
      rcases List.mem_cons.mp hp with rfl | hp
      · exact ⟨up4 _ _ zD.1, zD.2⟩
      · have z := N₄ p (.tail _ (.tail _ (.tail _ hp)))
        exact ⟨up4 _ _ z.1, z.2⟩
    · obtain rfl : i = n1 := Nat.le_antisymm hi (Nat.not_lt.mp hlt)
      refine W.done _ _ _ st'.it fun h₂ tk₂ hk₂ => ?_
      have k2 : ∀ b o, b ≠ I → h'.get? b = some o → h₂.get? b = some o := fun b o hb => hk₂ b o (by simpa using hb)
      refine fin D C h₂ tk₂ m' ys hok (fr_but st'.fr (fun b o hb e => k2 b o (by simpa using hb) e) (fun q => ap.il q.symm) ap.i0) (fun p hp => ?_) ?_ (st'.ns.at' fun o e => k2 _ o (fun q => ap.ic q.symm) e) ap.c0 ap.cl ap.cd (fun p hp => (ap.off p hp).2.1)
      · have z := st'.nw p hp
        refine ⟨k2 _ _ ?_ z.1, z.2⟩
        rcases List.mem_cons.mp hp with rfl | hp
        · exact fun q => ap.id q.symm
        · exact (ap.off p hp).1
      · exact (Off3.of ap.off).one
  exact codeAny_compStart_list (loop _ rfl) (W.self 0 _ _ _ st0.it (loop _ rfl))
end
end Mine
end
section
open PySem PySem.W PySem.Calls PyProof.Rows PyProof.V PySem.Spec PyProof.Rows.LCg
set_option Elab.async false
set_option maxRecDepth 100000
namespace Mine
theorem off1_mem {D : Addr} {l : List (Addr × Obj)} (x : LCg.Off1 D l) : ∀ p ∈ l, (p.1 : Nat) ≠ D := by
  induction l with
  | nil => intro p hp; cases hp
  | cons q r ih =>
    intro p hp
    rcases List.mem_cons.mp hp with e | hp
    · rw [e]; exact x.1
    · exact ih x.2 p hp
section
variable {prog : Program} {w : World} {s : Shared} {dp un : Nat} {fr : List Env} {gd : Option (List Code)} {E Q : Value → Shared → Prop} {K : Frag} {p : Program} {loose : List Str} {mean : ExcName → Option Value} {mg mb : Str → Option Value}
  {qual : Str} {name : Str} {params : Arguments} {body : List Stmt} {scope : Scope} {dV kV doc pm cdv ct oc : Value} {an od : Option Addr} {osl : Array (Option Value)} {f : Addr} {args : List Value} {kw : List (Str × Value)} {binds : List (Str × Value)}

/-- a call of a def some of whose names are cells: everything that stands stays -/
theorem call_mc (X : K.In s.heap) (T : Top p loose mean mg mb s.heap)
    (ho : K.lookup f = some ⟨oc, od, .func (fnOf name qual params body scope dV kV doc pm an cdv ct), osl⟩) (hcd : codeIn K cdv qual = true) (hroom : dp < recursionLimit)
    (hbind : BindsTo s (fnOf name qual params body scope dV kV doc pm an cdv ct) ⟨args, kw⟩ binds) (hkind : (binds.all fun y => scope.names.lookup y.1 == some .local || scope.names.lookup y.1 == some .cell) = true)
    (hnd : ((cellsFrom 0 scope.names []).map (·.1)).Nodup)
    (h : ∀ L h₁ tk cells, Fr s.heap L h₁ (bindL (envOfC qual scope L f cdv).kindOf binds fun _ => none) → News s.heap L h₁ cells → CellsAre (bindC (envOfC qual scope L f cdv).kindOf binds fun _ => none) (cellsFrom (L + 1) scope.names []) cells →
      wpAny (model prog w) (amb (dp + 1) (un + 3) (envOfC qual scope L f cdv :: fr) gd) (execs body (envOfC qual scope L f cdv))
        (fun fl s' => Q (match fl with | .ret v => v | _ => .none) s') (fun _ _ => False) { s with heap := h₁, toks := tk })
    (hco : scope.isCoroutine = false) (hgen : scope.isGenerator = false) (hk : scope.kind = .function) :
    wpAny (model prog w) (amb dp un fr gd) (call (.ref f) args kw) Q E s := by
  refine wpAny_call (codeAny_call_function hroom (X _ _ ho) rfl hco hgen rfl (codeRec_of X hcd) (hbind _ _ _ _ ?_))
  refine wpAny_newFunctionEnv_cells hk (kindsX hkind _) fun env' he s' x => ?_
  subst he
  refine ⟨T.nolimit.keeps x.toInCall.keep, codeAny_func ?_⟩
  obtain ⟨h₁, tk, rfl, _⟩ := x.done
  have hk₁ := x.toInCall.keep
  obtain ⟨cells, NC, Y⟩ := Cl.news (h₀ := s.heap) (Nat.le_refl _) fun n c hm => ⟨x.cell n c (lookup_of_mem_nodup (cellsFrom_names scope.names 0 (s.heap.objs.size + 1) [] [] rfl ▸ hnd) hm), x.above n c hm⟩
  exact wpAny_mono (h s.heap.objs.size h₁ tk cells ⟨x.toInCall.ns, hk₁, Nat.le_refl _⟩ NC Y) (fun _ _ x => x) fun _ _ x => x.elim
end
section
variable {prog : Program} {w : World} {A : Around} {E : Value → Shared → Prop} {s : Shared} {h₀ : Heap} {L : Addr} {m : Str → Option Value} {env : Env} {scope : Scope} {cl : List (Str × Addr)} {elt i1 i2 : PySem.Expr} {x1 x2 : Str} {px1 px2 pos : Pos}
/-- a list comprehension of two clauses over ranges -/
theorem ListComp2 {Q : Value → Shared → Prop} (_F₀ : Fr h₀ L s.heap m)
    (hclos : closureFor scope env = pure cl) (hcell : ∀ z ∈ scope.names, z.2 ≠ .cell) (hkind : scope.kind = .function)
    (hnames : ∀ z ∈ scope.names, z.2 = .local → scope.names.lookup z.1 = some .local) (hx1 : scope.names.lookup x1 = some .local) (hx2 : scope.names.lookup x2 = some .local) (hne : x1 ≠ x2)
    (hs : ∀ x, foldedSetIterable i1 env x = pure x) (hi2 : ∀ C x, foldedSetIterable i2 (compEnvC scope cl C env) x = pure x)
    (h : wpAny (model prog w) A (eval i1 env) (fun xv s₁ => ∃ (EL : Nat → Nat → Value → Prop) (n2 : Nat → Nat) (n1 b : Nat) (r : Addr) (t0 u0 v0 : Tok) (news : List (Addr × Obj)), xv = .ref r ∧ A.handled = none ∧ (∀ i, i < n1 → n2 i ≤ b) ∧ (n1 ≤ 1000 ∧ b ≤ 1000) ∧
      Fr h₀ L s₁.heap m ∧ News h₀ L s₁.heap news ∧ IsRange s₁.heap r 0 (n1 : Int) 1 t0 u0 v0 ∧
      (∀ I C D i ys oI oC m₂ h tk t1 (E' : Value → Shared → Prop), i < n1 → m₂ x1 = some (.int (i : Int) t1) → NsObj oC m₂ → Fr h₀ L h m → News h₀ L h ((I, oI) :: (C, oC) :: (D, LCg.lst ys) :: news) →
        wpAny (model prog w) A (eval i2 (compEnvC scope cl C env)) (fun x s' => ∃ h' tk' r t u v, x = .ref r ∧ s' = { s₁ with heap := h', toks := tk' } ∧ Fr h₀ L h' m ∧ News h₀ L h' ((I, oI) :: (C, oC) :: (D, LCg.lst ys) :: news) ∧ IsRange h' r 0 (n2 i : Int) 1 t u v) E' { s₁ with heap := h, toks := tk }) ∧
      (∀ J C D I i j ys oI oJ oC m₂ h tk t1 t2 (E' : Value → Shared → Prop), i < n1 → j < n2 i → m₂ x1 = some (.int (i : Int) t1) → m₂ x2 = some (.int (j : Int) t2) → NsObj oC m₂ → Fr h₀ L h m → News h₀ L h ((J, oJ) :: (C, oC) :: (D, LCg.lst ys) :: (I, oI) :: news) →
        wpAny (model prog w) A (eval elt (compEnvC scope cl C env)) (fun y s' => ∃ h' tk', s' = { s₁ with heap := h', toks := tk' } ∧ Fr h₀ L h' m ∧ News h₀ L h' ((J, oJ) :: (C, oC) :: (D, LCg.lst ys) :: (I, oI) :: news) ∧ EL i j y) E' { s₁ with heap := h, toks := tk }) ∧
      (∀ D h' tk' ys, RowsOk EL n2 n1 ys → Fr h₀ L h' m → News h₀ L h' ((D, LCg.lst ys) :: news) → (∀ p ∈ news, p.1 ≠ D) → Q (.ref D) { s₁ with heap := h', toks := tk' })) E s) :
    wpAny (model prog w) A (eval (.ListComp elt [⟨.Name x1 px1, i1, [], 0⟩, ⟨.Name x2 px2, i2, [], 0⟩] scope pos) env) Q E s := by
  rw [eval_ListComp]
  refine wpAny_comprehension_free (use := none) rfl hs hclos hkind hnames (wpAny_mono h (fun xv s₁ h₁ => ?_) fun _ _ e => e)
  obtain ⟨EL, n2, n1, b, r, t0, u0, v0, news, rfl, hh, hb, hbs, F, N, hr, it2, el, fin⟩ := h₁
  refine comp_RR (EL := EL) (b := b) (n2 := fun i => if i < n1 then n2 i else 0) hh hkind hcell hx1 hx2 hne (fun i => ?_) hbs F N hr (fun I C D i ys oI oC m₂ h tk t1 E' hi hm hC F' N' => ?_) (fun J C D I i j ys oI oJ oC m₂ h tk t1 t2 E' hi hj hm1 hm2 hC F' N' => ?_) hi2 (fun D C h' tk' m' ys hok F' N' o1 hn hC₀ hCL hCD offC => ?_)
  · split
    · rename_i hi; exact hb i hi
    · exact Nat.zero_le _
  · rw [if_pos hi]
    exact it2 I C D i ys oI oC m₂ h tk t1 E' hi hm hC F' N'
  · rw [if_pos hi] at hj
    exact el J C D I i j ys oI oJ oC m₂ h tk t1 t2 E' hi hj hm1 hm2 hC F' N'
  · have hok' : RowsOk EL n2 n1 ys := by
      have gen : ∀ k ys, k ≤ n1 → RowsOk EL (fun i => if i < n1 then n2 i else 0) k ys → RowsOk EL n2 k ys := by
        intro k ys hk hq
        induction hq with
        | nil => exact .nil
        | snoc h1 h2 ih =>
          rename_i i ys ys2
          refine .snoc (ih (Nat.le_of_succ_le hk)) ?_
          have : (if i < n1 then n2 i else 0) = n2 i := if_pos hk
          rw [this] at h2
          exact h2
      exact gen n1 ys (Nat.le_refl _) hok
    refine ⟨m', hn, fun h'' hs'' => fin D h'' tk' ys hok' (F'.change hs'' hCL hC₀) (fun p hp => ?_) (off1_mem o1)⟩
    refine ⟨hs''.extBut _ _ ?_ (N' p hp).1, (N' p hp).2⟩
    rcases List.mem_cons.mp hp with rfl | hp
    · exact fun q => hCD q.symm
    · exact offC p hp
end
end Mine
end
section
open PySem PySem.W PySem.Calls PyProof.Rows PyProof.V PySem.Spec
set_option Elab.async false
set_option maxRecDepth 100000
set_option maxHeartbeats 8000000
set_option linter.unusedSimpArgs false
set_option linter.unusedVariables false
namespace Mine
local macro_rules | `(tactic| k_tabat) => `(tactic| exact TabAt.ofFr (by assumption) (by assumption))
local macro_rules | `(tactic| walk_at "exec For Name Call cons nil") => `(tactic| (k_here; (rename Fr _ _ _ _ => lF'); (with_unfolding_all refine' For_turns lF' ?_); k_whole))
local macro_rules | `(tactic| walk_at "exec For Name Name cons nil") => `(tactic| (k_here; (rename Fr _ _ _ _ => lF'); (with_unfolding_all refine' For_turns lF' ?_); k_whole))
local macro_rules | `(tactic| walk_at "exec For Tuple Call cons nil") => `(tactic| (k_here; (rename Fr _ _ _ _ => lF'); (with_unfolding_all refine' For_turns lF' ?_); k_whole))
local macro_rules | `(tactic| walk_at "exec For Tuple Attribute cons nil") => `(tactic| (k_here; (rename Fr _ _ _ _ => lF'); (with_unfolding_all refine' For_turns lF' ?_); k_whole))
local macro_rules | `(tactic| walk_at "call builtin:dict.values") => `(tactic| (k_here; (try dsimp only); (with_reducible show wpAny _ _ (call (Value.builtin "dict.values") [Value.ref _]) _ _ _); k_dflt (refine call_values (by k_asm) (by k_asm) (by k_tabat) ?_); intro D' h' F' N' l1; (try k_lt l1); (try k_sweep)))
local macro_rules | `(tactic| walk_at "call builtin:dict.items") => `(tactic| (k_here; (try dsimp only); (with_reducible show wpAny _ _ (call (Value.builtin "dict.items") [Value.ref _]) _ _ _); k_dflt (refine call_items (by k_asm) (by k_asm) (by k_tabat) ?_); intro D' h' F' N' l1; (try k_lt l1); (try k_sweep)))
local macro_rules | `(tactic| walk_at "LPost") => `(tactic| (dsimp only [LPost]))
local macro_rules | `(tactic| walk_at "call builtin:len") => `(tactic| (k_here; (with_reducible show wpAny _ _ (call (Value.builtin "len") [Value.str _ _]) _ _ _); (refine P.len_str (by first | omega | decide) ?_)))
local macro_rules | `(tactic| walk_at "truthy str") => `(tactic| (k_here; (refine P.truthy_str (by first | omega | decide) ?_)))
theorem reset_C1 {M : Model} {A : Around} {E : Value → Shared → Prop} {Q : Flow → Shared → Prop} {s : Shared} {env : Env} (h : Q .next s) : wpAny M A (execs [] env) Q E s := by
  w_top off
  walk1
  w_top off
  exact h
section
def sumv (c : List (Str × Int)) : Int := (c.map (·.2)).sum
theorem sumv_take {c : List (Str × Int)} {i : Nat} {k : Str} {x : Int} (h : c[i]? = some (k, x)) : sumv (c.take (i + 1)) = sumv (c.take i) + x := by
  unfold sumv
  rw [List.take_add_one, h]
  simp

theorem count_calls_spec {w : World} {loose : List Str} {mean : ExcName → Option Value} {mg mb : Str → Option Value} {s : Shared} {dp un : Nat} {fr : List Env} {gd : Option (List Code)} {d : Addr} {c : List (Str × Int)} {E Q : Value → Shared → Prop} :
    (hd.heap_39 w.params).In s.heap → Top hd.view_39 loose mean mg mb s.heap → dp + 10 < recursionLimit → un + 100 < cLine → StrTab PySem.Challenge.rw_pm0056_01.row.prog w s.heap d (kdpD c) →
    (∀ h' tk t, s.heap.StaysIn h' → Q (.int (sumv c) t) { s with heap := h', toks := tk }) →
    wpAny (model PySem.Challenge.rw_pm0056_01.row.prog w) (amb dp un fr gd) (call (.ref 66) [.ref d]) Q E s := by
  k_fill
  intro X T hdp hun Ta ret
  k_dflt (refine' call_me (binds := [("callers", .ref d)]) X T ?ho ?hcd ?hroom ?hb ?hl ?hc ?hco ?hgen ?hk ?_; (case ho => k_is); (case hcd => k_is); (case hroom => omega); (case hb => exact BindsTo.of_eq rfl); (case hl => exact locs rfl); (case hc => decide); (case hco => exact rfl); (case hgen => exact rfl); (case hk => exact rfl))
  intro L h₁ F N
  k_steps
  rename Fr _ _ _ _ => F1
  rename News _ _ _ _ => N1
  refine it_values (c := c) (σ := Int × Tok) (keep := []) (fun _ => []) (fun a => [("nc", .int a.1 a.2)]) (fun i a => a.1 = sumv (c.take i)) ["calls", "nc"] rfl ⟨_, (N1 _ (.head _)).1, rfl, rfl⟩ (Ta.ofFr F1) (src_base F1 (tab_obj Ta).choose_spec) F1 News.nil (fun _ => trivial) ⟨(0, _), rfl, rfl, by with_unfolding_all exact ⟨rfl, trivial⟩⟩ ?_ ?_
  · intro I i a k x t u h₂ tk₂ oI hx ha _ _ F2 N2
    k_steps
    refine turn_end (_, _) (by assumption) (by assumption) (by k_mem) trivial trivial ?_ ⟨rfl, trivial⟩ ?_
    · dsimp only; rw [ha, sumv_take hx]
    · intro z hz
      have hz' := hz
      obtain ⟨h1, h2, -⟩ := hz'
      simp only [h1, h2, if_false]
      rw [fmap_off ?hs hz]
      case hs => with_unfolding_all rfl
      simp only [h1, h2, if_false]
  · rintro ⟨av, at'⟩ u h₂ tk₂ ha F2 N2
    k_steps
    rw [List.take_length] at ha
    dsimp only at ha ⊢
    subst ha
    exact ret _ _ _ F2.keep
end
theorem reset_C2 {M : Model} {A : Around} {E : Value → Shared → Prop} {Q : Flow → Shared → Prop} {s : Shared} {env : Env} (h : Q .next s) : wpAny M A (execs [] env) Q E s := by
  w_top off
  walk1
  w_top off
  exact h
section
def copyC (c : List (Str × Int)) : List (Str × Int) := c.foldl (fun a p => kdpPut a p.1 p.2) []
def addC (a c : List (Str × Int)) : List (Str × Int) := c.foldl (fun a p => kdpPut a p.1 (kdpLook a p.1 0 + p.2)) a
theorem foldl_take {α β : Type} {f : β → α → β} {b : β} {l : List α} {i : Nat} {x : α} (h : l[i]? = some x) : (l.take (i + 1)).foldl f b = f ((l.take i).foldl f b) x := by
  rw [List.take_add_one, h]; simp
theorem copy_len (c : List (Str × Int)) : (copyC c).length ≤ c.length := by
  suffices h : ∀ a : List (Str × Int), (c.foldl (fun a p => kdpPut a p.1 p.2) a).length ≤ a.length + c.length by simpa [copyC] using h []
  induction c with
  | nil => intro a; simp
  | cons p r ih =>
    intro a
    rw [List.foldl_cons, List.length_cons]
    have h1 := ih (kdpPut a p.1 p.2)
    have h2 := kdpPut_len a p.1 p.2
    omega
theorem add_len (c : List (Str × Int)) : ∀ a : List (Str × Int), (addC a c).length ≤ a.length + c.length := by
  induction c with
  | nil => intro a; simp [addC]
  | cons p r ih =>
    intro a
    have h1 := ih (kdpPut a p.1 (kdpLook a p.1 0 + p.2))
    have h2 := kdpPut_len a p.1 (kdpLook a p.1 0 + p.2)
    unfold addC at *
    rw [List.foldl_cons, List.length_cons]
    omega
theorem kdpLook_no {c : List (Str × Int)} {k : Str} (h : kdpHas c k = false) (d : Int) : kdpLook c k d = d := by
  unfold kdpHas at h
  unfold kdpLook
  have : c.find? (fun p => decide (p.1 = k)) = none := by
    rw [List.find?_eq_none]
    intro p hp
    rw [List.any_eq_false] at h
    exact h p hp
  rw [this]; rfl

def DS (prog : Program) (w : World) (o : Obj) (c : List (Str × Int)) : Prop := ∃ kvs, o.IsDictOf (PySem.strKind prog w) kvs ∧ FlatPairs PyData.str kvs (kdpD c)

theorem add_callers_spec {w : World} {loose : List Str} {mean : ExcName → Option Value} {mg mb : Str → Option Value} {s : Shared} {dp un : Nat} {fr : List Env} {gd : Option (List Code)} {d1 d2 : Addr} {c1 c2 : List (Str × Int)} {E Q : Value → Shared → Prop} :
    (hd.heap_39 w.params).In s.heap → Top hd.view_39 loose mean mg mb s.heap → dp + 10 < recursionLimit → un + 100 < cLine → StrTab PySem.Challenge.rw_pm0056_01.row.prog w s.heap d1 (kdpD c1) → StrTab PySem.Challenge.rw_pm0056_01.row.prog w s.heap d2 (kdpD c2) →
    c1.length + c2.length ≤ 10000 →
    (∀ a o kvs h' tk, s.heap.StaysIn h' → s.heap.get? a = none → h'.get? a = some o → (a == sysModules) = false → o.IsDictOf (PySem.strKind PySem.Challenge.rw_pm0056_01.row.prog w) kvs → FlatPairs PyData.str kvs (kdpD (addC (copyC c1) c2)) → Q (.ref a) { s with heap := h', toks := tk }) →
    wpAny (model PySem.Challenge.rw_pm0056_01.row.prog w) (amb dp un fr gd) (call (.ref 59) [.ref d1, .ref d2]) Q E s := by
  k_fill
  intro X T hdp hun T1 T2 hsz ret
  k_dflt (refine' call_me (binds := [("target", .ref d1), ("source", .ref d2)]) X T ?ho ?hcd ?hroom ?hb ?hl ?hc ?hco ?hgen ?hk ?_; (case ho => k_is); (case hcd => k_is); (case hroom => omega); (case hb => exact BindsTo.of_eq rfl); (case hl => exact locs rfl); (case hc => decide); (case hco => exact rfl); (case hgen => exact rfl); (case hk => exact rfl))
  intro L h₁ F N
  k_steps
  rename_i d0 hx0 o0 lo0 hs0 fs0 hi0 fi0 l0 hx1 V hV F1 N1 lV
  clear hi0 fi0
  refine it_items (c := c1) (σ := Obj × List (Str × Int)) (keep := []) (fun a => [(d0, a.1)]) (fun _ => []) (fun i a => DS PySem.Challenge.rw_pm0056_01.row.prog w a.1 a.2 ∧ a.2 = copyC (c1.take i)) ["func", "caller"] rfl ⟨_, (N1 _ (.head _)).1, rfl, rfl⟩ (T1.ofFr F1) (src_base F1 (tab_obj T1).choose_spec) F1 (fun p hp => N1 p (.tail _ hp)) (fun _ => trivial) ⟨(o0, []), rfl, ⟨⟨[], hs0, fs0⟩, rfl⟩, trivial⟩ ?_ ?_
  · rintro I i ⟨od, c⟩ k x tk t Tp u h₂ tk₂ oI hx hT ⟨⟨kvs, hd2, hf2⟩, hc⟩ hlt hne F2 N2
    dsimp only at *
    obtain ⟨hne0, -⟩ := hne
    have hlt0 := hlt.1
    have hi : i < c1.length := (List.getElem?_eq_some_iff.mp hx).1
    have hcl : c.length ≤ 10000 := by
      have := copy_len (c1.take i)
      rw [List.length_take] at this
      rw [hc]; omega
    k_steps
    rename Obj.IsDictOf _ _ _ => hdn
    rename FlatPairs _ _ _ => hfn
    refine turn_end (_, kdpPut c k x) (by assumption) (by assumption) (by k_mem) ⟨by k_mem, trivial⟩ ⟨by exact hne0, trivial⟩ ⟨⟨_, hdn, hfn⟩, ?_⟩ trivial ?_
    · dsimp only; rw [hc]; unfold copyC; rw [foldl_take hx]
    · intro z hz
      obtain ⟨h1, h2, -⟩ := id hz
      simp only [h1, h2, if_false]
      rw [fmap_off ?hs hz]
      case hs => rfl
  · rintro ⟨od, c⟩ u h₂ tk₂ ⟨⟨kvs, hd2, hf2⟩, hc⟩ F2 N2
    dsimp only at *
    rw [List.take_length] at hc
    k_steps
    rename_i V2 hV2 F3 N3 lV2
    refine it_items (c := c2) (σ := Obj × List (Str × Int)) (keep := []) (fun a => [(d0, a.1)]) (fun _ => []) (fun i a => DS PySem.Challenge.rw_pm0056_01.row.prog w a.1 a.2 ∧ a.2 = addC c (c2.take i)) ["func", "caller"] rfl ⟨_, (N3 _ (.head _)).1, rfl, rfl⟩ (T2.ofFr F3) (src_base F3 (tab_obj T2).choose_spec) F3 (fun p hp => N3 p (.tail _ hp)) (fun _ => trivial) ⟨(od, c), rfl, ⟨⟨_, hd2, hf2⟩, rfl⟩, trivial⟩ ?_ ?_
    · rintro I i ⟨oe, e⟩ k x tk t Tp u' h₃ tk₃ oI hx hT ⟨⟨kvs', hd3, hf3⟩, he⟩ hlt hne F4 N4
      dsimp only at *
      obtain ⟨hne0, -⟩ := hne
      have hlt0 := hlt.1
      have hi : i < c2.length := (List.getElem?_eq_some_iff.mp hx).1
      have hel : e.length ≤ 10000 := by
        have h1 := copy_len c1
        have h2 := add_len (c2.take i) c
        rw [List.length_take] at h2
        rw [he]; rw [hc] at h2 ⊢; omega
      have hnext : addC c (c2.take (i + 1)) = kdpPut e k (kdpLook e k 0 + x) := by rw [he]; unfold addC; rw [foldl_take hx]
      k_steps
      all_goals (
        rename Obj.IsDictOf _ _ _ => hdn
        rename FlatPairs _ _ _ => hfn
        rename kdpHas _ _ = _ => hhas
        refine turn_end (_, kdpPut e k (kdpLook e k 0 + x)) (by assumption) (by assumption) (by k_mem) ⟨by k_mem, trivial⟩ ⟨by exact hne0, trivial⟩ ⟨⟨_, hdn, by first | exact hfn | (rw [kdpLook_no hhas, Int.zero_add]; exact hfn)⟩, hnext.symm⟩ trivial ?_
        intro z hz
        obtain ⟨h1, h2, -⟩ := id hz
        simp only [h1, h2, if_false]
        rw [fmap_off ?hs hz]
        case hs => rfl)
    · rintro ⟨oe, e⟩ u' h₃ tk₃ ⟨⟨kvs', hd3, hf3⟩, he⟩ F4 N4
      dsimp only at *
      rw [List.take_length] at he
      k_steps
      dsimp only
      subst he hc
      exact ret _ _ _ _ _ F4.keep (N4 _ (.head _)).2.2 (N4 _ (.head _)).1 lo0 hd3 hf3
end
theorem reset_C3 {M : Model} {A : Around} {E : Value → Shared → Prop} {Q : Flow → Shared → Prop} {s : Shared} {env : Env} (h : Q .next s) : wpAny M A (execs [] env) Q E s := by
  w_top off
  walk1
  w_top off
  exact h
section
theorem new_at {s : Shared} {h₀ h' : Heap} {L a : Addr} {o : Obj} {m : Str → Option Value} {news : List (Addr × Obj)} (F : Fr h₀ L s.heap m) (N : News h₀ L s.heap news) (st : s.heap.StaysIn h') (hn : s.heap.get? a = none) (ho : h'.get? a = some o) :
    Fr h₀ L h' m ∧ News h₀ L h' ((a, o) :: news) ∧ AllNe a news := by
  refine ⟨F.keeps st, ?_, AllNe.of fun p hp e => ?_⟩
  · intro p hp
    rcases List.mem_cons.mp hp with rfl | hp
    · refine ⟨ho, fun e => ?_, ?_⟩
      · obtain ⟨oL, _, _, hL, _⟩ := F.ns
        have e' : a = L := e
        rw [e', hL] at hn; cases hn
      · cases q : h₀.get? a with
        | none => rfl
        | some x => have := F.keep _ _ q; rw [hn] at this; cases this
    · exact N.grown st p hp
  · have := (N p hp).1
    rw [e, hn] at this; cases this

section
variable {w : World} {loose : List Str} {mean : ExcName → Option Value} {mg mb : Str → Option Value} {s : Shared} {dp un : Nat} {fr : List Env} {gd : Option (List Code)} {E Q : Value → Shared → Prop} {h₀ : Heap} {L : Addr} {m : Str → Option Value} {news : List (Addr × Obj)}
theorem count_calls_use {d : Addr} {c : List (Str × Int)} (F : Fr h₀ L s.heap m) (N : News h₀ L s.heap news) (X : (hd.heap_39 w.params).In h₀) (T : Top hd.view_39 loose mean mg mb h₀) (hdp : dp + 10 < recursionLimit) (hun : un + 100 < cLine)
    (Ta : StrTab PySem.Challenge.rw_pm0056_01.row.prog w s.heap d (kdpD c))
    (ret : ∀ h' tk t, Fr h₀ L h' m → News h₀ L h' news → Q (.int (sumv c) t) { s with heap := h', toks := tk }) :
    wpAny (model PySem.Challenge.rw_pm0056_01.row.prog w) (amb dp un fr gd) (call (.ref 66) [.ref d]) Q E s :=
  count_calls_spec (X.keeps F.keep) (T.keeps F.keep) hdp hun Ta fun h' tk t st => ret h' tk t (F.keeps st) (N.grown st)
theorem add_callers_use {d1 d2 : Addr} {c1 c2 : List (Str × Int)} (F : Fr h₀ L s.heap m) (N : News h₀ L s.heap news) (X : (hd.heap_39 w.params).In h₀) (T : Top hd.view_39 loose mean mg mb h₀) (hdp : dp + 10 < recursionLimit) (hun : un + 100 < cLine)
    (T1 : StrTab PySem.Challenge.rw_pm0056_01.row.prog w s.heap d1 (kdpD c1)) (T2 : StrTab PySem.Challenge.rw_pm0056_01.row.prog w s.heap d2 (kdpD c2)) (hsz : c1.length + c2.length ≤ 10000)
    (ret : ∀ a o kvs h' tk, Fr h₀ L h' m → News h₀ L h' ((a, o) :: news) → AllNe a news → (a == sysModules) = false → o.IsDictOf (PySem.strKind PySem.Challenge.rw_pm0056_01.row.prog w) kvs → FlatPairs PyData.str kvs (kdpD (addC (copyC c1) c2)) → Q (.ref a) { s with heap := h', toks := tk }) :
    wpAny (model PySem.Challenge.rw_pm0056_01.row.prog w) (amb dp un fr gd) (call (.ref 59) [.ref d1, .ref d2]) Q E s :=
  add_callers_spec (X.keeps F.keep) (T.keeps F.keep) hdp hun T1 T2 hsz fun a o kvs h' tk st hn ho lo hd hf => by
    obtain ⟨F', N', ne⟩ := new_at F N st hn ho
    exact ret a o kvs h' tk F' N' ne lo hd hf
end

local macro_rules | `(tactic| walk_at "call ref") => `(tactic| (k_here; (with_reducible show wpAny _ _ (call (Value.ref 66) [Value.ref _]) _ _ _); k_dflt (refine' count_calls_use ?k1 ?k2 ?k3 ?k4 ?k5 ?k6 ?k7 ?_; (case k1 => k_asm); (case k2 => k_asm); (case k3 => assumption); (case k4 => assumption); (case k5 => omega); (case k6 => omega); (case k7 => k_tabat)); intro h' tk' t' F' N'; (try k_sweep)))
local macro_rules | `(tactic| walk_at "call ref") => `(tactic| (k_here; (with_reducible show wpAny _ _ (call (Value.ref 59) [Value.ref _, Value.ref _]) _ _ _); k_dflt (refine' add_callers_use ?k1 ?k2 ?k3 ?k4 ?k5 ?k6 ?k7 ?k8 ?k9 ?_; (case k1 => k_asm); (case k2 => k_asm); (case k3 => assumption); (case k4 => assumption); (case k5 => omega); (case k6 => omega); (case k7 => k_tabat); (case k8 => k_tabat); (case k9 => omega)); intro a' o' kvs' h' tk' F' N' ne' lo' hd' hf'; (try simp only [AllNe, and_true] at ne'); (try k_sweep)))

theorem add_func_stats_spec {w : World} {loose : List Str} {mean : ExcName → Option Value} {mg mb : Str → Option Value} {s : Shared} {dp un : Nat} {fr : List Env} {gd : Option (List Code)} {A B d1 d2 : Addr} {a1 a2 a3 a4 b1 b2 b3 b4 : Int} {t1 t2 t3 t4 u1 u2 u3 u4 : Tok} {c1 c2 : List (Str × Int)} {E Q : Value → Shared → Prop} :
    (hd.heap_39 w.params).In s.heap → Top hd.view_39 loose mean mg mb s.heap → dp + 20 < recursionLimit → un + 200 < cLine →
    IsTup s.heap A #[.int a1 t1, .int a2 t2, .int a3 t3, .int a4 t4, .ref d1] → IsTup s.heap B #[.int b1 u1, .int b2 u2, .int b3 u3, .int b4 u4, .ref d2] →
    StrTab PySem.Challenge.rw_pm0056_01.row.prog w s.heap d1 (kdpD c1) → StrTab PySem.Challenge.rw_pm0056_01.row.prog w s.heap d2 (kdpD c2) →
    c1.length + c2.length ≤ 10000 →
    (∀ Tp a o kvs h' tk v1 v2 v3 v4, s.heap.StaysIn h' → s.heap.get? Tp = none → h'.get? Tp = some { cls := .type "tuple", data := .seq #[.int (b1 + a1) v1, .int (b2 + a2) v2, .int (b3 + a3) v3, .int (b4 + a4) v4, .ref a] } → s.heap.get? a = none → h'.get? a = some o → Tp ≠ a → (a == sysModules) = false → o.IsDictOf (PySem.strKind PySem.Challenge.rw_pm0056_01.row.prog w) kvs → FlatPairs PyData.str kvs (kdpD (addC (copyC c1) c2)) → Q (.ref Tp) { s with heap := h', toks := tk }) →
    wpAny (model PySem.Challenge.rw_pm0056_01.row.prog w) (amb dp un fr gd) (call (.ref 52) [.ref A, .ref B]) Q E s := by
  k_fill
  intro X T hdp hun TA TB T1 T2 hsz ret
  k_dflt (refine' call_me (binds := [("target", .ref A), ("source", .ref B)]) X T ?ho ?hcd ?hroom ?hb ?hl ?hc ?hco ?hgen ?hk ?_; (case ho => k_is); (case hcd => k_is); (case hroom => omega); (case hb => exact BindsTo.of_eq rfl); (case hl => exact locs rfl); (case hc => decide); (case hco => exact rfl); (case hgen => exact rfl); (case hk => exact rfl))
  intro L h₁ F N
  have TA' := TA.keeps F.keep
  have TB' := TB.keeps F.keep
  k_steps
  rename Fr _ _ _ _ => FZ
  rename News _ _ _ _ => NZ
  rename Obj.IsDictOf _ _ _ => hdz
  rename FlatPairs _ _ _ => hfz
  rename (_ == sysModules) = false => loz
  exact ret _ _ _ _ _ _ _ _ _ _ FZ.keep (NZ _ (.head _)).2.2 (NZ _ (.head _)).1 (NZ _ (.tail _ (.head _))).2.2 (NZ _ (.tail _ (.head _))).1 (by k_ne) loz hdz hfz
end
theorem reset_C4 {M : Model} {A : Around} {E : Value → Shared → Prop} {Q : Flow → Shared → Prop} {s : Shared} {env : Env} (h : Q .next s) : wpAny M A (execs [] env) Q E s := by
  w_top off
  walk1
  w_top off
  exact h
section
theorem last_mid {a b : Value} {l : List Value} : (a :: (l ++ [b])).getLast? = some b := List.getLast?_concat (l := a :: l)
section
local macro_rules | `(tactic| walk_at "call builtin:str.split") => `(tactic| (k_here; (try dsimp only [List.cons_append, List.nil_append]); (with_reducible show wpAny _ _ (call (Value.builtin "str.split") [Value.str _ _, Value.str _ _]) _ _ _); refine hold_in ?_))
local macro_rules | `(tactic| walk_at "call builtin:len") => `(tactic| (k_here; (try dsimp only [List.cons_append, List.nil_append]); (with_reducible show wpAny _ _ (call (Value.builtin "len") [Value.ref _]) _ _ _); (refine len_led (by k_asm) (by k_mem) ?_ ?_); (simp only [strValues, List.length_cons, List.length_append, List.length_map, List.length_nil]; omega); (simp only [strValues, List.length_cons, List.length_append, List.length_map, List.length_nil])))
local macro_rules | `(tactic| walk_at "subscriptTail Name Constant ref int") => `(tactic| (k_here; (refine item_led (by k_asm) (by k_mem) (by decide) (by decide) (by exact rfl) ?_)))
local macro_rules | `(tactic| walk_at "subscriptTail Name UnaryOp ref int") => `(tactic| (k_here; (refine last_led (by k_asm) (by k_mem) (by (simp only [strValues, List.length_cons, List.length_append, List.length_map, List.length_nil]; omega)) last_mid ?_)))
local macro_rules | `(tactic| walk_at "call builtin:str.find") => `(tactic| (k_here; (refine find_to ?_)))
local macro_rules | `(tactic| walk_at "pyIter ref") => `(tactic| (refine hold_in ?_))

theorem em_mid_spec {w : World} {loose : List Str} {mean : ExcName → Option Value} {mg mb : Str → Option Value} {s : Shared} {dp un : Nat} {fr : List Env} {gd : Option (List Code)} {W G : Str} {mid : List Str} {tw tg : Tok} {E Q : Value → Shared → Prop} :
    (hd.heap_39 w.params).In s.heap → Top hd.view_39 loose mean mg mb s.heap → dp + 10 < recursionLimit → un + 100 < cLine → W.length ≤ 100 → G.length ≤ 100 →
    Txt.contains W "..." = true → Txt.split W "..." = Str.empty :: (mid ++ [Str.empty]) → mid.length ≤ 100 → (∀ x ∈ mid, x.length ≤ 100) →
    (∀ h' tk, s.heap.StaysIn h' → Q (.bool (chase G (Str.empty :: (mid ++ [Str.empty])) 0)) { s with heap := h', toks := tk }) →
    wpAny (model PySem.Challenge.rw_pm0056_01.row.prog w) (amb dp un fr gd) (call (.ref 45) [.str W tw, .str G tg]) Q E s := by
  k_fill
  intro X T hdp hun hW hG hcon hsp hmid hsm ret
  k_dflt (refine' call_me (binds := [("want", .str W tw), ("got", .str G tg)]) X T ?ho ?hcd ?hroom ?hb ?hl ?hc ?hco ?hgen ?hk ?_; (case ho => k_is); (case hcd => k_is); (case hroom => omega); (case hb => exact BindsTo.of_eq rfl); (case hl => exact locs rfl); (case hc => decide); (case hco => exact rfl); (case hgen => exact rfl); (case hk => exact rfl))
  intro L h₁ F N
  k_steps
  · exfalso
    rename (_ = true) => hx
    rw [show (Builtin.Str.occurrences W "..." 0 W.length 1).isEmpty = !Txt.contains W "..." by unfold Txt.contains; rw [Bool.not_not], hcon] at hx
    cases hx
  unfold Hold
  rename (_ = false) => hocc
  clear hocc
  refine split_mid (by k_asm) (by k_asm) (by decide) (by assumption) ?_ (by rw [sizeLine_eq]; omega)
  intro DL t0 lm t1 h2 k hlm hln F1 N1 l1
  clear l1 F N
  k_steps
  unfold Hold
  rename Fr _ _ _ _ => F1
  rename News _ _ _ _ => N1
  have hS : ∀ (i : Nat) (v : Value), (Value.str Str.empty t0 :: (strValues lm ++ [Value.str Str.empty t1]))[i]? = some v → ∃ (x : Str) (t : Tok), v = Value.str x t ∧ (Str.empty :: (mid ++ [Str.empty]))[i]? = some x ∧ x.length ≤ 100 := by
    intro i v hv
    have e : Value.str Str.empty t0 :: (strValues lm ++ [Value.str Str.empty t1]) = ((Str.empty, t0) :: (lm ++ [(Str.empty, t1)])).map (fun p : Str × Tok => Value.str p.1 p.2) := by simp [strValues]
    rw [e, List.getElem?_map] at hv
    cases hq : ((Str.empty, t0) :: (lm ++ [(Str.empty, t1)]))[i]? with
    | none => rw [hq] at hv; cases hv
    | some q =>
      rw [hq] at hv
      obtain ⟨x, t⟩ := q
      cases hv
      have e2 : Str.empty :: (mid ++ [Str.empty]) = ((Str.empty, t0) :: (lm ++ [(Str.empty, t1)])).map (·.1) := by simp [hlm]
      have hx : (Str.empty :: (mid ++ [Str.empty]))[i]? = some x := by rw [e2, List.getElem?_map, hq]; rfl
      refine ⟨x, t, rfl, hx, ?_⟩
      have hm := List.mem_of_getElem? hx
      simp only [List.mem_cons, List.mem_append, List.not_mem_nil, or_false] at hm
      rcases hm with rfl | hm | rfl
      · exact Nat.zero_le _
      · exact hsm x hm
      · exact Nat.zero_le _
  have hlenS : (Str.empty :: (mid ++ [Str.empty])).length = (Value.str Str.empty t0 :: (strValues lm ++ [Value.str Str.empty t1])).length := by simp [strValues, hln]
  generalize hSS : Str.empty :: (mid ++ [Str.empty]) = SS at *
  generalize hVV : Value.str Str.empty t0 :: (strValues lm ++ [Value.str Str.empty t1]) = VV at *
  refine it_list (vs := VV) (σ := Int × Tok) (keep := [(DL, listOf VV.toArray 0)]) (fun _ => [(DL, listOf VV.toArray 0)]) (fun a => [("startpos", .int a.1 a.2)]) (fun i a => chase G SS 0 = chase G (SS.drop i) a.1 ∧ 0 ≤ a.1) ["w", "startpos"] rfl (list_led N1 (.tail _ (.head _))) (src_news N1 (.tail _ (.head _))) F1 (fun p hp => N1 p (.tail _ hp)) (fun _ => ⟨.head _, trivial⟩) ⟨(0, _), rfl, ⟨by rw [List.drop_zero], Int.le_refl 0⟩, by with_unfolding_all exact ⟨rfl, trivial⟩⟩ ?_ ?_
  · rintro I i ⟨p0, pt⟩ v u h₂ tk₂ oI hv ⟨hc1, hc2⟩ hlt hne F2 N2
    obtain ⟨x, xt, rfl, hx, hxl⟩ := hS i v hv
    dsimp only at hc1 hc2
    obtain ⟨hne0, -⟩ := hne
    have hlt0 := hlt.1
    dsimp only at hne0 hlt0
    have hd : SS.drop i = x :: SS.drop (i + 1) := by
      obtain ⟨hi, e⟩ := List.getElem?_eq_some_iff.mp hx
      rw [← e]; exact List.drop_eq_getElem_cons hi
    rw [hd, chase] at hc1
    k_steps
    · rename Txt.find3 _ _ _ < 0 => hneg
      rename Fr _ _ _ _ => FZ
      rw [if_pos hneg] at hc1
      rw [hc1] at ret
      exact ret _ _ FZ.keep
    · rename ¬ Txt.find3 _ _ _ < 0 => hneg
      rw [if_neg hneg] at hc1
      replace hneg : ¬ Txt.find3 G x p0 < 0 := hneg
      refine turn_end (Txt.find3 G x p0 + (x.length : Nat), _) (by assumption) (by assumption) (by k_mem) ⟨by k_mem, trivial⟩ ⟨by exact hne0, trivial⟩ ⟨hc1, by dsimp only; omega⟩ (by with_unfolding_all exact ⟨rfl, trivial⟩) ?_
      intro z hz
      obtain ⟨h1, h2, -⟩ := id hz
      simp only [h1, h2, if_false]
      rw [fmap_off ?hs hz]
      case hs => with_unfolding_all rfl
      simp only [h1, h2, if_false]
  · rintro ⟨p0, pt⟩ u h₂ tk₂ ⟨hc1, hc2⟩ F2 N2
    k_steps
    dsimp only at hc1 ⊢
    rw [List.drop_eq_nil_of_le (by omega)] at hc1
    rw [hc1] at ret
    exact ret _ _ F2.keep
end
end
theorem reset_C5 {M : Model} {A : Around} {E : Value → Shared → Prop} {Q : Flow → Shared → Prop} {s : Shared} {env : Env} (h : Q .next s) : wpAny M A (execs [] env) Q E s := by
  w_top off
  walk1
  w_top off
  exact h
section
theorem starts_len {G q : Str} (h : Txt.startswith G q = true) : q.length ≤ G.length := by
  unfold Txt.startswith at h
  rw [Bool.and_eq_true, decide_eq_true_eq] at h
  omega
open PySem.Builtin.Str in
theorem find3_empty {G : Str} {p : Int} (h0 : 0 ≤ p) (h1 : p ≤ (G.length : Nat)) : Txt.find3 G Str.empty p = p := by
  unfold Txt.find3
  have e : fromIndex G.length p = p.toNat := by
    unfold fromIndex
    rw [if_neg (by omega)]; omega
  rw [e]
  rcases StrLaws.occ_head_from G Str.empty p.toNat 1 (Nat.le_refl 1) with ⟨h2, h3⟩ | ⟨i, r, h2, h3, h4, h5⟩
  · exfalso
    refine h3 p.toNat (Nat.le_refl _) ⟨by show p.toNat + 0 ≤ G.length; omega, ?_⟩
    rw [StrLaws.subAt_eq]
    show (List.take 0 _ == ([] : List Nat)) = true
    simp
  · rw [h2]
    have : i = p.toNat := by
      refine Classical.byContradiction fun hne => ?_
      refine h5 p.toNat (Nat.le_refl _) (by omega) ⟨by show p.toNat + 0 ≤ G.length; omega, ?_⟩
      rw [StrLaws.subAt_eq]
      show (List.take 0 _ == ([] : List Nat)) = true
      simp
    rw [this]
    show ((p.toNat : Nat) : Int) = p
    omega

theorem truthy_pos {prog : Program} {w : World} {A : Around} {E : Value → Shared → Prop} {s : Shared} {x : Str} {t : Tok} {Q : Bool → Shared → Prop} (hfit : ¬ (x.length : Int) ≥ 2 ^ 63) (h1 : 1 ≤ x.length) (h : Q true { s with toks := s.toks + 1 + 1 }) :
    wpAny (model prog w) A (truthy (.str x t)) Q E s :=
  P.truthy_str hfit (by rw [show ((x.length : Int) != 0) = true by simp; omega]; exact h)
section
local macro_rules | `(tactic| walk_at "truthy str") => `(tactic| (k_here; refine truthy_pos (by omega) (by omega) ?_))
local macro_rules | `(tactic| walk_at "call builtin:str.split") => `(tactic| (k_here; (try dsimp only [List.cons_append, List.nil_append]); (with_reducible show wpAny _ _ (call (Value.builtin "str.split") [Value.str _ _, Value.str _ _]) _ _ _); refine hold_in ?_))
local macro_rules | `(tactic| walk_at "call builtin:str.startswith") => `(tactic| (refine hold_in ?_))
local macro_rules | `(tactic| walk_at "call builtin:str.find") => `(tactic| (refine hold_in ?_))
theorem em_two_spec {w : World} {loose : List Str} {mean : ExcName → Option Value} {mg mb : Str → Option Value} {s : Shared} {dp un : Nat} {fr : List Env} {gd : Option (List Code)} {W G q : Str} {tw tg : Tok} {E Q : Value → Shared → Prop} :
    (hd.heap_39 w.params).In s.heap → Top hd.view_39 loose mean mg mb s.heap → dp + 10 < recursionLimit → un + 100 < cLine → W.length ≤ 100 → G.length ≤ 100 →
    Txt.contains W "..." = true → Txt.split W "..." = [q, Str.empty] → q.length ≤ 100 → 1 ≤ q.length →
    (∀ h' tk, s.heap.StaysIn h' → Q (.bool (Txt.startswith G q)) { s with heap := h', toks := tk }) →
    wpAny (model PySem.Challenge.rw_pm0056_01.row.prog w) (amb dp un fr gd) (call (.ref 45) [.str W tw, .str G tg]) Q E s := by
  k_fill
  intro X T hdp hun hW hG hcon hsp hq1 hq2 ret
  k_dflt (refine' call_me (binds := [("want", .str W tw), ("got", .str G tg)]) X T ?ho ?hcd ?hroom ?hb ?hl ?hc ?hco ?hgen ?hk ?_; (case ho => k_is); (case hcd => k_is); (case hroom => omega); (case hb => exact BindsTo.of_eq rfl); (case hl => exact locs rfl); (case hc => decide); (case hco => exact rfl); (case hgen => exact rfl); (case hk => exact rfl))
  intro L h₁ F N
  k_steps
  · exfalso
    rename (_ = true) => hx
    rw [show (Builtin.Str.occurrences W "..." 0 W.length 1).isEmpty = !Txt.contains W "..." by unfold Txt.contains; rw [Bool.not_not], hcon] at hx
    cases hx
  unfold Hold
  rename (_ = false) => hocc
  clear hocc
  refine split_two (by k_asm) (by k_asm) (by decide) (by assumption) ?_ (by rw [sizeLine_eq]; omega)
  intro DL t0 t1 h2 k F1 N1 l1
  clear l1 F N
  k_steps
  unfold Hold
  refine SC.startswith ?_
  cases hst : Txt.startswith G q with
  | false =>
    rw [hst] at ret
    k_steps
    rename Fr _ _ _ _ => FZ
    exact ret _ _ FZ.keep
  | true =>
    have hle := starts_len hst
    rw [hst] at ret
    k_steps
    unfold Hold
    refine find_to ?_
    rw [find3_empty (by omega) (by omega)]
    k_steps
    rename Fr _ _ _ _ => FZ
    exact ret _ _ FZ.keep
end
end
theorem reset_C6 {M : Model} {A : Around} {E : Value → Shared → Prop} {Q : Flow → Shared → Prop} {s : Shared} {env : Env} (h : Q .next s) : wpAny M A (execs [] env) Q E s := by
  w_top off
  walk1
  w_top off
  exact h
section
theorem map_lst_inj {a : List Str} {b : List (List Nat)} {c : List Str} (h : a.map lst = b) (h' : c.map lst = b) : a = c := by
  subst h'
  induction a generalizing c with
  | nil => cases c with
    | nil => rfl
    | cons _ _ => cases h
  | cons x r ih => cases c with
    | nil => cases h
    | cons y q =>
      rw [List.map_cons, List.map_cons, List.cons.injEq] at h
      rw [lst_inj h.1, ih h.2]

section
variable {w : World} {loose : List Str} {mean : ExcName → Option Value} {mg mb : Str → Option Value} {s : Shared} {dp un : Nat} {fr : List Env} {gd : Option (List Code)} {E Q : Value → Shared → Prop} {h₀ : Heap} {L : Addr} {m : Str → Option Value} {news : List (Addr × Obj)}
theorem em_mid_use {W G : Str} {mid : List Str} {tw tg : Tok} (F : Fr h₀ L s.heap m) (N : News h₀ L s.heap news) (X : (hd.heap_39 w.params).In h₀) (T : Top hd.view_39 loose mean mg mb h₀) (hdp : dp + 10 < recursionLimit) (hun : un + 100 < cLine)
    (hW : W.length ≤ 100) (hG : G.length ≤ 100) (hm : mid.length ≤ 100) (hm2 : ∀ x ∈ mid, x.length ≤ 100) (hno : ∀ x ∈ mid, 46 ∉ lst x) (hWl : lst W = dotted ([] :: (mid.map lst ++ [[]])))
    (ret : ∀ h' tk, Fr h₀ L h' m → News h₀ L h' news → Q (.bool (chaseL (mid.map lst) (lst G))) { s with heap := h', toks := tk }) :
    wpAny (model PySem.Challenge.rw_pm0056_01.row.prog w) (amb dp un fr gd) (call (.ref 45) [.str W tw, .str G tg]) Q E s := by
  obtain ⟨q, r, hqr⟩ : ∃ q r, mid.map lst ++ [[]] = q :: r := by
    cases mid.map lst with
    | nil => exact ⟨_, _, rfl⟩
    | cons a b => exact ⟨_, _, rfl⟩
  have hsp := split_dotted W [] q r (by
    rw [← hqr]
    intro z hz
    rcases List.mem_cons.mp hz with rfl | hz
    · simp
    rcases List.mem_append.mp hz with hz | hz
    · obtain ⟨x, hx, rfl⟩ := List.mem_map.mp hz
      exact hno x hx
    · rw [List.mem_singleton.mp hz]; simp) (by rw [hWl, hqr])
  have hsp2 : Txt.split W "..." = Str.empty :: (mid ++ [Str.empty]) := map_lst_inj hsp.2 (by rw [← hqr]; simp [lst_empty])
  refine em_mid_spec (X.keeps F.keep) (T.keeps F.keep) hdp hun hW hG hsp.1 hsp2 hm hm2 fun h' tk st => ?_
  have e : chase G (Str.empty :: (mid ++ [Str.empty])) 0 = chaseL (mid.map lst) (lst G) := by
    rw [chase_eq G _ 0 (Int.le_refl 0) (by omega)]
    show chaseL (lst Str.empty :: (mid ++ [Str.empty]).map lst) ((lst G).drop 0) = _
    rw [List.map_append, List.drop_zero]
    exact chaseL_mid (mid.map lst) (lst G)
  rw [e]
  exact ret h' tk (F.keeps st) (N.grown st)
theorem em_two_use {W G q : Str} {tw tg : Tok} (F : Fr h₀ L s.heap m) (N : News h₀ L s.heap news) (X : (hd.heap_39 w.params).In h₀) (T : Top hd.view_39 loose mean mg mb h₀) (hdp : dp + 10 < recursionLimit) (hun : un + 100 < cLine)
    (hW : W.length ≤ 100) (hG : G.length ≤ 100) (hq : q.length ≤ 100) (hq1 : 1 ≤ q.length) (hno : 46 ∉ lst q) (hWl : lst W = lst q ++ [46, 46, 46])
    (ret : ∀ h' tk, Fr h₀ L h' m → News h₀ L h' news → Q (.bool ((lst q).isPrefixOf (lst G))) { s with heap := h', toks := tk }) :
    wpAny (model PySem.Challenge.rw_pm0056_01.row.prog w) (amb dp un fr gd) (call (.ref 45) [.str W tw, .str G tg]) Q E s := by
  have hsp := split_dotted W (lst q) [] [] (by
    intro z hz
    rcases List.mem_cons.mp hz with rfl | hz
    · exact hno
    · rw [List.mem_singleton.mp hz]; simp) (by rw [hWl]; simp [dotted])
  have hsp2 : Txt.split W "..." = [q, Str.empty] := map_lst_inj hsp.2 rfl
  refine em_two_spec (X.keeps F.keep) (T.keeps F.keep) hdp hun hW hG hsp.1 hsp2 hq hq1 fun h' tk st => ?_
  rw [starts_eq]
  exact ret h' tk (F.keeps st) (N.grown st)
end

section
local macro_rules | `(tactic| walk_at "call ref") => `(tactic| (refine hold_in ?_))
theorem lies_in_spec {w : World} {loose : List Str} {mean : ExcName → Option Value} {mg mb : Str → Option Value} {s : Shared} {dp un : Nat} {fr : List Env} {gd : Option (List Code)} {p t : Str} {tp tt : Tok} {E Q : Value → Shared → Prop} :
    (hd.heap_39 w.params).In s.heap → Top hd.view_39 loose mean mg mb s.heap → dp + 20 < recursionLimit → un + 200 < cLine → p.length ≤ 20 → t.length ≤ 20 → 46 ∉ lst p →
    (∀ h' tk, s.heap.StaysIn h' → Q (.bool (inB (lst p) (lst t))) { s with heap := h', toks := tk }) →
    wpAny (model PySem.Challenge.rw_pm0056_01.row.prog w) (amb dp un fr gd) (call (.ref 240) [.str p tp, .str t tt]) Q E s := by
  k_fill
  intro X T hdp hun hp ht hno ret
  k_dflt (refine' call_me (binds := [("part", .str p tp), ("text", .str t tt)]) X T ?ho ?hcd ?hroom ?hb ?hl ?hc ?hco ?hgen ?hk ?_; (case ho => k_is); (case hcd => k_is); (case hroom => omega); (case hb => exact BindsTo.of_eq rfl); (case hl => exact locs rfl); (case hc => decide); (case hco => exact rfl); (case hgen => exact rfl); (case hk => exact rfl))
  intro L h₁ F N
  k_steps
  unfold Hold
  have hl3 := dots_len
  refine em_mid_use (mid := [p]) F N X T (by omega) (by omega) ?_ (by omega) (by simp) ?_ ?_ ?_ ?_
  · rw [Str.length_append, Str.length_append, hl3]; omega
  · intro x hx; rw [List.mem_singleton.mp hx]; omega
  · intro x hx; rw [List.mem_singleton.mp hx]; exact hno
  · rw [lst_append, lst_append, dots_lst]; simp [dotted]
  · intro h' tk' F' N'
    have e : chaseL ([p].map lst) (lst t) = inB (lst p) (lst t) := chaseL_one _ _
    rw [e]
    exact ret _ _ F'.keep
end

theorem lies_in_use {w : World} {loose : List Str} {mean : ExcName → Option Value} {mg mb : Str → Option Value} {s : Shared} {dp un : Nat} {fr : List Env} {gd : Option (List Code)} {E Q : Value → Shared → Prop} {h₀ : Heap} {L : Addr} {m : Str → Option Value} {news : List (Addr × Obj)}
    {p t : Str} {tp tt : Tok} (F : Fr h₀ L s.heap m) (N : News h₀ L s.heap news) (X : (hd.heap_39 w.params).In h₀) (T : Top hd.view_39 loose mean mg mb h₀) (hdp : dp + 20 < recursionLimit) (hun : un + 200 < cLine)
    (hp : p.length ≤ 20) (ht : t.length ≤ 20) (hno : 46 ∉ lst p) (ret : ∀ h' tk, Fr h₀ L h' m → News h₀ L h' news → Q (.bool (inB (lst p) (lst t))) { s with heap := h', toks := tk }) :
    wpAny (model PySem.Challenge.rw_pm0056_01.row.prog w) (amb dp un fr gd) (call (.ref 240) [.str p tp, .str t tt]) Q E s :=
  lies_in_spec (X.keeps F.keep) (T.keeps F.keep) hdp hun hp ht hno fun h' tk st => ret h' tk (F.keeps st) (N.grown st)
end
theorem reset_C7 {M : Model} {A : Around} {E : Value → Shared → Prop} {Q : Flow → Shared → Prop} {s : Shared} {env : Env} (h : Q .next s) : wpAny M A (execs [] env) Q E s := by
  w_top off
  walk1
  w_top off
  exact h
section
def stepS (part : Str) (c : List (Str × Int)) (t : Str) : List (Str × Int) :=
  if inB (lst part) (lst t) = true then kdpPut c t (if t = part then 1 else -(sumv (copyC (c.filter fun p => inB (lst p.1) (lst t))))) else c
def signsC (part : Str) (ws : List Str) : List (Str × Int) := ws.foldl (stepS part) []
def Plain (x : Str) : Prop := x.length ≤ 20 ∧ 46 ∉ lst x
theorem kdpPut_keys {c : List (Str × Int)} {k : Str} {v : Int} {p : Str × Int} (h : p ∈ kdpPut c k v) : p.1 = k ∨ ∃ q ∈ c, q.1 = p.1 := by
  unfold kdpPut at h
  split at h
  · obtain ⟨q, hq, e⟩ := List.mem_map.mp h
    right
    refine ⟨q, hq, ?_⟩
    rw [← e]; split <;> rfl
  · rcases List.mem_append.mp h with h | h
    · exact .inr ⟨p, h, rfl⟩
    · rw [List.mem_singleton.mp h]; exact .inl rfl
theorem stepS_len (part : Str) (c : List (Str × Int)) (t : Str) : (stepS part c t).length ≤ c.length + 1 := by
  unfold stepS
  split
  · exact kdpPut_len _ _ _
  · omega
def belowC (t : Str) (c : List (Str × Int)) : List (Str × Int) := copyC (c.filter fun p => inB (lst p.1) (lst t))
theorem belowC_take {t : Str} {c : List (Str × Int)} {i : Nat} {k : Str} {x : Int} (h : c[i]? = some (k, x)) : belowC t (c.take (i + 1)) = if inB (lst k) (lst t) = true then kdpPut (belowC t (c.take i)) k x else belowC t (c.take i) := by
  unfold belowC copyC
  rw [List.take_add_one, h]
  rw [List.filter_append]
  simp only [Option.toList_some, List.filter_cons, List.filter_nil]
  split
  · rw [List.foldl_append]; rfl
  · rw [List.append_nil]
theorem belowC_len (t : Str) (c : List (Str × Int)) : (belowC t c).length ≤ c.length := Nat.le_trans (copy_len _) (List.length_filter_le _ _)
theorem strsAre_get {vs : List Value} {ws : List Str} (h : StrsAre vs ws) : ∀ {i : Nat} {v : Value}, vs[i]? = some v → ∃ x t, v = Value.str x t ∧ ws[i]? = some x := by
  induction h with
  | nil => intro i v hv; simp at hv
  | cons x t h ih =>
    intro i v hv
    cases i with
    | zero => simp at hv; exact ⟨_, _, hv.symm, rfl⟩
    | succ i => simp at hv; simpa using ih hv

section
local macro_rules | `(tactic| walk_at "call ref") => `(tactic| (k_here; (with_reducible show wpAny _ _ (call (Value.ref 240) [Value.str _ _, Value.str _ _]) _ _ _); k_dflt (refine' lies_in_use ?k1 ?k2 ?k3 ?k4 ?k5 ?k6 ?k7 ?k8 ?k9 ?_; (case k1 => k_asm); (case k2 => k_asm); (case k3 => assumption); (case k4 => assumption); (case k5 => omega); (case k6 => omega); (case k7 => assumption); (case k8 => assumption); (case k9 => assumption)); intro h' tk' F' N'; (try k_sweep)))
local macro_rules | `(tactic| walk_at "call ref") => `(tactic| (k_here; (with_reducible show wpAny _ _ (call (Value.ref 66) [Value.ref _]) _ _ _); k_dflt (refine' count_calls_use ?k1 ?k2 ?k3 ?k4 ?k5 ?k6 ?k7 ?_; (case k1 => k_asm); (case k2 => k_asm); (case k3 => assumption); (case k4 => assumption); (case k5 => omega); (case k6 => omega); (case k7 => k_tabat)); intro h' tk' t' F' N'; (try k_sweep)))
local macro_rules | `(tactic| walk_at "pyIter ref") => `(tactic| (refine hold_in ?_))
theorem signs_spec {w : World} {loose : List Str} {mean : ExcName → Option Value} {mg mb : Str → Option Value} {s : Shared} {dp un : Nat} {fr : List Env} {gd : Option (List Code)} {lw : Addr} {vs : List Value} {ws : List Str} {p : Str} {tp : Tok} {E Q : Value → Shared → Prop} :
    (hd.heap_39 w.params).In s.heap → Top hd.view_39 loose mean mg mb s.heap → dp + 30 < recursionLimit → un + 300 < cLine →
    s.heap.IsList lw vs.toArray → StrsAre vs ws → ws.length ≤ 1000 → (∀ x ∈ ws, Plain x) → Plain p →
    (∀ a o kvs h' tk, s.heap.StaysIn h' → s.heap.get? a = none → h'.get? a = some o → (a == sysModules) = false → o.IsDictOf (PySem.strKind PySem.Challenge.rw_pm0056_01.row.prog w) kvs → FlatPairs PyData.str kvs (kdpD (signsC p ws)) → Q (.ref a) { s with heap := h', toks := tk }) →
    wpAny (model PySem.Challenge.rw_pm0056_01.row.prog w) (amb dp un fr gd) (call (.ref 247) [.ref lw, .str p tp]) Q E s := by
  k_fill
  intro X T hdp hun hl hws hwl hpl ⟨hp1, hp2⟩ ret
  k_dflt (refine' call_me (binds := [("words", .ref lw), ("part", .str p tp)]) X T ?ho ?hcd ?hroom ?hb ?hl ?hc ?hco ?hgen ?hk ?_; (case ho => k_is); (case hcd => k_is); (case hroom => omega); (case hb => exact BindsTo.of_eq rfl); (case hl => exact locs rfl); (case hc => decide); (case hco => exact rfl); (case hgen => exact rfl); (case hk => exact rfl))
  intro L h₁ F N
  have hlen : vs.length = ws.length := hws.length
  k_steps
  unfold Hold
  rename Fr _ _ _ _ => F1
  rename News _ _ _ _ => N1
  rename_i d0 hx0 o0 lo0 hs0 fs0 hi0 fi0 l0 hx1
  clear hi0 fi0
  refine it_list (vs := vs) (σ := Obj × List (Str × Int)) (keep := []) (fun a => [(d0, a.1)]) (fun _ => []) (fun i a => DS PySem.Challenge.rw_pm0056_01.row.prog w a.1 a.2 ∧ a.2 = signsC p (ws.take i) ∧ (∀ q ∈ a.2, Plain q.1) ∧ a.2.length ≤ i) ["text", "below", "other", "sign"] rfl (hl.at fun o e => F1.keep lw o e) (src_base F1 hl.choose_spec.1) F1 N1 (fun _ => trivial) ⟨(o0, []), rfl, ⟨⟨[], hs0, fs0⟩, rfl, (fun q hq => nomatch hq), Nat.le_refl _⟩, trivial⟩ ?_ ?_
  · rintro I i ⟨od, c⟩ v u h₂ tk₂ oI hv ⟨⟨kvs, hd2, hf2⟩, hc, hcp, hcl⟩ hlt hne F2 N2
    obtain ⟨t, tt, rfl, ht⟩ := strsAre_get hws hv
    obtain ⟨htl, htn⟩ := hpl t (List.mem_of_getElem? ht)
    have hi : i < ws.length := (List.getElem?_eq_some_iff.mp ht).1
    have hne0 := hne.1
    have hlt0 := hlt.1
    dsimp only at *
    have hnext : signsC p (ws.take (i + 1)) = stepS p c t := by rw [hc]; unfold signsC; rw [foldl_take ht]
    have hkeys : ∀ q ∈ stepS p c t, Plain q.1 := by
      intro q hq
      unfold stepS at hq
      split at hq
      · rcases kdpPut_keys hq with e | ⟨q', hq', e⟩
        · rw [e]; exact ⟨htl, htn⟩
        · rw [← e]; exact hcp q' hq'
      · exact hcp q hq
    have hnl := stepS_len p c t
    k_steps
    · rename inB _ _ = true => hin
      unfold Hold
      rename Fr _ _ _ _ => F3
      rename News _ _ _ _ => N3
      rename_i dB hxB oB loB hsB fsB hiB fiB lB hxB2 DV hV lV
      clear hiB fiB
      obtain ⟨lB1, lB2⟩ := lB
      have Tc : StrTab PySem.Challenge.rw_pm0056_01.row.prog w hV d0 (kdpD c) := TabAt.ofNews N3 (by k_mem) lo0 hd2 hf2
      refine it_items (c := c) (σ := Obj × List (Str × Int)) (keep := [(d0, od)]) (fun a => [(dB, a.1), (I, oI), (d0, od)]) (fun _ => []) (fun j a => DS PySem.Challenge.rw_pm0056_01.row.prog w a.1 a.2 ∧ a.2 = belowC t (c.take j)) ["other", "sign"] rfl ⟨_, (N3 _ (.head _)).1, rfl, rfl⟩ Tc (src_news N3 (by k_mem)) F3 (fun q hq => N3 q (.tail _ hq)) (fun _ => ⟨by k_mem, trivial⟩) ⟨(oB, []), rfl, ⟨⟨[], hsB, fsB⟩, rfl⟩, trivial⟩ ?_ ?_
      · rintro J j ⟨oe, e⟩ k x tk t' Tp u' h₃ tk₃ oJ hx hT ⟨⟨kvs', hd3, hf3⟩, he⟩ hltJ hneJ F4 N4
        obtain ⟨hk1, hk2⟩ := hcp _ (List.mem_of_getElem? hx)
        have hj : j < c.length := (List.getElem?_eq_some_iff.mp hx).1
        have hnJ := hneJ.1
        have hnJ2 := hneJ.2.1
        have hnJ3 := hneJ.2.2.1
        have hlJ := hltJ.1
        have hlJ2 := hltJ.2.1
        have hlJ3 := hltJ.2.2.1
        dsimp only at *
        have hel : e.length ≤ 1000 := by
          have := belowC_len t (c.take j)
          rw [List.length_take] at this
          rw [he]; omega
        have hstep := belowC_take (t := t) hx
        rw [← he] at hstep
        k_steps
        · rename inB (lst k) _ = true => hin2
          rw [if_pos hin2] at hstep
          rename Obj.IsDictOf _ _ _ => hdn
          rename FlatPairs _ _ _ => hfn
          refine turn_end (_, kdpPut e k x) (by assumption) (by assumption) (by k_mem) ⟨by k_mem, by k_mem, by k_mem, trivial⟩ ⟨by exact hnJ, by exact hnJ2, by exact hnJ3, trivial⟩ ⟨⟨_, hdn, hfn⟩, hstep.symm⟩ trivial ?_
          intro z hz
          obtain ⟨h1, h2, -⟩ := id hz
          simp only [h1, h2, if_false]
          rw [fmap_off ?hs hz]
          case hs => rfl
        · rename inB (lst k) _ = false => hin2
          rw [if_neg (by rw [hin2]; exact Bool.false_ne_true)] at hstep
          refine turn_end (_, e) (by assumption) (by assumption) (by k_mem) ⟨by k_mem, by k_mem, by k_mem, trivial⟩ ⟨by exact hnJ, by exact hnJ2, by exact hnJ3, trivial⟩ ⟨⟨_, hd3, hf3⟩, hstep.symm⟩ trivial ?_
          intro z hz
          obtain ⟨h1, h2, -⟩ := id hz
          simp only [h1, h2, if_false]
          rw [fmap_off ?hs hz]
          case hs => rfl
      · rintro ⟨oe, e⟩ u' h₃ tk₃ ⟨⟨kvs', hd3, hf3⟩, he⟩ F4 N4
        dsimp only at *
        rw [List.take_length] at he
        have hst : stepS p c t = kdpPut c t (if t = p then 1 else -(sumv e)) := by
          unfold stepS; rw [if_pos hin, he]; rfl
        k_steps
        all_goals (
          rename (t == p) = _ => htp
          rename Obj.IsDictOf _ _ _ => hdn
          rename FlatPairs _ _ _ => hfn
          refine turn_end (_, stepS p c t) (by assumption) (by assumption) (by k_mem) ⟨by k_mem, trivial⟩ ⟨by exact hne0, trivial⟩ ⟨⟨_, hdn, by first | (rw [hst, if_pos (eq_of_beq htp)]; exact hfn) | (rw [hst, if_neg (fun e9 => by rw [e9] at htp; simp at htp)]; exact hfn)⟩, hnext.symm, hkeys, by dsimp only; omega⟩ trivial ?_
          intro z hz
          obtain ⟨h1, h2, h3, h4, -⟩ := id hz
          rw [fmap_off ?hs (show OffL z ["other", "sign"] from ⟨h3, h4, trivial⟩)]
          case hs => rfl
          simp only [h1, h2, if_false]
          rw [fmap_off ?hs2 hz]
          case hs2 => rfl)
    · rename inB _ _ = false => hin
      have hno : stepS p c t = c := by unfold stepS; rw [if_neg (by rw [hin]; exact Bool.false_ne_true)]
      refine turn_end (_, c) (by assumption) (by assumption) (by k_mem) ⟨by k_mem, trivial⟩ ⟨by exact hne0, trivial⟩ ⟨⟨_, hd2, hf2⟩, by dsimp only; rw [hnext, hno], hcp, by dsimp only; omega⟩ trivial ?_
      intro z hz
      obtain ⟨h1, h2, h3, h4, -⟩ := id hz
      simp only [h1, h2, h3, h4, if_false]
      rw [fmap_off ?hs hz]
      case hs => rfl
  · rintro ⟨od, c⟩ u h₂ tk₂ ⟨⟨kvs, hd2, hf2⟩, hc, hcp, hcl⟩ F2 N2
    dsimp only at *
    rw [hlen, List.take_length] at hc
    k_steps
    subst hc
    exact ret _ _ _ _ _ F2.keep (N2 _ (.head _)).2.2 (N2 _ (.head _)).1 lo0 hd2 hf2
end
end
theorem reset_C8 {M : Model} {A : Around} {E : Value → Shared → Prop} {Q : Flow → Shared → Prop} {s : Shared} {env : Env} (h : Q .next s) : wpAny M A (execs [] env) Q E s := by
  w_top off
  walk1
  w_top off
  exact h
section
section
variable {prog : Program} {w : World} {A : Around} {E : Value → Shared → Prop} {s : Shared} {h₀ : Heap} {L P C : Addr} {m : Str → Option Value} {K : Frag} {x : Str} {t : Tok} {pl : Sem Bool}
theorem sm_K {d : Data} {sl : Array (Option Value)} {Q : Value × List Value → Shared → Prop} (F : Fr h₀ L s.heap m) (X : K.In h₀) (hl : K.lookup P = some ⟨.type "re.Pattern", none, d, sl⟩) (h : Q (.builtin "re.Pattern.search", [.ref P]) s) : wpAny (model prog w) A (getMethod (.ref P) "search" pl) Q E s :=
  search_meth ((X.keeps F.keep) _ _ hl) rfl rfl h
theorem chars_no {code : Array Nat} (hx : ∀ c ∈ lst x, 32 < c ∧ c < 127) (hh : ∀ c, 32 < c → c < 127 → NoHit code c) : ∀ i, i < x.cps.size → NoHit code (x.cps.getD i 0) := by
  intro i hi
  have hg : (lst x)[i]? = some (x.cps.getD i 0) := by
    rw [Array.getElem?_toList, Array.getElem?_eq_getElem hi]
    simp [hi]
  obtain ⟨a, b⟩ := hx _ (List.mem_of_getElem? hg)
  exact hh _ a b
open PySem.Builtin.Re in
theorem sr_KN {pv fl gi ix cc : Value} {dd : Option Addr} {cs : Array Value} {n : Nat} {z0 z1 : Tok} {sl sl' : Array (Option Value)} {Q : Value → Shared → Prop} (F : Fr h₀ L s.heap m) (X : K.In h₀)
    (hl : K.lookup P = some ⟨.type "re.Pattern", none, .fields #[pv, fl, .int 0 z0, gi, ix, .ref C, .int 0 z1], sl⟩) (hc : K.lookup C = some ⟨cc, dd, .seq cs n, sl'⟩) (hcode : (cs.map reRawOf).map (·.toNat) = codeN) (hx : x.length ≤ 1000) (hx2 : ∀ c ∈ lst x, 32 < c ∧ c < 127)
    (h : Q .none s) : wpAny (model prog w) A (call (.builtin "re.Pattern.search") [.ref P, .str x t]) Q E s :=
  search_rule ((X.keeps F.keep) _ _ hl) rfl rfl ((X.keeps F.keep) _ _ hc) rfl hcode (search_N _ (chars_no hx2 fun _ => noHitN)) hx h
open PySem.Builtin.Re in
theorem sr_KV {pv fl gi ix cc : Value} {dd : Option Addr} {cs : Array Value} {n : Nat} {z0 z1 : Tok} {sl sl' : Array (Option Value)} {Q : Value → Shared → Prop} (F : Fr h₀ L s.heap m) (X : K.In h₀)
    (hl : K.lookup P = some ⟨.type "re.Pattern", none, .fields #[pv, fl, .int 0 z0, gi, ix, .ref C, .int 0 z1], sl⟩) (hc : K.lookup C = some ⟨cc, dd, .seq cs n, sl'⟩) (hcode : (cs.map reRawOf).map (·.toNat) = codeV) (hx : x.length ≤ 1000) (hx2 : ∀ c ∈ lst x, 32 < c ∧ c < 127)
    (h : Q .none s) : wpAny (model prog w) A (call (.builtin "re.Pattern.search") [.ref P, .str x t]) Q E s :=
  search_rule ((X.keeps F.keep) _ _ hl) rfl rfl ((X.keeps F.keep) _ _ hc) rfl hcode (search_V _ (chars_no hx2 fun _ => noHitV)) hx h
end

section
local macro_rules | `(tactic| walk_at "getMethod ref") => `(tactic| (k_here; (with_reducible show wpAny _ _ (getMethod (Value.ref _) (Str.ofString "search") _) _ _ _); k_dflt (refine' sm_K ?k1 ?k2 ?k3 ?_; (case k1 => k_asm); (case k2 => assumption); (case k3 => k_is))))
local macro_rules | `(tactic| walk_at "call builtin:re.Pattern.search") => `(tactic| (k_here; (try dsimp only [List.cons_append, List.nil_append]); (with_reducible show wpAny _ _ (call (Value.builtin "re.Pattern.search") [Value.ref _, Value.str _ _]) _ _ _); k_dflt (first
  | (refine' sr_KN ?k1 ?k2 ?k3 ?k4 ?k5 ?k6 ?k7 ?_; (case k1 => k_asm); (case k2 => assumption); (case k3 => k_is); (case k4 => k_is); (case k5 => decide +kernel); (case k6 => omega); (case k7 => assumption))
  | (refine' sr_KV ?k1 ?k2 ?k3 ?k4 ?k5 ?k6 ?k7 ?_; (case k1 => k_asm); (case k2 => assumption); (case k3 => k_is); (case k4 => k_is); (case k5 => decide +kernel); (case k6 => omega); (case k7 => assumption)))))
theorem conv_spec {w : World} {loose : List Str} {mean : ExcName → Option Value} {mg mb : Str → Option Value} {s : Shared} {dp un : Nat} {fr : List Env} {gd : Option (List Code)} {sf : Value} {x : Str} {tx : Tok} {b : Bool} {E Q : Value → Shared → Prop} :
    (hd.heap_39 w.params).In s.heap → Top hd.view_39 loose mean mg mb s.heap → dp + 20 < recursionLimit → un + 200 < cLine → x.length ≤ 100 → (∀ c ∈ lst x, 32 < c ∧ c < 127) →
    (∀ h' tk, s.heap.StaysIn h' → Q (.str x tx) { s with heap := h', toks := tk }) →
    wpAny (model PySem.Challenge.rw_pm0056_01.row.prog w) (amb dp un fr gd) (call (.ref 111) [sf, .str x tx] [("name", .bool b)]) Q E s := by
  k_fill
  intro X T hdp hun hx1 hx2 ret
  k_dflt (refine' call_me (binds := [("self", sf), ("value", .str x tx), ("name", .bool b)]) X T ?ho ?hcd ?hroom ?hb ?hl ?hc ?hco ?hgen ?hk ?_; (case ho => k_is); (case hcd => k_is); (case hroom => omega); (case hb => exact BindsTo.of_eq rfl); (case hl => exact locs rfl); (case hc => decide); (case hco => exact rfl); (case hgen => exact rfl); (case hk => exact rfl))
  intro L h₁ F N
  k_steps
  all_goals (exact ret _ _ (Fr.keep (by assumption)))
end
end
theorem reset_C8b {M : Model} {A : Around} {E : Value → Shared → Prop} {Q : Flow → Shared → Prop} {s : Shared} {env : Env} (h : Q .next s) : wpAny M A (execs [] env) Q E s := by
  w_top off
  walk1
  w_top off
  exact h
section
section
variable {w : World} {loose : List Str} {mean : ExcName → Option Value} {mg mb : Str → Option Value} {s : Shared} {dp un : Nat} {fr : List Env} {gd : Option (List Code)} {E Q : Value → Shared → Prop} {h₀ : Heap} {L : Addr} {m : Str → Option Value} {news : List (Addr × Obj)}
theorem conv_use {x : Str} {tx : Tok} {sf : Value} {b : Bool} (F : Fr h₀ L s.heap m) (N : News h₀ L s.heap news) (X : (hd.heap_39 w.params).In h₀) (T : Top hd.view_39 loose mean mg mb h₀) (hdp : dp + 20 < recursionLimit) (hun : un + 200 < cLine)
    (hx : x.length ≤ 100) (hx2 : ∀ c ∈ lst x, 32 < c ∧ c < 127)
    (ret : ∀ h' tk, Fr h₀ L h' m → News h₀ L h' news → Q (.str x tx) { s with heap := h', toks := tk }) :
    wpAny (model PySem.Challenge.rw_pm0056_01.row.prog w) (amb dp un fr gd) (call (.ref 111) [sf, .str x tx] [("name", .bool b)]) Q E s :=
  conv_spec (X.keeps F.keep) (T.keeps F.keep) hdp hun hx hx2 fun h' tk st => ret h' tk (F.keeps st) (N.grown st)
end
section
variable {prog : Program} {w : World} {A : Around} {E : Value → Shared → Prop} {s : Shared} {Q : Value → Shared → Prop} {x : Str} {t : Tok}
theorem lower_abc (hx : Abc x) (hl : x.length ≤ 20) (h : Q (.str x s.toks) { s with toks := s.toks + 1 }) : wpAny (model prog w) A (call (.builtin "str.lower") [.str x t]) Q E s :=
  SCL.lower (by omega) fun _ => by rw [low_abc hx]; exact h
theorem lower_up (hx : Abc x) (hl : x.length ≤ 20) (h : Q (.str x s.toks) { s with toks := s.toks + 1 }) : wpAny (model prog w) A (call (.builtin "str.lower") [.str (Txt.upper x) t]) Q E s :=
  SCL.lower (by rw [up_len hx]; omega) fun _ => by rw [up_low hx]; exact h
theorem upper_abc (hx : Abc x) (hl : x.length ≤ 20) (h : Q (.str (Txt.upper x) s.toks) { s with toks := s.toks + 1 }) : wpAny (model prog w) A (call (.builtin "str.upper") [.str x t]) Q E s :=
  SCL.upper (by omega) fun _ => h
end
theorem InLed.of_all {big : List (Addr × Obj)} : ∀ {l : List (Addr × Obj)}, (∀ p ∈ l, p ∈ big) → InLed big l
  | [], _ => trivial
  | _ :: _, h => ⟨h _ (.head _), InLed.of_all fun q hq => h q (.tail _ hq)⟩
/-- a header: its tuple's address, the text, its border, two tokens -/
abbrev Ent := Addr × Str × Str × Tok × Tok
def entObj (e : Ent) : Obj := { cls := .type "tuple", data := .seq #[.str (Txt.upper e.2.1) e.2.2.2.1, .str e.2.2.1 e.2.2.2.2] }
def entLed (es : List Ent) : List (Addr × Obj) := es.map fun e => (e.1, entObj e)
def entRefs (es : List Ent) : List Value := es.map fun e => .ref e.1
abbrev Bk := List Nat × List Nat
def entBk (es : List Ent) : List Bk := es.map fun e => (lst e.2.1, lst e.2.2.1)
def getL (bk : List Bk) (x : List Nat) : Option (List Nat) := (bk.find? fun e => e.1 == x).map (·.2)
theorem getL_take {es : List Ent} {n : Nat} {q y : List Nat} (h : getL (entBk (es.take n)) q = some y) : getL (entBk es) q = some y := by
  unfold getL at h ⊢
  obtain ⟨e, he, rfl⟩ := Option.map_eq_some_iff.mp h
  have : entBk es = entBk (es.take n) ++ entBk (es.drop n) := by unfold entBk; rw [← List.map_append, List.take_append_drop]
  rw [this, List.find?_append, he]; rfl
structure Book (bk d l : Addr) (t0 : Tok) (n1 n2 : Nat) (hs : Int) (es : List Ent) (news : List (Addr × Obj)) : Prop where
  inst : (bk, instObj 212 d) ∈ news
  dict : (d, dictOf [⟨hs, .str "_headers" t0, .ref l⟩] n1) ∈ news
  list : (l, listOf (entRefs es).toArray n2) ∈ news
  tups : ∀ e ∈ es, (e.1, entObj e) ∈ news
  abc : ∀ e ∈ es, e.2.1.length ≤ 20 ∧ Abc e.2.1

section
local macro_rules | `(tactic| k_room) => `(tactic| ((try simp only [depth_under_make, depth_under_kw, depth_in1, depth_deeper, depth_caller]); (try dsimp only [amb]); omega))
local macro_rules | `(tactic| walk_at "call ref") => `(tactic| (k_here; (try dsimp only); (with_reducible show wpAny _ _ (call (Value.ref 111) [_, Value.str _ _] _) _ _ _); k_dflt (refine' conv_use ?k1 ?k2 ?k3 ?k4 ?k5 ?k6 ?k7 ?k8 ?_; (case k1 => k_asm); (case k2 => k_asm); (case k3 => assumption); (case k4 => assumption); (case k5 => omega); (case k6 => omega); (case k7 => omega); (case k8 => assumption)); intro h' tk' F' N'; (try k_sweep)))
local macro_rules | `(tactic| walk_at "call builtin:str.lower") => `(tactic| (k_here; (with_reducible show wpAny _ _ (call (Value.builtin "str.lower") [Value.str _ _]) _ _ _); k_dflt (first | refine lower_up (by assumption) (by assumption) ?_ | refine lower_abc (by assumption) (by assumption) ?_)))
local macro_rules | `(tactic| k_mem) => `(tactic| assumption)
local macro_rules | `(tactic| walk_at "pyIter ref") => `(tactic| (refine hold_in ?_))
theorem get_use {w : World} {loose : List Str} {mean : ExcName → Option Value} {mg mb : Str → Option Value} {s : Shared} {dp un : Nat} {fr : List Env} {gd : Option (List Code)} {E Q : Value → Shared → Prop} {h₀ : Heap} {L : Addr} {m : Str → Option Value} {news : List (Addr × Obj)}
    {bk d l : Addr} {t0 : Tok} {n1 n2 : Nat} {hs : Int} {es : List Ent} {x : Str} {tx : Tok} :
    Fr h₀ L s.heap m → News h₀ L s.heap news → (hd.heap_39 w.params).In h₀ → Top hd.view_39 loose mean mg mb h₀ → dp + 30 < recursionLimit → un + 300 < cLine →
    Book bk d l t0 n1 n2 hs es news → x.length ≤ 20 → Abc x →
    (∀ h' tk v, Fr h₀ L h' m → News h₀ L h' news → (match v with | .str y _ => getL (entBk es) (lst x) = some (lst y) | .none => getL (entBk es) (lst x) = none | _ => False) → Q v { s with heap := h', toks := tk }) →
    wpAny (model PySem.Challenge.rw_pm0056_01.row.prog w) (amb dp un fr gd) (call (.ref 159) [.ref bk, .str x tx]) Q E s := by
  k_fill
  intro F N X T hdp hun BK hx hax ret
  k_dflt (refine' call_in (binds := [("self", .ref bk), ("name", .str x tx), ("default", .none)]) F N X T ?ho ?hcd ?hroom ?hb ?hl ?hc ?hco ?hgen ?hk ?_; (case ho => k_is); (case hcd => k_is); (case hroom => omega); (case hb => first | exact BindsTo.of_eq rfl | exact binds_K (by k_in) rfl (by k_is) rfl rfl rfl); (case hl => exact locs rfl); (case hc => decide); (case hco => exact rfl); (case hgen => exact rfl); (case hk => exact rfl))
  intro g L' h₁ F₁ N₁ X₁ T₁ st
  have hcx := hax.chars
  clear X T
  obtain ⟨b1, b2, b3, b4, b5⟩ := id BK
  k_steps
  unfold Hold
  rename Fr g _ _ _ => F2
  rename News g _ _ _ => N2
  have hlr : (entRefs es).length = es.length := by simp [entRefs]
  refine it_list (vs := entRefs es) (σ := Unit) (keep := [(l, listOf (entRefs es).toArray n2)]) (fun _ => news) (fun _ => []) (fun i _ => getL (entBk (es.take i)) (lst x) = none) ["k", "v"] rfl (list_led N2 b3) (src_news N2 b3) F2 N2 (fun _ => ⟨b3, trivial⟩) ⟨(), rfl, rfl, trivial⟩ ?_ ?_
  · rintro I i ⟨⟩ v u h₂ tk₂ oI hv hnone hlt hne F3 N3
    have hv' : (es.map fun e => Value.ref e.1)[i]? = some v := hv
    rw [List.getElem?_map] at hv'
    obtain ⟨e, he, rfl⟩ : ∃ e, es[i]? = some e ∧ Value.ref e.1 = v := by
      cases q : es[i]? with
      | none => rw [q] at hv'; cases hv'
      | some e => rw [q] at hv'; exact ⟨e, rfl, Option.some.inj hv'⟩
    have hem : e ∈ es := List.mem_of_getElem? he
    obtain ⟨hel, hea⟩ := b5 e hem
    have htup : IsTup h₂ e.1 #[.str (Txt.upper e.2.1) e.2.2.2.1, .str e.2.2.1 e.2.2.2.2] := ⟨_, (N3 _ (.tail _ (b4 e hem))).1, rfl, _, rfl⟩
    have hnext : getL (entBk (es.take (i + 1))) (lst x) = if e.2.1 = x then some (lst e.2.2.1) else none := by
      unfold getL entBk at hnone ⊢
      rw [List.take_add_one, he]
      simp only [Option.toList_some, List.map_append, List.map_cons, List.map_nil, List.find?_append]
      rw [Option.map_eq_none_iff] at hnone
      rw [hnone]
      simp only [Option.none_or, List.find?_cons, List.find?_nil]
      by_cases hq : e.2.1 = x
      · rw [if_pos hq, hq]; simp
      · rw [if_neg hq]
        have : (lst e.2.1 == lst x) = false := by
          rw [beq_eq_false_iff_ne]; exact fun z => hq (lst_inj z)
        rw [this]; rfl
    obtain ⟨ea, ek, ev, et1, et2⟩ := e
    dsimp only at *
    k_steps
    · rename (ek == x) = true => hq
      rename Fr g _ _ _ => FZ
      rename News g _ _ _ => NZ
      rw [if_pos (eq_of_beq hq)] at hnext
      exact leaveK_ FZ (fun p hp => NZ p (.tail _ hp)) fun F' N' => ret _ _ _ F' N' (getL_take hnext)
    · rename (ek == x) = false => hq
      rw [if_neg (fun z => by rw [z] at hq; simp at hq)] at hnext
      refine turn_end () (by assumption) (by assumption) (by simp) ?hin ?hne hnext trivial ?hz
      case hin => exact InLed.of_all fun p hp => List.mem_cons_of_mem _ hp
      case hne => exact hne
      case hz =>
        intro z hz
        obtain ⟨h1, h2, -⟩ := id hz
        simp only [h1, h2, if_false]
        rw [fmap_off ?hs hz]
        case hs => rfl
  · rintro ⟨⟩ u h₂ tk₂ hnone F3 N3
    rw [hlr, List.take_length] at hnone
    k_steps
    exact leaveK_ F3 N3 fun F' N' => ret _ _ _ F' N' hnone
end
end
theorem reset_C9 {M : Model} {A : Around} {E : Value → Shared → Prop} {Q : Flow → Shared → Prop} {s : Shared} {env : Env} (h : Q .next s) : wpAny M A (execs [] env) Q E s := by
  w_top off
  walk1
  w_top off
  exact h
section
theorem entLed_append (es : List Ent) (e : Ent) : entLed (es ++ [e]) = entLed es ++ [(e.1, entObj e)] := by simp [entLed]
section
local macro_rules | `(tactic| walk_at "call ref") => `(tactic| (k_here; (try dsimp only); (with_reducible show wpAny _ _ (call (Value.ref 111) [_, Value.str _ _] _) _ _ _); k_dflt (refine' conv_use ?k1 ?k2 ?k3 ?k4 ?k5 ?k6 ?k7 ?k8 ?_; (case k1 => k_asm); (case k2 => k_asm); (case k3 => assumption); (case k4 => assumption); (case k5 => ((try dsimp only [amb, Around.deeper]); omega)); (case k6 => ((try dsimp only [amb, Around.deeper]); omega)); (case k7 => omega); (case k8 => assumption)); intro h' tk' F' N'; (try k_sweep)))
local macro_rules | `(tactic| k_room) => `(tactic| ((try simp only [depth_under_make, depth_under_kw, depth_in1, depth_deeper, depth_caller]); (try dsimp only [amb]); omega))
local macro_rules | `(tactic| walk_at "pyIter ref") => `(tactic| (refine hold_in ?_))
local macro_rules | `(tactic| walk_at "call builtin:list.append") => `(tactic| (k_here; (try dsimp only [List.cons_append, List.nil_append]); (with_reducible show wpAny _ _ (call (Value.builtin _) [Value.ref _, _]) _ _ _); k_dflt (refine' append_K ?k1 ?k2 ?k3 ?_ ?z; (case k1 => k_asm); (case k2 => k_asm); (case k3 => k_upd); (case z => assumption); k_whole); intro h' F' N'; (try k_sweep)))
local macro_rules | `(tactic| walk_at "call builtin:list.append") => `(tactic| (k_here; dsimp only [List.cons_append, List.nil_append]))
local macro_rules | `(tactic| k_all) => `(tactic| assumption)
theorem add_header_use {w : World} {loose : List Str} {mean : ExcName → Option Value} {mg mb : Str → Option Value} {s : Shared} {dp un : Nat} {env : Env} {outer : List Env} {gd : Option (List Code)} {E Q : Value → Shared → Prop} {h₀ base : Heap} {A₀ : Around} {L : Addr} {m : Str → Option Value}
    {I bk d l : Addr} {oI : Obj} {t0 : Tok} {n1 n2 : Nat} {hs : Int} {es : List Ent} {x y : Str} {tx ty : Tok} :
    Below A₀ base outer h₀ → env.frame = some L → env.scope.kind = .function →
    Fr h₀ L s.heap m → News h₀ L s.heap ((I, oI) :: (bk, instObj 212 d) :: (d, dictOf [⟨hs, .str "_headers" t0, .ref l⟩] n1) :: (l, W.listOf (entRefs es).toArray n2) :: entLed es) → (hd.heap_39 w.params).In h₀ → Top hd.view_39 loose mean mg mb h₀ → dp + 30 < recursionLimit → un + 300 < cLine →
    (I : Nat) ≠ l → (bk : Nat) ≠ l → (d : Nat) ≠ l → (∀ p ∈ entLed es, p.1 ≠ l) → es.length ≤ 1000 →
    x.length ≤ 20 → Abc x → y.length ≤ 20 → Abc y →
    (∀ h' tk tp t1 t2 n3, (I : Nat) < tp → Fr h₀ L h' m → News h₀ L h' ((I, oI) :: (bk, instObj 212 d) :: (d, dictOf [⟨hs, .str "_headers" t0, .ref l⟩] n1) :: (l, W.listOf (entRefs (es ++ [(tp, x, y, t1, t2)])).toArray n3) :: entLed (es ++ [(tp, x, y, t1, t2)])) → Q .none { s with heap := h', toks := tk }) →
    wpAny (model PySem.Challenge.rw_pm0056_01.row.prog w) (amb dp un (env :: outer) gd) (call (.ref 209) [.ref bk, .str (Txt.upper x) tx, .str y ty]) Q E s := by
  k_fill
  intro B hf hke F N X T hdp hun nI nb nd ne hes hx hax hy hay ret
  have c1 := hax.upChars
  have c2 := hay.chars
  have c3 : (Txt.upper x).length ≤ 20 := by rw [up_len hax]; exact hx
  k_dflt (refine wpAny_call ?_)
  k_dflt (refine' kp_more ?k1 ?k2 ?k3 ?k4 ?k5 ?kA ?kF ?kK ?k6 ?k7 ?k8 ?kX ?kM ?kN ?kD ?kR ?kP ?kT ?kB ?_ ?c2 ?c3 ?c4 ?c5; (case kA => exact rfl); (case kF => exact hf); (case kK => exact hke); (case k1 => exact B); (case k2 => exact F); (case k3 => exact X); (case k4 => exact N); (case k5 => exact T); (case k6 => k_is); (case k7 => k_is); (case k8 => (dsimp only [amb]; omega)); (case kX => kp_lit); (case kM => exact rfl); (case kN => exact rfl); (case kD => kp_flats); (case kR => exact rfl); (case kP => exact rfl); (case kT => exact fun _ => rfl); (case kB => exact fun _ => locs rfl); (case c5 => decide); (case c2 => exact rfl); (case c3 => exact rfl); (case c4 => exact rfl))
  intro D' o' g' L' h' tk' l1 lo' hs' fs' FG' F' N' B' X' T'
  k_lt l1
  clear FG' F N X T B
  k_steps
  unfold Hold
  rename Fr g' _ _ _ => F1
  rename News g' _ _ _ => N1
  rename_i lp z1 z2 z3 z4 z5 z6 DV hV lV
  have Tc : StrTab PySem.Challenge.rw_pm0056_01.row.prog w hV D' (kdpD []) := TabAt.ofNews N1 (.tail _ (.tail _ (.head _))) lo' hs' fs'
  refine it_items (c := []) (σ := Unit) (keep := [(D', o')]) (fun _ => _) (fun _ => []) (fun i _ => True) ["k", "v"] rfl ⟨_, (N1 _ (.head _)).1, rfl, rfl⟩ Tc (src_news N1 (.tail _ (.tail _ (.head _)))) F1 N1 (fun _ => ⟨.tail _ (.tail _ (.head _)), trivial⟩) ⟨(), rfl, trivial, trivial⟩ ?_ ?_
  · intro J j c' k x tk t' Tp u' h₃ tk₃ oJ hx
    simp at hx
  · rintro ⟨⟩ u' h₃ tk₃ - F2 N2
    clear F1 N1
    have hsz : (entRefs es).toArray.size ≤ sizeLine := by rw [sizeLine_eq]; simp [entRefs]; omega
    k_steps
    rename Fr g' _ _ _ => FZ
    rename News g' _ _ _ => NZ
    have hj : Txt.join "; " [y] = y := rfl
    rw [hj] at NZ
    rename_i q1 q2 tok q3 tp q4 ltp q5
    have e1 : (entRefs (es ++ [(tp, x, y, tx, tok)])).toArray = (entRefs es).toArray.push (.ref tp) := by simp [entRefs]
    refine leaveK_ FZ (news' := (I, oI) :: (bk, instObj 212 d) :: (d, dictOf [⟨hs, .str "_headers" t0, .ref l⟩] n1) :: (l, W.listOf (entRefs (es ++ [(tp, x, y, tx, tok)])).toArray (n2 + 1)) :: entLed (es ++ [(tp, x, y, tx, tok)])) ?_ fun F' N' => ret _ _ _ _ _ _ ltp.2.2.2.1 F' N'
    rw [e1, entLed_append]
    intro p hp
    rcases List.mem_cons.mp hp with rfl | hp
    · exact NZ _ (.tail _ (.tail _ (.tail _ (.tail _ (.head _)))))
    rcases List.mem_cons.mp hp with rfl | hp
    · exact NZ _ (.tail _ (.tail _ (.tail _ (.tail _ (.tail _ (.head _))))))
    rcases List.mem_cons.mp hp with rfl | hp
    · exact NZ _ (.tail _ (.tail _ (.tail _ (.tail _ (.tail _ (.tail _ (.head _)))))))
    rcases List.mem_cons.mp hp with rfl | hp
    · exact NZ _ (.tail _ (.tail _ (.tail _ (.tail _ (.tail _ (.tail _ (.tail _ (.head _))))))))
    rcases List.mem_append.mp hp with hp | hp
    · exact NZ _ (.tail _ (.tail _ (.tail _ (.tail _ (.tail _ (.tail _ (.tail _ (.tail _ hp))))))))
    · rw [List.mem_singleton.mp hp]
      exact NZ _ (.head _)
end
end
theorem reset_C10 {M : Model} {A : Around} {E : Value → Shared → Prop} {Q : Flow → Shared → Prop} {s : Shared} {env : Env} (h : Q .next s) : wpAny M A (execs [] env) Q E s := by
  w_top off
  walk1
  w_top off
  exact h
section
def nextL (bk : List Bk) (text : List Nat) : Nat → List Nat → Option (List Nat)
  | 0, _ => none
  | f + 1, tail => if !tail.isEmpty && !((tail ++ [text.getLast?.getD 0]).isPrefixOf text) then (match getL bk tail with | some t => nextL bk text f t | none => none) else some tail
def bordL (bk : List Bk) (text : List Nat) : Option (List Nat) :=
  if 1 < text.length then
    match getL bk text.dropLast with
    | none => none
    | some t => match nextL bk text 10 t with
      | none => none
      | some tail => if (tail ++ [text.getLast?.getD 0]).isPrefixOf text then some (tail ++ [text.getLast?.getD 0]) else some []
  else some []
def stepB (o : Option (List Bk)) (text : List Nat) : Option (List Bk) :=
  match o with
  | none => none
  | some bk => match bordL bk text with
    | none => none
    | some b => some (bk ++ [(text, b)])
def bordersL (ws : List (List Nat)) : Option (List Bk) := ws.foldl stepB (some [])
theorem stepB_none (l : List (List Nat)) : l.foldl stepB none = none := by
  induction l with
  | nil => rfl
  | cons a r ih => exact ih
theorem bordersL_take {ws : List (List Nat)} {bk : List Bk} (h : bordersL ws = some bk) (i : Nat) : ∃ b, bordersL (ws.take i) = some b := by
  have e : bordersL ws = (ws.drop i).foldl stepB (bordersL (ws.take i)) := by
    unfold bordersL; rw [← List.foldl_append, List.take_append_drop]
  cases q : bordersL (ws.take i) with
  | some b => exact ⟨b, rfl⟩
  | none => rw [q, stepB_none] at e; rw [e] at h; cases h
theorem bordersL_succ {ws : List (List Nat)} {i : Nat} {t : List Nat} (h : ws[i]? = some t) : bordersL (ws.take (i + 1)) = stepB (bordersL (ws.take i)) t := by
  unfold bordersL
  rw [List.take_add_one, h, List.foldl_append]; rfl
theorem getL_mem {es : List Ent} {q y : List Nat} (h : getL (entBk es) q = some y) : ∃ e ∈ es, lst e.2.2.1 = y := by
  unfold getL at h
  obtain ⟨p, hp, rfl⟩ := Option.map_eq_some_iff.mp h
  obtain ⟨e, he, rfl⟩ := List.mem_map.mp (List.mem_of_find?_eq_some hp)
  exact ⟨e, he, rfl⟩
theorem dots_app (q : Str) : lst (q ++ Str.ofString "...") = lst q ++ [46, 46, 46] := by rw [lst_append, dots_lst]
theorem em_tail_use {w : World} {loose : List Str} {mean : ExcName → Option Value} {mg mb : Str → Option Value} {s : Shared} {dp un : Nat} {fr : List Env} {gd : Option (List Code)} {E Q : Value → Shared → Prop} {h₀ : Heap} {L : Addr} {m : Str → Option Value} {news : List (Addr × Obj)}
    {ta t : Str} {tw tg : Tok} (F : Fr h₀ L s.heap m) (N : News h₀ L s.heap news) (X : (hd.heap_39 w.params).In h₀) (T : Top hd.view_39 loose mean mg mb h₀) (hdp : dp + 10 < recursionLimit) (hun : un + 100 < cLine)
    (h1 : ta.length ≤ 20) (h2 : Abc ta) (h3 : t.length ≤ 20) (h4 : Abc t) (h5 : 1 ≤ t.length)
    (ret : ∀ h' tk, Fr h₀ L h' m → News h₀ L h' news → Q (.bool ((lst ta ++ [(lst t).getLast?.getD 0]).isPrefixOf (lst t))) { s with heap := h', toks := tk }) :
    wpAny (model PySem.Challenge.rw_pm0056_01.row.prog w) (amb dp un fr gd) (call (.ref 45) [.str (ta ++ Txt.item t (-1) ++ Str.ofString "...") tw, .str t tg]) Q E s := by
  have e : lst (ta ++ Txt.item t (-1)) = lst ta ++ [(lst t).getLast?.getD 0] := by rw [lst_append, item_last h5]
  have el : (ta ++ Txt.item t (-1)).length = ta.length + 1 := by rw [← lst_len, e, List.length_append, lst_len]; rfl
  refine em_two_use (q := ta ++ Txt.item t (-1)) F N X T hdp hun ?_ (by omega) (by omega) (by omega) (abc_app h2 (abc_item h4 h5)).nodot (dots_app _) ?_
  · rw [← lst_len, dots_app, List.length_append, lst_len]; simp; omega
  · rw [e]; exact ret
theorem ne_emp {x : Str} {b : Bool} (h : (x != Str.ofString "") = b) : (lst x).isEmpty = !b := by
  subst h
  cases q : (x != Str.ofString "") with
  | true =>
    have : x ≠ Str.ofString "" := by simpa using q
    rw [Bool.not_true, Bool.eq_false_iff]
    intro e
    exact this (lst_inj (List.isEmpty_iff.mp e))
  | false =>
    have : x = Str.ofString "" := by simpa using q
    rw [this]; rfl
theorem pre_len {a b : List Nat} (h : a.isPrefixOf b = true) : a.length ≤ b.length := (List.isPrefixOf_iff_prefix.mp h).length_le
theorem bk_facts {ws : List (List Nat)} {i : Nat} {es : List Ent} {t y : Str} {tp : Addr} {t1 t2 : Tok} {bb : List Nat} (hnx : bordersL (ws.take (i + 1)) = stepB (some (entBk es)) (lst t)) (hb : bordL (entBk es) (lst t) = some bb) (hy : lst y = bb)
    (hent : ∀ e ∈ es, (e.2.1.length ≤ 20 ∧ Abc e.2.1) ∧ (e.2.2.1.length ≤ 20 ∧ Abc e.2.2.1)) (hl : es.length = i) (h1 : t.length ≤ 20) (h2 : Abc t) (h3 : y.length ≤ 20) (h4 : Abc y) :
    bordersL (ws.take (i + 1)) = some (entBk (es ++ [(tp, t, y, t1, t2)])) ∧ (∀ e ∈ es ++ [(tp, t, y, t1, t2)], (e.2.1.length ≤ 20 ∧ Abc e.2.1) ∧ (e.2.2.1.length ≤ 20 ∧ Abc e.2.2.1)) ∧ (es ++ [(tp, t, y, t1, t2)]).length = i + 1 := by
  refine ⟨?_, ?_, by simp [hl]⟩
  · rw [hnx]; unfold stepB; dsimp only; rw [hb, ← hy]; simp [entBk]
  · intro e he
    rcases List.mem_append.mp he with he | he
    · exact hent e he
    · rw [List.mem_singleton.mp he]; exact ⟨⟨h1, h2⟩, ⟨h3, h4⟩⟩
theorem entLed_ne {h₀ h : Heap} {L l : Addr} {arr : Array Value} {n : Nat} {es : List Ent} {news : List (Addr × Obj)} (N : News h₀ L h news) (hl : (l, listOf arr n) ∈ news) (he : ∀ p ∈ entLed es, p ∈ news) : ∀ p ∈ entLed es, p.1 ≠ l := by
  intro p hp e
  have h1 := (N _ hl).1
  have h2 := (N _ (he p hp)).1
  obtain ⟨x, _, rfl⟩ := List.mem_map.mp hp
  dsimp only at e h2
  rw [e, h1] at h2
  have := congrArg Obj.cls (Option.some.inj h2)
  simp [W.listOf, entObj] at this
section
local macro_rules | `(tactic| k_room) => `(tactic| ((try simp only [depth_under_make, depth_under_kw, depth_in1, depth_deeper, depth_caller]); (try dsimp only [amb]); omega))
local macro_rules | `(tactic| walk_at "call builtin:str.upper") => `(tactic| (k_here; (with_reducible show wpAny _ _ (call (Value.builtin "str.upper") [Value.str _ _]) _ _ _); k_dflt (refine upper_abc (by assumption) (by assumption) ?_)))
local macro_rules | `(tactic| k_all) => `(tactic| assumption)
local macro_rules | `(tactic| walk_at "WhlRest") => `(tactic| (refine hold_in ?_))
local macro_rules | `(tactic| walk_at "exec While") => `(tactic| (refine hold_in ?_))
local macro_rules | `(tactic| walk_at "call ref") => `(tactic| (k_here; (try dsimp only); (fail_if_success (with_reducible show wpAny _ _ (call (Value.ref 212) _ _) _ _ _)); (refine hold_in ?_)))
local macro_rules | `(tactic| walk_at "call ref") => `(tactic| (k_here; (try dsimp only); (with_reducible show wpAny _ _ (call (Value.ref 45) [Value.str _ _, Value.str _ _]) _ _ _); k_dflt (refine' em_tail_use ?k1 ?k2 ?k3 ?k4 ?k5 ?k6 ?k7 ?k8 ?k9 ?k10 ?k11 ?_; (case k1 => k_asm); (case k2 => k_asm); (case k3 => assumption); (case k4 => assumption); (case k5 => omega); (case k6 => omega); (case k7 => assumption); (case k8 => assumption); (case k9 => assumption); (case k10 => assumption); (case k11 => assumption)); intro h' tk' F' N'; (try k_sweep)))
local macro_rules | `(tactic| k_mem) => `(tactic| assumption)
local macro_rules | `(tactic| walk_at "pyIter ref") => `(tactic| (refine hold_in ?_))
theorem borders_spec {w : World} {loose : List Str} {mean : ExcName → Option Value} {mg mb : Str → Option Value} {s : Shared} {dp un : Nat} {fr : List Env} {gd : Option (List Code)} {lw : Addr} {vs : List Value} {ws : List Str} {base : Heap} {bk : List Bk} {E Q : Value → Shared → Prop} :
    Below (amb dp un fr gd) base fr s.heap → (hd.heap_39 w.params).In s.heap → Top hd.view_39 loose mean mg mb s.heap → dp + 40 < recursionLimit → un + 400 < cLine →
    s.heap.IsList lw vs.toArray → StrsAre vs ws → ws.length ≤ 1000 → (∀ x ∈ ws, x.length ≤ 5 ∧ Abc x) → bordersL (ws.map lst) = some bk →
    (∀ h' tk x d l t0 n1 n2 hs led es, s.heap.StaysIn h' → (∀ p ∈ led, s.heap.get? p.1 = none ∧ h'.get? p.1 = some p.2) → Book x d l t0 n1 n2 hs es led → entBk es = bk → (∀ e ∈ es, e.2.2.1.length ≤ 20 ∧ Abc e.2.2.1) → Q (.ref x) { s with heap := h', toks := tk }) →
    wpAny (model PySem.Challenge.rw_pm0056_01.row.prog w) (amb dp un fr gd) (call (.ref 254) [.ref lw]) Q E s := by
  k_fill
  intro B X T hdp hun hl hws hwl hpl hbk ret
  k_dflt (refine' call_me (binds := [("words", .ref lw)]) X T ?ho ?hcd ?hroom ?hb ?hl ?hc ?hco ?hgen ?hk ?_; (case ho => k_is); (case hcd => k_is); (case hroom => omega); (case hb => exact BindsTo.of_eq rfl); (case hl => exact locs rfl); (case hc => decide); (case hco => exact rfl); (case hgen => exact rfl); (case hk => exact rfl))
  intro L h₁ F N
  have hlen : vs.length = ws.length := hws.length
  k_steps
  unfold Hold
  rename Fr _ _ _ _ => F1
  rename News _ _ _ _ => N1
  refine it_list (vs := []) (σ := Unit) (keep := [_]) (fun _ => _) (fun _ => []) (fun i _ => True) ["k", "v"] rfl (list_led N1 (.tail _ (.tail _ (.head _)))) (src_news N1 (.tail _ (.tail _ (.head _)))) F1 N1 (fun _ => ⟨.tail _ (.tail _ (.head _)), trivial⟩) ⟨(), rfl, trivial, trivial⟩ ?_ ?_
  · intro I i c v u h₂ tk₂ oI hv
    simp at hv
  · rintro ⟨⟩ u h₂ tk₂ - F2 N2
    clear F1 N1
    k_steps
    unfold Hold
    clear F2 N2
    rename Fr _ _ _ _ => F1
    rename News _ _ _ _ => N1
    rename_i l0 z1 z2 x0 d0 z3 lt1 lt2 z4 z5 z6 z7 z8 z9 z10 z11 z12 z13 z14 z15 z16 z17
    clear z14 z15 z16
    clear_value qk ek
    clear qk ek
    refine it_list (vs := vs) (σ := List Ent × Nat) (keep := []) (fun a => (x0, instObj 212 d0) :: (d0, dictOf [⟨_, .str "_headers" _, .ref l0⟩] 1) :: (l0, W.listOf (entRefs a.1).toArray a.2) :: entLed a.1) (fun _ => [])
      (fun i a => bordersL ((ws.map lst).take i) = some (entBk a.1) ∧ (∀ e ∈ a.1, (e.2.1.length ≤ 20 ∧ Abc e.2.1) ∧ (e.2.2.1.length ≤ 20 ∧ Abc e.2.2.1)) ∧ a.1.length = i) ["text", "border", "tail"] rfl (hl.at fun o e => F1.keep lw o e) (src_base F1 hl.choose_spec.1) F1 N1 (fun _ => trivial) ⟨([], 0), rfl, ⟨rfl, (fun _ he => nomatch he), rfl⟩, trivial⟩ ?_ ?_
    · rintro I i ⟨es, n2⟩ v u2 h₃ tk₃ oI hv ⟨hes, hent, hel⟩ hlt hne F2 N2
      obtain ⟨t, tt, rfl, ht⟩ := strsAre_get hws hv
      obtain ⟨htl, hta⟩ := hpl t (List.mem_of_getElem? ht)
      have hi : i < ws.length := (List.getElem?_eq_some_iff.mp ht).1
      have htk : (ws.map lst)[i]? = some (lst t) := by rw [List.getElem?_map, ht]; rfl
      have hnx := bordersL_succ htk
      dsimp only at *
      rw [hes] at hnx
      have hend := entLed_ne (l := l0) (es := es) N2 (.tail _ (.tail _ (.tail _ (.head _)))) (fun p hp => .tail _ (.tail _ (.tail _ (.tail _ hp))))
      obtain ⟨b1, hb1⟩ := bordersL_take hbk (i + 1)
      rw [hnx] at hb1
      obtain ⟨bb, hbb⟩ : ∃ bb, bordL (entBk es) (lst t) = some bb := by
        unfold stepB at hb1
        dsimp only at hb1
        cases q : bordL (entBk es) (lst t) with
        | none => rw [q] at hb1; cases hb1
        | some bb => exact ⟨bb, rfl⟩
      have htl2 : t.length ≤ 20 := by omega
      k_steps
      · unfold Hold
        rename Fr s.heap L _ _ => F3
        rename News s.heap L _ _ => N3
        rename 1 < ((t.length : Nat) : Int) => hlt1
        have hlt1' : 1 ≤ t.length := by omega
        have hBL := hbb
        unfold bordL at hbb
        rw [if_pos (by rw [lst_len]; omega)] at hbb
        k_dflt (refine' get_use (es := es) F3 N3 X T ?q1 ?q2 ⟨.tail _ (.head _), .tail _ (.tail _ (.head _)), .tail _ (.tail _ (.tail _ (.head _))), ?q3, ?q4⟩ ?q5 ?q6 ?_)
        (case q1 => omega)
        (case q2 => omega)
        (case q3 => exact fun e he => .tail _ (.tail _ (.tail _ (.tail _ (List.mem_map.mpr ⟨e, he, rfl⟩)))))
        (case q4 => exact fun e he => (hent e he).1)
        (case q5 => have := Txt.slice_le t none (some (-1)); omega)
        (case q6 => exact abc_init hta hlt1')
        intro h4 tk4 v4 F4 N4 hg4
        clear F3 N3
        rw [slice_init hlt1'] at hg4
        cases v4 with
        | str ta tt4 =>
          dsimp only at hg4
          rw [hg4] at hbb
          dsimp only at hbb
          obtain ⟨ea, hea, heq⟩ := getL_mem hg4
          have := lst_inj heq
          subst this
          obtain ⟨_, hal, haa⟩ := hent ea hea
          obtain ⟨fu, hfu⟩ : ∃ f, f = 10 := ⟨_, rfl⟩
          rw [← hfu] at hbb
          clear hfu
          obtain ⟨ta, hta2⟩ : ∃ ta, ta = ea.2.2.1 := ⟨_, rfl⟩
          rw [← hta2] at hbb hal haa ⊢
          clear hta2 heq hg4
          k_steps
          unfold Hold
          refine whl_start fu ?_
          rename Fr _ _ _ _ => F5
          rename News _ _ _ _ => N5
          rename_i h5
          clear hea
          have htb := hta
          induction fu generalizing ta tt4 h5 tk with
          | zero => cases hbb
          | succ n ih =>
            unfold nextL at hbb
            refine whl_turn PassesOwn.never ?_
            k_steps
            rotate_left 1
            · unfold Hold
              rename Fr s.heap L _ _ => F6
              rename News s.heap L _ _ => N6
              rename (lst ta ++ [(lst t).getLast?.getD 0]).isPrefixOf (lst t) = false => hpre
              rename (ta != _) = true => hta3
              rw [hpre, ne_emp hta3] at hbb
              simp only [Bool.not_true, Bool.not_false, Bool.and_true, if_true] at hbb
              k_dflt (refine' get_use (es := es) F6 N6 X T ?q1 ?q2 ⟨.tail _ (.head _), .tail _ (.tail _ (.head _)), .tail _ (.tail _ (.tail _ (.head _))), ?q3, ?q4⟩ hal haa ?_)
              (case q1 => omega)
              (case q2 => omega)
              (case q3 => exact fun e he => .tail _ (.tail _ (.tail _ (.tail _ (List.mem_map.mpr ⟨e, he, rfl⟩)))))
              (case q4 => exact fun e he => (hent e he).1)
              intro h4 tk4 v4 F4 N4 hg4
              clear F6 N6
              cases v4 with
              | str tb ttb =>
                dsimp only at hg4
                rw [hg4] at hbb
                dsimp only at hbb
                obtain ⟨ea, hea, heq⟩ := getL_mem hg4
                have := lst_inj heq
                subst this
                obtain ⟨_, hal2, haa2⟩ := hent ea hea
                k_steps
                unfold Hold
                rename Fr s.heap L _ _ => F8
                rename News s.heap L _ _ => N8
                refine ih ttb _ haa2 hal2 hbb _ ?_ N8 _
                refine Eq.mp (congrArg (Fr s.heap L _) (funext fun y => ?_)) F8
                by_cases hy : y = "tail"
                · simp only [hy, if_true]
                · simp only [hy, if_false]
              | none =>
                dsimp only at hg4
                rw [hg4] at hbb
                cases hbb
              | _ => exact hg4.elim
            rotate_left 2
            · rename (lst ta ++ [(lst t).getLast?.getD 0]).isPrefixOf (lst t) = true => hpre
              rw [hpre] at hbb
              simp only [Bool.not_true, Bool.and_false, Bool.false_eq_true, if_false, hpre, if_true, Option.some.injEq] at hbb
              have hyb : lst (ta ++ Txt.item t (-1)) = bb := by rw [lst_append, item_last hlt1']; exact hbb
              have hyl : (ta ++ Txt.item t (-1)).length ≤ 20 := by rw [← lst_len, lst_append, item_last hlt1']; have := pre_len hpre; rw [lst_len] at this; omega
              have hya : Abc (ta ++ Txt.item t (-1)) := abc_app haa (abc_item hta hlt1')
              unfold Hold
              rename Fr s.heap L _ _ => FZ
              rename News s.heap L _ _ => NZ
              k_dflt (refine' add_header_use (es := es) (base := base) (A₀ := amb dp un fr gd) B rfl rfl FZ NZ X T ?q1 ?q2 ?q3 ?q4 ?q5 hend ?q6 htl2 hta ?q7 ?q8 ?_)
              (case q1 => omega)
              (case q2 => omega)
              (case q3 => exact hne.2.2.1.symm)
              (case q4 => exact Nat.ne_of_gt (Nat.lt_trans lt1 lt2))
              (case q5 => exact Nat.ne_of_gt lt1)
              (case q6 => omega)
              (case q7 => exact hyl)
              (case q8 => exact hya)
              intro h6 tk6 tp t1 t2 n3 hItp F6 N6
              k_steps
              refine turn_end (es ++ [(tp, t, _, t1, t2)], n3) F6 N6 (.head _) (InLed.of_all fun p hp => .tail _ hp) ⟨hne.1, hne.2.1, hne.2.2.1, ?hq⟩ (bk_facts hnx hBL hyb hent hel htl2 hta hyl hya) trivial ?hz
              case hq =>
                rw [entLed_append]
                refine AllNe.of fun p hp => ?_
                rcases List.mem_append.mp hp with hp | hp
                · exact hne.2.2.2.all p hp
                · rw [List.mem_singleton.mp hp]; exact Nat.ne_of_gt hItp
              case hz =>
                intro z hz
                obtain ⟨h1, h2, h3, -⟩ := id hz
                simp only [h1, h2, h3, if_false]
                rw [fmap_off ?hs hz]
                case hs => rfl
            · rename (lst ta ++ [(lst t).getLast?.getD 0]).isPrefixOf (lst t) = true => hpre
              rw [hpre] at hbb
              simp only [Bool.not_true, Bool.and_false, Bool.false_eq_true, if_false, hpre, if_true, Option.some.injEq] at hbb
              have hyb : lst (ta ++ Txt.item t (-1)) = bb := by rw [lst_append, item_last hlt1']; exact hbb
              have hyl : (ta ++ Txt.item t (-1)).length ≤ 20 := by rw [← lst_len, lst_append, item_last hlt1']; have := pre_len hpre; rw [lst_len] at this; omega
              have hya : Abc (ta ++ Txt.item t (-1)) := abc_app haa (abc_item hta hlt1')
              unfold Hold
              rename Fr s.heap L _ _ => FZ
              rename News s.heap L _ _ => NZ
              k_dflt (refine' add_header_use (es := es) (base := base) (A₀ := amb dp un fr gd) B rfl rfl FZ NZ X T ?q1 ?q2 ?q3 ?q4 ?q5 hend ?q6 htl2 hta ?q7 ?q8 ?_)
              (case q1 => omega)
              (case q2 => omega)
              (case q3 => exact hne.2.2.1.symm)
              (case q4 => exact Nat.ne_of_gt (Nat.lt_trans lt1 lt2))
              (case q5 => exact Nat.ne_of_gt lt1)
              (case q6 => omega)
              (case q7 => exact hyl)
              (case q8 => exact hya)
              intro h6 tk6 tp t1 t2 n3 hItp F6 N6
              k_steps
              refine turn_end (es ++ [(tp, t, _, t1, t2)], n3) F6 N6 (.head _) (InLed.of_all fun p hp => .tail _ hp) ⟨hne.1, hne.2.1, hne.2.2.1, ?hq⟩ (bk_facts hnx hBL hyb hent hel htl2 hta hyl hya) trivial ?hz
              case hq =>
                rw [entLed_append]
                refine AllNe.of fun p hp => ?_
                rcases List.mem_append.mp hp with hp | hp
                · exact hne.2.2.2.all p hp
                · rw [List.mem_singleton.mp hp]; exact Nat.ne_of_gt hItp
              case hz =>
                intro z hz
                obtain ⟨h1, h2, h3, -⟩ := id hz
                simp only [h1, h2, h3, if_false]
                rw [fmap_off ?hs hz]
                case hs => rfl
            · rename (lst ta ++ [(lst t).getLast?.getD 0]).isPrefixOf (lst t) = false => hpre
              rename (ta != _) = false => hta3
              rw [ne_emp hta3] at hbb
              simp only [Bool.not_false, Bool.not_true, Bool.false_and, Bool.false_eq_true, if_false, hpre, Option.some.injEq] at hbb
              have hyb : lst (Str.ofString "") = bb := hbb
              have hyl : (Str.ofString "").length ≤ 20 := by decide
              have hya : Abc (Str.ofString "") := abc_nil
              unfold Hold
              rename Fr s.heap L _ _ => FZ
              rename News s.heap L _ _ => NZ
              k_dflt (refine' add_header_use (es := es) (base := base) (A₀ := amb dp un fr gd) B rfl rfl FZ NZ X T ?q1 ?q2 ?q3 ?q4 ?q5 hend ?q6 htl2 hta ?q7 ?q8 ?_)
              (case q1 => omega)
              (case q2 => omega)
              (case q3 => exact hne.2.2.1.symm)
              (case q4 => exact Nat.ne_of_gt (Nat.lt_trans lt1 lt2))
              (case q5 => exact Nat.ne_of_gt lt1)
              (case q6 => omega)
              (case q7 => exact hyl)
              (case q8 => exact hya)
              intro h6 tk6 tp t1 t2 n3 hItp F6 N6
              k_steps
              refine turn_end (es ++ [(tp, t, _, t1, t2)], n3) F6 N6 (.head _) (InLed.of_all fun p hp => .tail _ hp) ⟨hne.1, hne.2.1, hne.2.2.1, ?hq⟩ (bk_facts hnx hBL hyb hent hel htl2 hta hyl hya) trivial ?hz
              case hq =>
                rw [entLed_append]
                refine AllNe.of fun p hp => ?_
                rcases List.mem_append.mp hp with hp | hp
                · exact hne.2.2.2.all p hp
                · rw [List.mem_singleton.mp hp]; exact Nat.ne_of_gt hItp
              case hz =>
                intro z hz
                obtain ⟨h1, h2, h3, -⟩ := id hz
                simp only [h1, h2, h3, if_false]
                rw [fmap_off ?hs hz]
                case hs => rfl
        | none =>
          dsimp only at hg4
          rw [hg4] at hbb
          cases hbb
        | _ => exact hg4.elim
      · rename ¬ (1 < ((t.length : Nat) : Int)) => hlt1
        have hBL := hbb
        unfold bordL at hbb
        rw [if_neg (by rw [lst_len]; omega)] at hbb
        have hyb : lst (Str.ofString "") = bb := Option.some.inj hbb
        have hyl : (Str.ofString "").length ≤ 20 := by decide
        have hya : Abc (Str.ofString "") := abc_nil
        unfold Hold
        rename Fr s.heap L _ _ => FZ
        rename News s.heap L _ _ => NZ
        k_dflt (refine' add_header_use (es := es) (base := base) (A₀ := amb dp un fr gd) B rfl rfl FZ NZ X T ?q1 ?q2 ?q3 ?q4 ?q5 hend ?q6 htl2 hta ?q7 ?q8 ?_)
        (case q1 => omega)
        (case q2 => omega)
        (case q3 => exact hne.2.2.1.symm)
        (case q4 => exact Nat.ne_of_gt (Nat.lt_trans lt1 lt2))
        (case q5 => exact Nat.ne_of_gt lt1)
        (case q6 => omega)
        (case q7 => exact hyl)
        (case q8 => exact hya)
        intro h6 tk6 tp t1 t2 n3 hItp F6 N6
        k_steps
        refine turn_end (es ++ [(tp, t, _, t1, t2)], n3) F6 N6 (.head _) (InLed.of_all fun p hp => .tail _ hp) ⟨hne.1, hne.2.1, hne.2.2.1, ?hq⟩ (bk_facts hnx hBL hyb hent hel htl2 hta hyl hya) trivial ?hz
        case hq =>
          rw [entLed_append]
          refine AllNe.of fun p hp => ?_
          rcases List.mem_append.mp hp with hp | hp
          · exact hne.2.2.2.all p hp
          · rw [List.mem_singleton.mp hp]; exact Nat.ne_of_gt hItp
        case hz =>
          intro z hz
          obtain ⟨h1, h2, h3, -⟩ := id hz
          simp only [h1, h2, h3, if_false]
          rw [fmap_off ?hs hz]
          case hs => rfl
    · rintro ⟨es, n2⟩ u2 h₃ tk₃ ⟨hes, hent, hel⟩ F2 N2
      dsimp only at hes hent hel F2 N2
      rw [hlen] at hes hel
      rw [List.take_of_length_le (by simp), hbk] at hes
      k_steps
      refine ret _ _ _ _ _ _ _ _ _ _ es F2.keep (fun p hp => ⟨(N2 p hp).2.2, (N2 p hp).1⟩) ⟨.head _, .tail _ (.head _), .tail _ (.tail _ (.head _)), fun e he => .tail _ (.tail _ (.tail _ (List.mem_map.mpr ⟨e, he, rfl⟩))), fun e he => (hent e he).1⟩ (Option.some.inj hes).symm (fun e he => (hent e he).2)
end

theorem borders_use {w : World} {loose : List Str} {mean : ExcName → Option Value} {mg mb : Str → Option Value} {s : Shared} {dp un : Nat} {fr : List Env} {gd : Option (List Code)} {lw : Addr} {vs : List Value} {ws : List Str} {base : Heap} {bk : List Bk} {E Q : Value → Shared → Prop} {h₀ : Heap} {L : Addr} {m : Str → Option Value} {news : List (Addr × Obj)}
    (B : Below (amb dp un fr gd) base fr s.heap) (F : Fr h₀ L s.heap m) (N : News h₀ L s.heap news) (X : (hd.heap_39 w.params).In h₀) (T : Top hd.view_39 loose mean mg mb h₀) (hdp : dp + 40 < recursionLimit) (hun : un + 400 < cLine)
    (hl : s.heap.IsList lw vs.toArray) (hws : StrsAre vs ws) (hwl : ws.length ≤ 1000) (hpl : ∀ x ∈ ws, x.length ≤ 5 ∧ Abc x) (hbk : bordersL (ws.map lst) = some bk)
    (ret : ∀ h' tk x d l t0 n1 n2 hs es led, Fr h₀ L h' m → News h₀ L h' (led ++ news) → Book x d l t0 n1 n2 hs es (led ++ news) → entBk es = bk → (∀ e ∈ es, e.2.2.1.length ≤ 20 ∧ Abc e.2.2.1) → Q (.ref x) { s with heap := h', toks := tk }) :
    wpAny (model PySem.Challenge.rw_pm0056_01.row.prog w) (amb dp un fr gd) (call (.ref 254) [.ref lw]) Q E s :=
  borders_spec B (X.keeps F.keep) (T.keeps F.keep) hdp hun hl hws hwl hpl hbk fun h' tk x d l t0 n1 n2 hs led es st hnew BK he hv => by
    have N' : News h₀ L h' (led ++ news) := fun p hp => by
      rcases List.mem_append.mp hp with hp | hp
      · obtain ⟨hn, ho⟩ := hnew p hp
        refine ⟨ho, fun e => ?_, ?_⟩
        · obtain ⟨oL, _, _, hL, _⟩ := F.ns
          rw [e, hL] at hn; cases hn
        · cases q : h₀.get? p.1 with
          | none => rfl
          | some o => have := F.keep _ _ q; rw [hn] at this; cases this
      · exact N.grown st p hp
    exact ret h' tk x d l t0 n1 n2 hs es led (F.keeps st) N' ⟨List.mem_append_left _ BK.inst, List.mem_append_left _ BK.dict, List.mem_append_left _ BK.list, fun e he => List.mem_append_left _ (BK.tups e he), BK.abc⟩ he hv
end
theorem reset_C11 {M : Model} {A : Around} {E : Value → Shared → Prop} {Q : Flow → Shared → Prop} {s : Shared} {env : Env} (h : Q .next s) : wpAny M A (execs [] env) Q E s := by
  w_top off
  walk1
  w_top off
  exact h
section
def stepD (bk : List Bk) (part : Str) (c : List (Str × Int)) (t : Str) : List (Str × Int) :=
  let gap : Int := t.length - part.length
  let c1 := kdpPut c t (1 - 2 * gap)
  if 1 < gap then
    let c2 := kdpPut c1 t (if ((lst t).drop 1).dropLast = lst part then 1 else 0)
    let outer : List Nat := (getL bk (lst t)).getD []
    if inB outer ((lst t).drop 1).dropLast = true then c2
    else kdpPut c2 t (kdpLook c2 t 0 + ((c2.find? fun p => lst p.1 == outer).map (·.2)).getD 0)
  else c1
def dueC (bk : List Bk) (part : Str) (ws : List Str) : List (Str × Int) := ws.foldl (stepD bk part) []
theorem stepD_len (bk : List Bk) (part : Str) (c : List (Str × Int)) (t : Str) : (stepD bk part c t).length ≤ c.length + 3 := by
  unfold stepD
  dsimp only
  generalize (1 : Int) - 2 * ((t.length : Int) - part.length) = v1
  generalize (if ((lst t).drop 1).dropLast = lst part then (1 : Int) else 0) = v2
  have h1 := kdpPut_len c t v1
  have h2 := kdpPut_len (kdpPut c t v1) t v2
  split
  · split
    · exact Nat.le_trans h2 (Nat.le_trans (Nat.succ_le_succ h1) (by omega))
    · exact Nat.le_trans (kdpPut_len _ _ _) (Nat.le_trans (Nat.succ_le_succ h2) (Nat.succ_le_succ (Nat.succ_le_succ h1)))
  · exact Nat.le_trans h1 (by omega)
theorem look_eq (c : List (Str × Int)) (k : Str) : ((c.find? fun p => lst p.1 == lst k).map (·.2)).getD 0 = kdpLook c k 0 := by
  unfold kdpLook
  congr 3
  funext p
  by_cases h : p.1 = k
  · rw [h]; simp
  · simp only [h, decide_false]
    rw [beq_eq_false_iff_ne]
    exact fun e => h (lst_inj e)
theorem stepD_gt {bk : List Bk} {part : Str} {c : List (Str × Int)} {t ta : Str} (hg : (1 : Int) < t.length - part.length) (ho : getL bk (lst t) = some (lst ta)) (h2 : 2 ≤ t.length) {b : Bool} (hb : (Txt.slice t (some 1) (some (-1)) == part) = b) :
    stepD bk part c t = if inB (lst ta) (lst (Txt.slice t (some 1) (some (-1)))) = true then kdpPut (kdpPut c t (1 - 2 * ((t.length : Int) - part.length))) t (if b = true then 1 else 0)
      else kdpPut (kdpPut (kdpPut c t (1 - 2 * ((t.length : Int) - part.length))) t (if b = true then 1 else 0)) t (kdpLook (kdpPut (kdpPut c t (1 - 2 * ((t.length : Int) - part.length))) t (if b = true then 1 else 0)) t 0 + kdpLook (kdpPut (kdpPut c t (1 - 2 * ((t.length : Int) - part.length))) t (if b = true then 1 else 0)) ta 0) := by
  have e : (if ((lst t).drop 1).dropLast = lst part then (1 : Int) else 0) = if b = true then 1 else 0 := by
    rw [← slice_mid h2, ← hb]
    by_cases q : Txt.slice t (some 1) (some (-1)) = part
    · rw [if_pos (by rw [q]), if_pos (by rw [q]; simp)]
    · rw [if_neg (fun z => q (lst_inj z)), if_neg (by simpa using q)]
  unfold stepD
  dsimp only
  rw [if_pos hg, ho, e, Option.getD_some, look_eq, slice_mid h2]
theorem Book.grow {x d l : Addr} {t0 : Tok} {n1 n2 : Nat} {hs : Int} {es : List Ent} {news big : List (Addr × Obj)} (h : Book x d l t0 n1 n2 hs es news) (g : ∀ p ∈ news, p ∈ big) : Book x d l t0 n1 n2 hs es big :=
  ⟨g _ h.inst, g _ h.dict, g _ h.list, fun e he => g _ (h.tups e he), h.abc⟩
theorem allLt_ne {a : Addr} {l : List (Addr × Obj)} (h : AllLt a l) : ∀ p ∈ l, p.1 ≠ a := by
  induction l with
  | nil => intro p hp; cases hp
  | cons q r ih =>
    intro p hp
    cases hp with
    | head => exact Nat.ne_of_lt h.1
    | tail _ hp => exact ih h.2 p hp
section
local macro_rules | `(tactic| walk_at "call ref") => `(tactic| (k_here; (with_reducible show wpAny _ _ (call (Value.ref 240) [Value.str _ _, Value.str _ _]) _ _ _); k_dflt (refine' lies_in_use ?k1 ?k2 ?k3 ?k4 ?k5 ?k6 ?k7 ?k8 ?k9 ?_; (case k1 => k_asm); (case k2 => k_asm); (case k3 => assumption); (case k4 => assumption); (case k5 => omega); (case k6 => omega); (case k7 => assumption); (case k8 => assumption); (case k9 => assumption)); intro h' tk' F' N'; (try k_sweep)))
local macro_rules | `(tactic| walk_at "call ref") => `(tactic| (k_here; (try dsimp only); (with_reducible show wpAny _ _ (call (Value.ref 159) [Value.ref _, Value.str _ _]) _ _ _); (refine hold_in ?_)))
local macro_rules | `(tactic| walk_at "pyIter ref") => `(tactic| (refine hold_in ?_))
local macro_rules | `(tactic| kdp_size) => `(tactic| exact Nat.le_trans (kdpPut_len _ _ _) (Nat.le_trans (Nat.succ_le_succ (kdpPut_len _ _ _)) (by omega)))
local macro_rules | `(tactic| k_mem) => `(tactic| exact List.Mem.tail _ (List.Mem.tail _ (by assumption)))
local macro_rules | `(tactic| k_all) => `(tactic| first | assumption | exact allLt_ne (by assumption))
theorem due_use {w : World} {loose : List Str} {mean : ExcName → Option Value} {mg mb : Str → Option Value} {s : Shared} {dp un : Nat} {fr : List Env} {gd : Option (List Code)} {E Q : Value → Shared → Prop} {h₀ : Heap} {L : Addr} {m : Str → Option Value} {news : List (Addr × Obj)}
    {x d l lw : Addr} {t0 : Tok} {n1 n2 nw : Nat} {hs : Int} {es : List Ent} {vs : List Value} {ws : List Str} {p : Str} {tp : Tok} :
    Fr h₀ L s.heap m → News h₀ L s.heap news → (hd.heap_39 w.params).In h₀ → Top hd.view_39 loose mean mg mb h₀ → dp + 50 < recursionLimit → un + 500 < cLine →
    Book x d l t0 n1 n2 hs es news → (∀ e ∈ es, e.2.2.1.length ≤ 20 ∧ Abc e.2.2.1) → (lw, W.listOf vs.toArray nw) ∈ news → StrsAre vs ws → ws.length ≤ 1000 → (∀ x ∈ ws, x.length ≤ 5 ∧ Abc x) → p.length ≤ 5 → Abc p →
    (∀ x ∈ ws, (getL (entBk es) (lst x)).isSome = true) →
    (∀ h' tk a o kvs, Fr h₀ L h' m → News h₀ L h' ((a, o) :: news) → AllNe a news → (a == sysModules) = false → o.IsDictOf (PySem.strKind PySem.Challenge.rw_pm0056_01.row.prog w) kvs → FlatPairs PyData.str kvs (kdpD (dueC (entBk es) p ws)) → Q (.ref a) { s with heap := h', toks := tk }) →
    wpAny (model PySem.Challenge.rw_pm0056_01.row.prog w) (amb dp un fr gd) (call (.ref 261) [.ref lw, .str p tp, .ref x]) Q E s := by
  k_fill
  intro F N X T hdp hun BK hev hlw hws hwl hpl hp1 hp2 hsome ret
  k_dflt (refine' call_in (binds := [("words", .ref lw), ("part", .str p tp), ("book", .ref x)]) F N X T ?ho ?hcd ?hroom ?hb ?hl ?hc ?hco ?hgen ?hk ?_; (case ho => k_is); (case hcd => k_is); (case hroom => omega); (case hb => exact BindsTo.of_eq rfl); (case hl => exact locs rfl); (case hc => decide); (case hco => exact rfl); (case hgen => exact rfl); (case hk => exact rfl))
  intro g L' h₁ F₁ N₁ X₁ T₁ st
  have hlen : vs.length = ws.length := hws.length
  clear X T
  obtain ⟨b1, b2, b3, b4, b5⟩ := id BK
  k_steps
  unfold Hold
  rename Fr g _ _ _ => F1
  rename News g _ _ _ => N1
  rename_i d0 z1 o0 l1 lo0 hs0 fs0 hi0 fi0 hV
  clear hi0 fi0
  have hbn : ∀ q ∈ news, q.1 ≠ d0 := fun q hq => Nat.ne_of_lt (l1 q hq)
  refine it_list (vs := vs) (σ := Obj × List (Str × Int)) (keep := [(lw, W.listOf vs.toArray nw)]) (fun a => (d0, a.1) :: news) (fun _ => []) (fun i a => DS PySem.Challenge.rw_pm0056_01.row.prog w a.1 a.2 ∧ a.2 = dueC (entBk es) p (ws.take i) ∧ a.2.length ≤ 3 * i) ["text", "gap", "inner", "outer"] rfl (list_led N1 (.tail _ hlw)) (src_news N1 (.tail _ hlw)) F1 N1 (fun _ => ⟨.tail _ hlw, trivial⟩) ⟨(o0, []), rfl, ⟨⟨[], hs0, fs0⟩, rfl, Nat.le_refl _⟩, trivial⟩ ?_ ?_
  · rintro I i ⟨od, c⟩ v u h₂ tk₂ oI hv ⟨⟨kvs, hd2, hf2⟩, hc, hcl⟩ hlt hne F2 N2
    obtain ⟨t, tt, rfl, ht⟩ := strsAre_get hws hv
    obtain ⟨htl, hta⟩ := hpl t (List.mem_of_getElem? ht)
    have hi : i < ws.length := (List.getElem?_eq_some_iff.mp ht).1
    have hne0 := hne.1
    have hlt0 := hlt.1
    dsimp only at *
    have hnext : dueC (entBk es) p (ws.take (i + 1)) = stepD (entBk es) p c t := by rw [hc]; unfold dueC; rw [foldl_take ht]
    have hnl := stepD_len (entBk es) p c t
    have htl2 : t.length ≤ 20 := by omega
    obtain ⟨ov, hov⟩ := Option.isSome_iff_exists.mp (hsome t (List.mem_of_getElem? ht))
    k_steps
    · unfold Hold
      rename Fr g _ _ _ => F3
      rename News g _ _ _ => N3
      rename 1 < _ => hgap
      k_dflt (refine' get_use (es := es) F3 N3 X₁ T₁ ?q1 ?q2 (BK.grow fun q hq => .tail _ (.tail _ hq)) htl2 hta ?_)
      (case q1 => omega)
      (case q2 => omega)
      intro h4 tk4 v4 F4 N4 hg4
      clear F3 N3
      rw [hov] at hg4
      cases v4 with
      | str ta tt4 =>
        dsimp only at hg4
        rw [Option.some.injEq] at hg4
        obtain ⟨ea, hea, heq⟩ := getL_mem hov
        have hta2 : ta = ea.2.2.1 := lst_inj (by rw [heq, hg4])
        obtain ⟨hal, haa⟩ := hev ea hea
        rw [← hta2] at hal haa
        have htl3 : 2 ≤ t.length := by omega
        have hin1 := abc_mid hta htl3
        have hin2 : (Txt.slice t (some 1) (some (-1))).length ≤ 20 := Nat.le_trans (Txt.slice_le _ _ _) htl2
        have hnd := haa.nodot
        have hov2 : getL (entBk es) (lst t) = some (lst ta) := by rw [hov, hg4]
        k_steps
        all_goals (
          rename (Txt.slice _ _ _ == p) = _ => hsp
          rename inB _ _ = _ => hib
          rename Obj.IsDictOf _ _ _ => hdn
          rename FlatPairs _ _ _ => hfn
          have hst := stepD_gt (c := c) hgap hov2 htl3 hsp
          rw [hib] at hst
          simp only [if_true, if_false, Bool.false_eq_true] at hst
          refine turn_end (_, stepD (entBk es) p c t) (by assumption) (by assumption) (.head _) ⟨by exact .tail _ (.head _), InLed.of_all fun q hq => .tail _ (.tail _ hq)⟩ ⟨by exact hne0, hne.2⟩ ⟨⟨_, hdn, by rw [hst]; exact hfn⟩, hnext.symm, by dsimp only; omega⟩ trivial ?_
          intro z hz
          obtain ⟨h1, h2, h3, h4, -⟩ := id hz
          simp only [h1, h2, h3, h4, if_false]
          rw [fmap_off ?hs hz]
          case hs => rfl)
      | none => cases hg4
      | _ => exact hg4.elim
    · rename ¬ (1 < _) => hgap
      rename Obj.IsDictOf _ _ _ => hdn
      rename FlatPairs _ _ _ => hfn
      have hst : stepD (entBk es) p c t = kdpPut c t (1 - 2 * ((t.length : Int) - p.length)) := by
        unfold stepD
        dsimp only
        rw [if_neg hgap]
      refine turn_end (_, stepD (entBk es) p c t) (by assumption) (by assumption) (.head _) ⟨by exact .tail _ (.head _), InLed.of_all fun q hq => .tail _ (.tail _ hq)⟩ ⟨by exact hne0, hne.2⟩ ⟨⟨_, hdn, by rw [hst]; exact hfn⟩, hnext.symm, by dsimp only; omega⟩ trivial ?_
      intro z hz
      obtain ⟨h1, h2, h3, h4, -⟩ := id hz
      simp only [h1, h2, h3, h4, if_false]
      rw [fmap_off ?hs hz]
      case hs => rfl
  · rintro ⟨od, c⟩ u h₂ tk₂ ⟨⟨kvs, hd2, hf2⟩, hc, hcl⟩ F2 N2
    dsimp only at *
    rw [hlen, List.take_length] at hc
    k_steps
    subst hc
    exact leaveK_ F2 N2 fun F' N' => ret _ _ _ _ _ F' N' (AllNe.of hbn) lo0 hd2 hf2
end
end
theorem reset_C12 {M : Model} {A : Around} {E : Value → Shared → Prop} {Q : Flow → Shared → Prop} {s : Shared} {env : Env} (h : Q .next s) : wpAny M A (execs [] env) Q E s := by
  w_top off
  walk1
  w_top off
  exact h
section
def tup (vs : List Value) : Obj := { cls := .type "tuple", data := .seq vs.toArray }
theorem new_two {s : Shared} {h₀ h' : Heap} {L a b : Addr} {oa ob : Obj} {m : Str → Option Value} {news : List (Addr × Obj)} (F : Fr h₀ L s.heap m) (N : News h₀ L s.heap news) (st : s.heap.StaysIn h') (hna : s.heap.get? a = none) (hoa : h'.get? a = some oa) (hnb : s.heap.get? b = none) (hob : h'.get? b = some ob) :
    Fr h₀ L h' m ∧ News h₀ L h' ((a, oa) :: (b, ob) :: news) ∧ AllNe a news ∧ AllNe b news := by
  obtain ⟨F1, N1, A1⟩ := new_at F N st hna hoa
  obtain ⟨F2, N2, A2⟩ := new_at F N st hnb hob
  refine ⟨F1, ?_, A1, A2⟩
  intro p hp
  rcases List.mem_cons.mp hp with rfl | hp
  · exact N1 _ (.head _)
  · exact N2 _ hp
theorem add_func_stats_use {w : World} {loose : List Str} {mean : ExcName → Option Value} {mg mb : Str → Option Value} {s : Shared} {dp un : Nat} {fr : List Env} {gd : Option (List Code)} {E Q : Value → Shared → Prop} {h₀ : Heap} {L : Addr} {m : Str → Option Value} {news : List (Addr × Obj)}
    {A B d1 d2 : Addr} {a1 a2 a3 a4 b1 b2 b3 b4 : Int} {t1 t2 t3 t4 u1 u2 u3 u4 : Tok} {c1 c2 : List (Str × Int)}
    (F : Fr h₀ L s.heap m) (N : News h₀ L s.heap news) (X : (hd.heap_39 w.params).In h₀) (T : Top hd.view_39 loose mean mg mb h₀) (hdp : dp + 20 < recursionLimit) (hun : un + 200 < cLine)
    (hA : (A, tup [.int a1 t1, .int a2 t2, .int a3 t3, .int a4 t4, .ref d1]) ∈ news) (hB : (B, tup [.int b1 u1, .int b2 u2, .int b3 u3, .int b4 u4, .ref d2]) ∈ news)
    (T1 : StrTab PySem.Challenge.rw_pm0056_01.row.prog w s.heap d1 (kdpD c1)) (T2 : StrTab PySem.Challenge.rw_pm0056_01.row.prog w s.heap d2 (kdpD c2)) (hsz : c1.length + c2.length ≤ 10000)
    (ret : ∀ Tp a o kvs h' tk v1 v2 v3 v4, Fr h₀ L h' m → News h₀ L h' ((Tp, tup [.int (b1 + a1) v1, .int (b2 + a2) v2, .int (b3 + a3) v3, .int (b4 + a4) v4, .ref a]) :: (a, o) :: news) → AllNe Tp news → AllNe a news → (Tp : Nat) ≠ a → (a == sysModules) = false → o.IsDictOf (PySem.strKind PySem.Challenge.rw_pm0056_01.row.prog w) kvs → FlatPairs PyData.str kvs (kdpD (addC (copyC c1) c2)) → Q (.ref Tp) { s with heap := h', toks := tk }) :
    wpAny (model PySem.Challenge.rw_pm0056_01.row.prog w) (amb dp un fr gd) (call (.ref 52) [.ref A, .ref B]) Q E s :=
  add_func_stats_spec (X.keeps F.keep) (T.keeps F.keep) hdp hun ⟨_, (N _ hA).1, rfl, _, rfl⟩ ⟨_, (N _ hB).1, rfl, _, rfl⟩ T1 T2 hsz fun Tp a o kvs h' tk v1 v2 v3 v4 st hnT hoT hna hoa hne lo hd hf => by
    obtain ⟨F', N', A1, A2⟩ := new_two F N st hnT hoT hna hoa
    exact ret Tp a o kvs h' tk v1 v2 v3 v4 F' N' A1 A2 hne lo hd hf

def endsC (wd : Str) (place : Nat) : Nat → List (Str × Int)
  | 0 => []
  | k + 1 => kdpPut (endsC wd place k) (Txt.slice wd (some ((place : Int) - (k : Int))) (some (place : Int))) 1
theorem endsC_len (wd : Str) (place : Nat) : ∀ k, (endsC wd place k).length ≤ k
  | 0 => Nat.le_refl _
  | k + 1 => Nat.le_trans (kdpPut_len _ _ _) (Nat.succ_le_succ (endsC_len wd place k))
structure SumSt where
  cc : Int
  nc : Int
  cal : List (Str × Int)
def sumC (wd : Str) : Nat → SumSt
  | 0 => ⟨0, 0, []⟩
  | k + 1 => ⟨1 + (sumC wd k).cc, sumv (endsC wd k (k + 1)) + (sumC wd k).nc, addC (copyC (sumC wd k).cal) (endsC wd k (k + 1))⟩
theorem addC_len (c1 c2 : List (Str × Int)) : (addC c1 c2).length ≤ c1.length + c2.length := by
  unfold addC
  induction c2 generalizing c1 with
  | nil => exact Nat.le_refl _
  | cons p r ih =>
    rw [List.foldl_cons, List.length_cons]
    have h1 := ih (kdpPut c1 p.1 (kdpLook c1 p.1 0 + p.2))
    have h2 := kdpPut_len c1 p.1 (kdpLook c1 p.1 0 + p.2)
    omega
structure SS where
  tp : Addr
  a : Addr
  o : Obj
  v1 : Tok
  v2 : Tok
  v3 : Tok
  v4 : Tok
  cc : Int
  nc : Int
  x3 : Int
  x4 : Int
  c : List (Str × Int)
section
local macro_rules | `(tactic| walk_at "call ref") => `(tactic| (k_here; (with_reducible show wpAny _ _ (call (Value.ref 66) [Value.ref _]) _ _ _); k_dflt (refine' count_calls_use ?k1 ?k2 ?k3 ?k4 ?k5 ?k6 ?k7 ?_; (case k1 => k_asm); (case k2 => k_asm); (case k3 => assumption); (case k4 => assumption); (case k5 => omega); (case k6 => omega); (case k7 => k_tabat)); intro h' tk' t' F' N'; (try k_sweep)))
local macro_rules | `(tactic| walk_at "call ref") => `(tactic| (k_here; (with_reducible show wpAny _ _ (call (Value.ref 52) [Value.ref _, Value.ref _]) _ _ _); (refine hold_in ?_)))
local macro_rules | `(tactic| walk_at "call type:range") => `(tactic| (k_here; k_dflt (refine range1_rows (by k_asm) (by k_asm) ?_); intro h' tk' t1' t2' t3' R' F' N' S'; (try k_sweep)))
local macro_rules | `(tactic| walk_at "pyIter ref") => `(tactic| (refine hold_in ?_))
theorem summed_spec {w : World} {loose : List Str} {mean : ExcName → Option Value} {mg mb : Str → Option Value} {s : Shared} {dp un : Nat} {fr : List Env} {gd : Option (List Code)} {wd : Str} {tw : Tok} {E Q : Value → Shared → Prop} :
    (hd.heap_39 w.params).In s.heap → Top hd.view_39 loose mean mg mb s.heap → dp + 40 < recursionLimit → un + 400 < cLine → wd.length ≤ 20 →
    (∀ Tp a o kvs h' tk v1 v2 v3 v4, s.heap.StaysIn h' → s.heap.get? Tp = none → h'.get? Tp = some (tup [.int (sumC wd (wd.length + 1)).cc v1, .int (sumC wd (wd.length + 1)).nc v2, .int 0 v3, .int 0 v4, .ref a]) → s.heap.get? a = none → h'.get? a = some o → (Tp : Nat) ≠ a → (a == sysModules) = false → o.IsDictOf (PySem.strKind PySem.Challenge.rw_pm0056_01.row.prog w) kvs → FlatPairs PyData.str kvs (kdpD (sumC wd (wd.length + 1)).cal) → Q (.ref Tp) { s with heap := h', toks := tk }) →
    wpAny (model PySem.Challenge.rw_pm0056_01.row.prog w) (amb dp un fr gd) (call (.ref 228) [.str wd tw]) Q E s := by
  k_fill
  intro X T hdp hun hwd ret
  k_dflt (refine' call_me (binds := [("word", .str wd tw)]) X T ?ho ?hcd ?hroom ?hb ?hl ?hc ?hco ?hgen ?hk ?_; (case ho => k_is); (case hcd => k_is); (case hroom => omega); (case hb => exact BindsTo.of_eq rfl); (case hl => exact locs rfl); (case hc => decide); (case hco => exact rfl); (case hgen => exact rfl); (case hk => exact rfl))
  intro L h₁ F N
  k_steps
  unfold Hold
  rename Fr _ _ _ _ => F1
  rename News _ _ _ _ => N1
  rename IsRange _ _ _ _ _ _ _ _ => R1
  rename Obj.IsDictOf (PySem.strKind _ _) _ _ => hs0
  rename FlatPairs PyData.str _ _ => fs0
  rename (_ == sysModules) = false => lo0
  refine it_range (n := wd.length + 1) (σ := SS) (keep := []) (fun q => [(q.tp, tup [.int q.cc q.v1, .int q.nc q.v2, .int q.x3 q.v3, .int q.x4 q.v4, .ref q.a]), (q.a, q.o)]) (fun q => [("entry", .ref q.tp)])
    (fun i q => DS PySem.Challenge.rw_pm0056_01.row.prog w q.o q.c ∧ (q.cc = (sumC wd i).cc ∧ q.nc = (sumC wd i).nc ∧ q.c = (sumC wd i).cal) ∧ (q.x3 = 0 ∧ q.x4 = 0) ∧ (q.a == sysModules) = false ∧ q.c.length ≤ i * 30 ∧ (q.tp : Nat) ≠ q.a) ["entry", "place", "ends", "size"] rfl R1 (by omega) F1 N1 (fun _ => trivial) ⟨⟨_, _, _, _, _, _, _, 0, 0, 0, 0, []⟩, rfl, ⟨⟨[], hs0, fs0⟩, ⟨rfl, rfl, rfl⟩, ⟨rfl, rfl⟩, lo0, Nat.le_refl _, Nat.ne_of_gt (by assumption)⟩, by with_unfolding_all exact ⟨rfl, trivial⟩⟩ ?_ ?_
  · rintro I i ⟨tp, a, o, v1, v2, v3, v4, cc, nc, x3, x4, c⟩ ti u h₂ tk₂ oI hi ⟨⟨kvs, hd2, hf2⟩, ⟨hc1, hc2, hc3⟩, ⟨hx3, hx4⟩, hlo, hcl, hta⟩ hlt hne F2 N2
    have hne0 := hne.1
    have hne1 := hne.2.1
    dsimp only at *
    clear F1 N1
    have hcl2 : c.length ≤ 1000 := by omega
    k_steps
    unfold Hold
    rename Fr _ _ _ _ => F3
    rename News _ _ _ _ => N3
    rename IsRange _ _ _ _ _ _ _ _ => R3
    rename Obj.IsDictOf (PySem.strKind _ _) _ [] => hsB
    rename FlatPairs PyData.str [] _ => fsB
    rename (_ == sysModules) = false => loB
    rename_i z1 dB z2 oB hiB fiB lB z3 z4 z5 z6 z7 z8 z9
    clear hiB fiB z9
    obtain ⟨lB1, lB2, lB3⟩ := lB
    refine it_range (n := i + 1) (σ := Obj × List (Str × Int)) (keep := []) (fun q => [(dB, q.1), (I, oI), (tp, tup [.int cc v1, .int nc v2, .int x3 v3, .int x4 v4, .ref a]), (a, o)]) (fun _ => [])
      (fun j q => DS PySem.Challenge.rw_pm0056_01.row.prog w q.1 q.2 ∧ q.2 = endsC wd i j) ["size"] rfl R3 (by omega) F3 N3 (fun _ => trivial) ⟨(oB, []), rfl, ⟨⟨[], hsB, fsB⟩, rfl⟩, trivial⟩ ?_ ?_
    · rintro J j ⟨oe, e⟩ tj u' h₃ tk₃ oJ hj ⟨⟨kvs', hd3, hf3⟩, he⟩ hltJ hneJ F4 N4
      have hnJ := hneJ.1
      have hnJ2 := hneJ.2.1
      have hnJ3 := hneJ.2.2.1
      have hnJ4 := hneJ.2.2.2.1
      have hlJ := hltJ.1
      have hlJ2 := hltJ.2.1
      have hlJ3 := hltJ.2.2.1
      have hlJ4 := hltJ.2.2.2.1
      dsimp only at *
      have hel : e.length ≤ 1000 := by have := endsC_len wd i j; rw [he]; omega
      k_steps
      rename Obj.IsDictOf _ _ _ => hdn
      rename FlatPairs _ _ _ => hfn
      refine turn_end (_, endsC wd i (j + 1)) (by assumption) (by assumption) (.head _) ⟨.tail _ (.head _), .tail _ (.tail _ (.head _)), .tail _ (.tail _ (.tail _ (.head _))), .tail _ (.tail _ (.tail _ (.tail _ (.head _)))), trivial⟩ ⟨by exact hnJ, by exact hnJ2, by exact hnJ3, by exact hnJ4, trivial⟩ ⟨⟨_, hdn, by rw [he] at hfn; exact hfn⟩, rfl⟩ trivial ?_
      intro z hz
      obtain ⟨h1, -⟩ := id hz
      simp only [h1, if_false]
      rw [fmap_off ?hs hz]
      case hs => rfl
    · rintro ⟨oe, e⟩ u' h₃ tk₃ ⟨⟨kvs', hd3, hf3⟩, he⟩ F4 N4
      dsimp only at *
      clear F3 N3
      have hel : e.length ≤ 30 := by have := endsC_len wd i (i + 1); rw [he]; omega
      k_steps
      unfold Hold
      rename Fr _ _ _ _ => F5
      rename News _ _ _ _ => N5
      k_dflt (refine' add_func_stats_use (c1 := c) (c2 := e) F5 N5 X T ?q1 ?q2 (.tail _ (.tail _ (.tail _ (.head _)))) (.head _) ?T1 ?T2 ?q3 ?_)
      (case q1 => omega)
      (case q2 => omega)
      (case T1 => exact TabAt.ofNews N5 (.tail _ (.tail _ (.tail _ (.tail _ (.head _))))) hlo hd2 hf2)
      (case T2 => exact TabAt.ofNews N5 (.tail _ (.head _)) loB hd3 hf3)
      (case q3 => omega)
      intro Tp2 a2 o2 kvs2 h5 tk5 w1 w2 w3 w4 F6 N6 A1 A2 hne2 lo2 hdz hfz
      have e1 := A1.2.2.1
      have e2 := A2.2.2.1
      clear A1 A2 F5 N5
      k_steps
      refine turn_end ⟨Tp2, a2, o2, w1, w2, w3, w4, 1 + cc, sumv e + nc, 0 + x3, 0 + x4, addC (copyC c) e⟩ (by assumption) (by assumption) (.tail _ (.tail _ (.tail _ (.tail _ (.head _))))) ⟨.head _, .tail _ (.head _), trivial⟩ ⟨by exact e1.symm, by exact e2.symm, trivial⟩
        ⟨⟨_, hdz, hfz⟩, ⟨by dsimp only; rw [hc1]; rfl, by dsimp only; rw [hc2, he]; rfl, by dsimp only; rw [hc3, he]; rfl⟩, ⟨by dsimp only; rw [hx3]; rfl, by dsimp only; rw [hx4]; rfl⟩, lo2, ?len, hne2⟩ (by with_unfolding_all exact ⟨rfl, trivial⟩) ?_
      case len =>
        have h1 := addC_len (copyC c) e
        have h2 := copy_len c
        dsimp only
        omega
      intro z hz
      obtain ⟨h1, h2, h3, h4, -⟩ := id hz
      simp only [h1, if_false]
      rw [fmap_off ?hs (show OffL z ["size"] from ⟨h4, trivial⟩)]
      case hs => rfl
      simp only [h2, h3, if_false]
      rw [fmap_off ?hs2 hz]
      case hs2 => rfl
      simp only [h1, if_false]
  · rintro ⟨tp, a, o, v1, v2, v3, v4, cc, nc, x3, x4, c⟩ u h₂ tk₂ ⟨⟨kvs, hd2, hf2⟩, ⟨hc1, hc2, hc3⟩, ⟨hx3, hx4⟩, hlo, hcl, hta⟩ F2 N2
    dsimp only at *
    subst hx3 hx4 hc1 hc2 hc3
    k_steps
    exact ret _ _ _ _ _ _ _ _ _ _ F2.keep (N2 _ (.head _)).2.2 (N2 _ (.head _)).1 (N2 _ (.tail _ (.head _))).2.2 (N2 _ (.tail _ (.head _))).1 hta hlo hd2 hf2
end
end
theorem reset_C13 {M : Model} {A : Around} {E : Value → Shared → Prop} {Q : Flow → Shared → Prop} {s : Shared} {env : Env} (h : Q .next s) : wpAny M A (execs [] env) Q E s := by
  w_top off
  walk1
  w_top off
  exact h
section
theorem letter_lst (x : Int) : lst (Txt.item (Str.ofString "abc") (x.fmod 3)) = [(97 + x.fmod 3).toNat] ∧ Abc (Txt.item (Str.ofString "abc") (x.fmod 3)) := by
  have h0 := fmod_lo x (n := 3) (by decide)
  have h1 := fmod_hi x (n := 3) (by decide)
  generalize x.fmod 3 = r at h0 h1
  have : r = 0 ∨ r = 1 ∨ r = 2 := by omega
  rcases this with rfl | rfl | rfl
  · have e : lst (Txt.item (Str.ofString "abc") 0) = [97] := by decide +kernel
    exact ⟨e, fun c hc => by rw [e] at hc; rw [List.mem_singleton.mp hc]; simp⟩
  · have e : lst (Txt.item (Str.ofString "abc") 1) = [98] := by decide +kernel
    exact ⟨e, fun c hc => by rw [e] at hc; rw [List.mem_singleton.mp hc]; simp⟩
  · have e : lst (Txt.item (Str.ofString "abc") 2) = [99] := by decide +kernel
    exact ⟨e, fun c hc => by rw [e] at hc; rw [List.mem_singleton.mp hc]; simp⟩
theorem join_lst (l : List Str) : lst (Txt.join (Str.ofString "") l) = (l.map lst).flatten := by
  rw [eq_of_beq (join_plain_closes _ _)]
  match l with
  | [] => rfl
  | [x] => show lst x = _; simp
  | x :: y :: r =>
    show lst (x ++ Str.ofString "" ++ Str.join (Str.ofString "") (y :: r)) = _
    have ih := join_lst (y :: r)
    rw [eq_of_beq (join_plain_closes _ _)] at ih
    rw [lst_append, lst_append, ih]
    rw [show lst (Str.ofString "") = [] from rfl]
    simp
/-- what `_law_drawn` gives -/
structure Drawn (wd pt : Str) : Prop where
  abc : Abc wd
  len : wd.length = 4 ∨ wd.length = 5
  part : ∃ place width : Nat, lst pt = ((lst wd).drop place).take width ∧ place + width ≤ wd.length ∧ wd.length ≤ width + 4 ∧ width + 2 ≤ wd.length
theorem drawn_of {wd pt : Str} {size t7 t3 : Int} (ha : Abc wd) (hl : wd.length = 4 ∨ wd.length = 5) (hs : (wd.length : Int) = size)
    (hp : pt = Txt.slice wd (some (t3.fmod (size - (size - 4 + t7.fmod 3) + 1))) (some (t3.fmod (size - (size - 4 + t7.fmod 3) + 1) + (size - 4 + t7.fmod 3)))) : Drawn wd pt := by
  subst hs
  have h0 := fmod_lo t7 (n := 3) (by decide)
  have h1 := fmod_hi t7 (n := 3) (by decide)
  generalize t7.fmod 3 = r at h0 h1 hp
  have h2 := fmod_lo t3 (n := (wd.length : Int) - ((wd.length : Int) - 4 + r) + 1) (by omega)
  have h3 := fmod_hi t3 (n := (wd.length : Int) - ((wd.length : Int) - 4 + r) + 1) (by omega)
  generalize t3.fmod ((wd.length : Int) - ((wd.length : Int) - 4 + r) + 1) = p at h2 h3 hp
  refine ⟨ha, hl, p.toNat, ((wd.length : Int) - 4 + r).toNat, ?_, by omega, by omega, by omega⟩
  rw [hp, slice_ab (by omega) (by omega) (by omega)]
  congr 1
  omega
theorem mod_ne (n t : Int) : n - (n - 4 + t.fmod 3) + 1 ≠ 0 := by
  have h0 := fmod_lo t (n := 3) (by decide)
  have h1 := fmod_hi t (n := 3) (by decide)
  omega
theorem ints_four {ws : List Value} {xs : List Int} (h : IntsAre ws xs) (hl : xs.length = 4) : ∃ a b c d ta tb tc td, ws = [.int a ta, .int b tb, .int c tc, .int d td] ∧ xs = [a, b, c, d] := by
  rcases h with _ | ⟨a, ta, h⟩ <;> try simp at hl
  rcases h with _ | ⟨b, tb, h⟩ <;> try simp at hl
  rcases h with _ | ⟨c, tc, h⟩ <;> try simp at hl
  rcases h with _ | ⟨d, td, h⟩ <;> try simp at hl
  rcases h with _ | ⟨e, te, h⟩ <;> try simp at hl
  exact ⟨a, b, c, d, ta, tb, tc, td, rfl, rfl⟩
theorem ints_five {ws : List Value} {xs : List Int} (h : IntsAre ws xs) (hl : xs.length = 5) : ∃ a b c d e ta tb tc td te, ws = [.int a ta, .int b tb, .int c tc, .int d td, .int e te] ∧ xs = [a, b, c, d, e] := by
  rcases h with _ | ⟨a, ta, h⟩ <;> try simp at hl
  rcases h with _ | ⟨b, tb, h⟩ <;> try simp at hl
  rcases h with _ | ⟨c, tc, h⟩ <;> try simp at hl
  rcases h with _ | ⟨d, td, h⟩ <;> try simp at hl
  rcases h with _ | ⟨e, te, h⟩ <;> try simp at hl
  rcases h with _ | ⟨f, tf, h⟩ <;> try simp at hl
  exact ⟨a, b, c, d, e, ta, tb, tc, td, te, rfl, rfl⟩
theorem hold_led {M : Model} {A : Around} {Q E : Value → Shared → Prop} {s : Shared} {h₀ h : Heap} {L a : Addr} {arr : Array Value} {n : Nat} {news : List (Addr × Obj)} (_N : News h₀ L h news) (_m : (a, W.listOf arr n) ∈ news) (k : Hold (wpAny M A (call (.builtin "len") [.ref a]) Q E s)) : wpAny M A (call (.builtin "len") [.ref a]) Q E s := k
theorem slice_0161 {prog : Program} {w : World} {A : Around} {E : Value → Shared → Prop} {s : Shared} {h₀ : Heap} {L l : Addr} {m : Str → Option Value} {news : List (Addr × Obj)} {value slice : PySem.Expr} {Q : Value → Shared → Prop} {t1 t2 t3 t4 tk : Tok} {k : Nat}
    (F : Fr h₀ L s.heap m) (N : News h₀ L s.heap ((l, W.listOf #[.int 0 t1, .int 1 t2, .int 6 t3, .int 1 t4] 0) :: news))
    (h : ∀ D ws h', Fr h₀ L h' m → News h₀ L h' ((D, W.listOf (List.toArray ws) 0) :: (l, W.listOf #[.int 0 t1, .int 1 t2, .int 6 t3, .int 1 t4] 0) :: news) → (∀ p ∈ (l, W.listOf #[.int 0 t1, .int 1 t2, .int 6 t3, .int 1 t4] 0) :: news, p.1 < D) → IntsAre ws ([0, 1, 6, 1].drop k) → Q (.ref D) { s with heap := h' })
    (hs : subscripted slice false (.ref l) (.ref s.heap.objs.size) = operate [.ref s.heap.objs.size, .ref l] (getItem (.ref l) (.ref s.heap.objs.size))) (ht : ∀ r, letTemporaryGo value (.ref l) r = pure ()) :
    wpAny (model prog w) A (subscriptTail value slice (.ref l) (.ref s.heap.objs.size)) Q E { s with heap := s.heap.push { cls := .type "slice", data := .fields #[.int (k : Int) tk, .none, .none] } } := by
  have hi : IntsAre [.int 0 t1, .int 1 t2, .int 6 t3, .int 1 t4] [0, 1, 6, 1] := .cons _ _ (.cons _ _ (.cons _ _ (.cons _ _ .nil)))
  have hm := slice_ints_fromW hi (x := (k : Int)) (by omega)
  rw [Int.toNat_natCast] at hm
  exact kmk_slice_ints (c := _) F N ⟨_, (N _ (.head _)).1, rfl, _, rfl⟩ (IsPart.int _ _) IsPart.none hi hm rfl (fun D ws h' F' N' l' hI _ _ => h D ws h' F' N' l' hI) hs ht (by show (4 : Nat) ≤ sizeLine; rw [sizeLine_eq]; decide)
section
local macro_rules | `(tactic| walk_at "subscriptTail") => `(tactic| (k_here; (with_reducible show wpAny _ _ (subscriptTail (PySem.Expr.List _ _) _ _ _) _ _ _); (refine hold_in ?_)))
local macro_rules | `(tactic| walk_at "binaryOp Mod int int") => `(tactic| (k_here; k_dflt (refine mod_int' (mod_ne _ _) ?_)))
local macro_rules | `(tactic| walk_at "call builtin:len") => `(tactic| (k_here; (with_reducible show wpAny _ _ (call (Value.builtin "len") [Value.ref _]) _ _ _); k_dflt (refine' hold_led ?kn ?kmm ?_; (case kn => k_asm); (case kmm => k_mem))))
theorem drawn_spec {w : World} {loose : List Str} {mean : ExcName → Option Value} {mg mb : Str → Option Value} {s : Shared} {dp un : Nat} {fr : List Env} {gd : Option (List Code)} {l : Addr} {vs : List Value} {ns : List Int} {E Q : Value → Shared → Prop} :
    (hd.heap_39 w.params).In s.heap → Top hd.view_39 loose mean mg mb s.heap → dp + 40 < recursionLimit → un + 400 < cLine → s.heap.IsList l vs.toArray → IntsAre vs ns → ns.length ≤ 63 →
    (∀ Tp wd pt t1 t2 h' tk, s.heap.StaysIn h' → s.heap.get? Tp = none → h'.get? Tp = some (tup [.str wd t1, .str pt t2]) → Drawn wd pt → Q (.ref Tp) { s with heap := h', toks := tk }) →
    wpAny (model PySem.Challenge.rw_pm0056_01.row.prog w) (amb dp un fr gd) (call (.ref 221) [.ref l]) Q E s := by
  k_fill
  intro X T hdp hun hl hns hnl ret
  k_dflt (refine' call_me (binds := [("script", .ref l)]) X T ?ho ?hcd ?hroom ?hb ?hl ?hc ?hco ?hgen ?hk ?_; (case ho => k_is); (case hcd => k_is); (case hroom => omega); (case hb => exact BindsTo.of_eq rfl); (case hl => exact locs rfl); (case hc => decide); (case hco => exact rfl); (case hgen => exact rfl); (case hk => exact rfl))
  intro L h₁ F N
  have hl1 := hl.at fun o e => F.keep l o e
  k_steps
  unfold Hold
  rename Fr _ _ _ _ => F1
  rename News _ _ _ _ => N1
  rename IntsAre _ (List.take 5 ns) => hI1
  k_dflt (refine' kba_turn (value' := PySem.Expr.Name (PySem.Str.ofString "_") ⟨0, 0, 0, 0⟩) (fun _ => rfl) ?_)
  k_dflt (refine' slice_0161 F1 N1 ?_ ?ss ?tt)
  (case ss => with_unfolding_all rfl)
  (case tt => intro _; with_unfolding_all rfl)
  intro D2 ws2 h2 F2 N2 l2 hI2
  k_lt l2
  clear F1 N1
  k_steps
  unfold Hold
  rename Fr _ _ _ _ => F1
  rename News _ _ _ _ => N1
  rename IntsAre _ (_ ++ _) => hI3
  generalize hrow : (List.take 5 ns ++ List.drop ns.length [0, 1, 6, 1]) = row at hI3
  have hrl : row.length = 4 ∨ row.length = 5 := by rw [← hrow]; simp only [List.length_append, List.length_take, List.length_drop, List.length_cons, List.length_nil]; omega
  rcases hrl with h4 | h5
  · obtain ⟨a, b, c, d, ta, tb, tc, td, rfl, rfl⟩ := ints_four hI3 h4
    k_dflt (refine' len_led N1 (.head _) ?lz ?_)
    (case lz => show (4 : Nat) ≤ 100000; decide)
    k_steps
    rename Fr _ _ _ _ => FZ
    rename News _ _ _ _ => NZ
    refine ret _ _ _ _ _ _ _ FZ.keep (NZ _ (.head _)).2.2 (NZ _ (.head _)).1 (drawn_of ?ha ?hl ?hs rfl)
    case ha =>
      intro z hz
      rw [join_lst] at hz
      simp only [List.map_cons, List.map_nil, List.flatten_cons, List.flatten_nil, List.append_nil, List.mem_append] at hz
      rcases hz with hz | hz | hz | hz
      all_goals exact (letter_lst _).2 _ hz
    case hl => left; rw [← lst_len, join_lst]; simp only [List.map_cons, List.map_nil, (letter_lst _).1]; rfl
    case hs => rw [← lst_len, join_lst]; simp only [List.map_cons, List.map_nil, (letter_lst _).1]; rfl
  · obtain ⟨a, b, c, d, e, ta, tb, tc, td, te, rfl, rfl⟩ := ints_five hI3 h5
    k_dflt (refine' len_led N1 (.head _) ?lz ?_)
    (case lz => show (5 : Nat) ≤ 100000; decide)
    k_steps
    rename Fr _ _ _ _ => FZ
    rename News _ _ _ _ => NZ
    refine ret _ _ _ _ _ _ _ FZ.keep (NZ _ (.head _)).2.2 (NZ _ (.head _)).1 (drawn_of ?ha ?hl ?hs rfl)
    case ha =>
      intro z hz
      rw [join_lst] at hz
      simp only [List.map_cons, List.map_nil, List.flatten_cons, List.flatten_nil, List.append_nil, List.mem_append] at hz
      rcases hz with hz | hz | hz | hz | hz
      all_goals exact (letter_lst _).2 _ hz
    case hl => right; rw [← lst_len, join_lst]; simp only [List.map_cons, List.map_nil, (letter_lst _).1]; rfl
    case hs => rw [← lst_len, join_lst]; simp only [List.map_cons, List.map_nil, (letter_lst _).1]; rfl
end
end
theorem reset_C14 {M : Model} {A : Around} {E : Value → Shared → Prop} {Q : Flow → Shared → Prop} {s : Shared} {env : Env} (h : Q .next s) : wpAny M A (execs [] env) Q E s := by
  w_top off
  walk1
  w_top off
  exact h
section
def rowI (wd : Str) (i : Nat) : List Str := (List.range (i + 1)).map fun (j : Nat) => Txt.slice wd (some ((i : Int) - (j : Int))) (some (i : Int))
def rowC (wd : Str) : Nat → List Str
  | 0 => []
  | i + 1 => rowC wd i ++ rowI wd i
theorem strs_fun : ∀ {ys : List Value} {f : Nat → Str}, (∀ j y, ys[j]? = some y → ∃ t, y = Value.str (f j) t) → StrsAre ys ((List.range ys.length).map f)
  | [], f, h => .nil
  | y :: ys, f, h => by
    obtain ⟨t, rfl⟩ := h 0 y rfl
    rw [List.length_cons, List.range_succ_eq_map, List.map_cons, List.map_map]
    exact .cons _ _ (strs_fun fun j z hz => h (j + 1) z hz)
theorem rows_of {wd : Str} {n : Nat} {ys : List Value} (h : RowsOk (fun i j y => ∃ t, y = .str (Txt.slice wd (some ((i : Int) - (j : Int))) (some (i : Int))) t) (fun i => i + 1) n ys) : StrsAre ys (rowC wd n) := by
  induction h with
  | nil => exact .nil
  | snoc h1 h2 ih =>
    rename_i i ys ys2
    refine ih.append' ?_
    have := strs_fun h2.2
    rw [h2.1] at this
    exact this
theorem rowC_len (wd : Str) : ∀ n, (rowC wd n).length ≤ n * (n + 1)
  | 0 => Nat.le_refl _
  | n + 1 => by
    have h := rowC_len wd n
    show (rowC wd n ++ rowI wd n).length ≤ _
    rw [List.length_append, show (rowI wd n).length = n + 1 by simp [rowI]]
    have : (n + 1) * (n + 1 + 1) = n * (n + 1) + 2 * (n + 1) := by rw [Nat.mul_add, Nat.add_mul]; omega
    omega
theorem slice_sub {x : Str} {a b : Int} (h0 : 0 ≤ a) (h1 : a ≤ b) (h2 : b ≤ x.length) : ∀ c ∈ lst (Txt.slice x (some a) (some b)), c ∈ lst x := fun c hc => by
  rw [slice_ab h0 h1 h2] at hc
  exact List.mem_of_mem_drop (List.mem_of_mem_take hc)
theorem rowC_abc {wd : Str} (ha : Abc wd) : ∀ n, n ≤ wd.length + 1 → ∀ x ∈ rowC wd n, Abc x
  | 0, _, x, hx => by cases hx
  | n + 1, hn, x, hx => by
    rcases List.mem_append.mp (show x ∈ rowC wd n ++ rowI wd n from hx) with hx | hx
    · exact rowC_abc ha n (by omega) x hx
    · obtain ⟨j, hj, rfl⟩ := List.mem_map.mp hx
      have hj := List.mem_range.mp hj
      exact Abc.of ha (slice_sub (by omega) (by omega) (by omega))
theorem abc_ok {x : Str} (h : Abc x) : PyData.strOk x = true := by
  unfold PyData.strOk
  rw [Array.all_eq_true']
  intro c hc
  have := h c (by simpa using hc)
  exact decide_eq_true (by omega)
def listedC (rows : List Str) : Nat → List (Str × Int)
  | 0 => []
  | i + 1 => if rows.getD i Str.empty ∈ rows.take i then listedC rows i else listedC rows i ++ [(rows.getD i Str.empty, countIn (.str (rows.getD i Str.empty)) (rows.map PyData.str))]
def pairDat (p : Str × Int) : Dat := .tuple [.str p.1, .int p.2]
theorem strs_dats {news : List (Addr × Obj)} : ∀ {ys : List Value} {xs : List Str}, StrsAre ys xs → DatAll news ys (xs.map Dat.str)
  | _, _, .nil => .nil
  | _, _, .cons _ t h => .cons (.str _ t) (strs_dats h)
theorem pick_take (l : List Value) (k : Nat) : kms_pick l none (some (k : Int)) = l.take k := by
  unfold kms_pick
  have e : kms_hi (some (k : Int)) l.length = min k l.length := by
    unfold kms_hi
    show (if (k : Int) < 0 then _ else _) = _
    rw [if_neg (by omega), Int.toNat_natCast]
  rw [e, show kms_lo none l.length = 0 from rfl, List.drop_zero, Nat.sub_zero, ← List.take_eq_take_min]
section
variable {prog : Program} {w : World} {A : Around} {h₀ : Heap} {L : Addr} {m : Str → Option Value} {env : Env} {ct elt : PySem.Expr} {x : Str} {scope : Scope} {cl : List (Str × Addr)} {s : Shared} {P : Nat → Value → Prop} {Fin : List Value → List (Addr × Obj) → Prop}
def TEnd (h₀ : Heap) (L : Addr) (m : Str → Option Value) (s : Shared) (I : Addr) (oI : Obj) (C : Addr) (oC : Obj) (D : Addr) (ys : List Value) (base : List (Addr × Obj)) (J : List (Addr × Obj) → Prop) (s₂ : Shared) : Prop :=
  ∃ h' tk' nw', s₂ = { s with heap := h', toks := tk' } ∧ Fr h₀ L h' m ∧ News h₀ L h' ((I, oI) :: (C, oC) :: (D, LCg.lst ys) :: (base ++ nw')) ∧ LCg.Off3 I C D (base ++ nw') ∧ J nw'
theorem turnsT {n : Nat} {base : List (Addr × Obj)} (J : Nat → List Value → List (Addr × Obj) → Prop)
    (turn : ∀ i ys nw v I oI C oC D m₂ h tk (E' : Value → Shared → Prop), i < n → J i ys nw → P i v → LCg.NsObj oC m₂ → m₂ x = some v → Fr h₀ L h m → News h₀ L h ((I, oI) :: (C, oC) :: (D, LCg.lst ys) :: (base ++ nw)) → LCg.Off3 I C D (base ++ nw) → ((@Ne Nat I C) ∧ (@Ne Nat I D) ∧ (@Ne Nat C D)) →
      wpAny (model prog w) A (isTrue ct (compEnvC scope cl C env) (eval ct (compEnvC scope cl C env))) (fun ok s' => if ok = true then
        wpAny (model prog w) A (eval elt (compEnvC scope cl C env)) (fun y s₂ => TEnd h₀ L m s I oI C oC D ys base (J (i + 1) (ys ++ [y])) s₂) E' s'
        else TEnd h₀ L m s I oI C oC D ys base (J (i + 1) ys) s') E' { s with heap := h, toks := tk })
    (fin : ∀ ys nw, J n ys nw → Fin ys (base ++ nw)) (h0 : J 0 [] []) : LCt.CompRestT prog w A h₀ L m env ct elt x scope cl s (fun _ => True) P Fin n 0 [] base := by
  have gen : ∀ k i, i + k = n → ∀ ys nw, J i ys nw → LCt.CompRestT prog w A h₀ L m env ct elt x scope cl s (fun _ => True) P Fin k i ys (base ++ nw) := by
    intro k
    induction k with
    | zero =>
      intro i hi ys nw hJ
      obtain rfl : i = n := hi
      exact fin ys nw hJ
    | succ k ih =>
      intro i hi ys nw hJ
      refine LCt.CompRestT.succ fun v I oI C oC D m₂ h tk E' hP hC hx F N off ne => ?_
      refine wpAny_mono (turn i ys nw v I oI C oC D m₂ h tk E' (by omega) hJ hP hC hx F N off ne) (fun ok s' h' => ?_) fun _ _ e => e
      cases ok with
      | true =>
        simp only [if_true] at h' ⊢
        refine wpAny_mono h' (fun y s₂ h₂ => ?_) fun _ _ e => e
        obtain ⟨h3, tk3, nw', rfl, F', N', off', hJ'⟩ := h₂
        exact ⟨h3, tk3, base ++ nw', rfl, F', N', off', trivial, ih (i + 1) (by omega) _ _ hJ'⟩
      | false =>
        simp only [Bool.false_eq_true, if_false] at h' ⊢
        obtain ⟨h3, tk3, nw', rfl, F', N', off', hJ'⟩ := h'
        exact ⟨h3, tk3, base ++ nw', rfl, F', N', off', trivial, ih (i + 1) (by omega) _ _ hJ'⟩
  have := gen n 0 (by omega) [] [] h0
  rwa [List.append_nil] at this
end
section
variable {prog : Program} {w : World} {A : Around} {E : Value → Shared → Prop} {s : Shared} {h₀ : Heap} {L l : Addr} {m : Str → Option Value} {news : List (Addr × Obj)} {value slice : PySem.Expr} {Q : Value → Shared → Prop} {ys : List Value} {rows : List Str} {i : Nat} {u : Tok}
theorem row_item (N : News h₀ L s.heap news) (hm : (l, LCg.lst ys) ∈ news) (hi : StrsAre ys rows) (hk : i < rows.length) (hs : rows.length ≤ 1000) (h : ∀ t', Q (.str (rows.getD i Str.empty) t') s)
    (hs' : subscripted slice false (.ref l) (.int (i : Int) u) = operate [.ref l, .int (i : Int) u] (getItem (.ref l) (.int (i : Int) u))) (hg : ∀ r, letTemporaryGo value (.ref l) r = pure ()) :
    wpAny (model prog w) A (subscriptTail value slice (.ref l) (.int (i : Int) u)) Q E s :=
  item_strsA ⟨_, (N _ hm).1, rfl, _, rfl⟩ hi (by omega) (by omega) (by omega) (fun t' => by rw [Int.toNat_natCast]; exact h t') hs' hg
theorem row_slice (F : Fr h₀ L s.heap m) (N : News h₀ L s.heap news) (hm : (l, LCg.lst ys) ∈ news) (hz : ys.length ≤ 1000)
    (h : ∀ D h', Fr h₀ L h' m → News h₀ L h' ((D, W.listOf (ys.take i).toArray 0) :: news) → (∀ p ∈ news, p.1 < D) → Q (.ref D) { s with heap := h' })
    (hs : subscripted slice false (.ref l) (.ref s.heap.objs.size) = operate [.ref s.heap.objs.size, .ref l] (getItem (.ref l) (.ref s.heap.objs.size))) (ht : ∀ r, letTemporaryGo value (.ref l) r = pure ()) :
    wpAny (model prog w) A (subscriptTail value slice (.ref l) (.ref s.heap.objs.size)) Q E { s with heap := s.heap.push { cls := .type "slice", data := .fields #[.none, .int (i : Int) u, .none] } } :=
  kms_slice_lit F N ⟨_, (N _ hm).1, rfl, _, rfl⟩ IsPart.none (IsPart.int _ _) (pick_take ys i) h hs ht (by show ys.toArray.size ≤ sizeLine; rw [List.size_toArray, sizeLine_eq]; omega)
theorem row_notIn {x : Str} {t : Tok} (N : News h₀ L s.heap news) (hm : (l, W.listOf ys.toArray 0) ∈ news) (hi : StrsAre ys rows) (hr : ∀ y ∈ rows, PyData.strOk y = true) (hx : PyData.strOk x = true) (hu : A.units + 64 < cLine)
    (h : Q (.bool (!decide (x ∈ rows))) s) : wpAny (model prog w) A (compareOp .NotIn (.str x t) (.ref l)) Q E s := by
  refine kqd_notIn (n₁ := []) (n₂ := []) (d := .str x) N hm rfl rfl (strs_dats hi) (fun p hp => nomatch hp) (.str x t) (fun p hp => nomatch hp) (fun d hd => ?_) hx hu ?_
  · obtain ⟨y, hy, rfl⟩ := List.mem_map.mp hd
    exact hr y hy
  · have e : (Dat.str x ∈ rows.map Dat.str) ↔ x ∈ rows := by simp
    by_cases hq : x ∈ rows
    · have z := e.mpr hq
      simp only [z, decide_true, Bool.not_true]
      simpa [hq] using h
    · have z : ¬ (Dat.str x ∈ rows.map Dat.str) := fun z => hq (e.mp z)
      simp only [z, decide_false, Bool.not_false]
      simpa [hq] using h
theorem row_count {x : Str} {t : Tok} (N : News h₀ L s.heap news) (hm : (l, LCg.lst ys) ∈ news) (hi : StrsAre ys rows) (h : Q (.int (countIn (.str x) (rows.map PyData.str)) s.toks) { s with toks := s.toks + 1 }) :
    wpAny (model prog w) A (call (.builtin "list.count") [.ref l, .str x t]) Q E s := count_list_strs ⟨_, (N _ hm).1, rfl, _, rfl⟩ hi h
end
section
local macro_rules | `(tactic| walk_at "eval ListComp") => `(tactic| (refine hold_in ?_))
local macro_rules | `(tactic| walk_at "call type:range") => `(tactic| (refine hold_in ?_))
local macro_rules | `(tactic| walk_at "subscriptTail") => `(tactic| (k_here; (with_reducible show wpAny _ _ (subscriptTail _ _ (Value.ref _) (Value.int _ _)) _ _ _); k_dflt (refine' row_item ?N ?kmm ?S ?k ?z ?_ ?d ?e; (case N => k_asm); (case kmm => k_mem); (case S => with_reducible assumption); (case k => with_reducible assumption); (case z => with_reducible assumption); (case d => with_unfolding_all rfl); (case e => intro _; with_unfolding_all rfl)); intro t'))
local macro_rules | `(tactic| walk_at "subscriptTail Name Slice ref ref") => `(tactic| (k_here; (with_reducible show wpAny _ _ (subscriptTail _ (PySem.Expr.Slice _ _ none _) (Value.ref _) (Value.ref _)) _ _ _); k_dflt (refine' row_slice ?F ?N ?kmm ?z ?_ ?d ?e; (case F => k_asm); (case N => k_asm); (case kmm => k_mem); (case z => omega); (case d => with_unfolding_all rfl); (case e => intro _; with_unfolding_all rfl)); intro D' h' F' N' l1; (try k_lt l1); (try k_sweep)))
local macro_rules | `(tactic| walk_at "compareOp NotIn str ref") => `(tactic| (refine hold_in ?_))
local macro_rules | `(tactic| walk_at "call builtin:list.count") => `(tactic| (k_here; (with_reducible show wpAny _ _ (call (Value.builtin _) [Value.ref _, Value.str _ _]) _ _ _); k_dflt (refine' row_count ?N ?kmm ?S ?_; (case N => k_asm); (case kmm => k_mem); (case S => with_reducible assumption))))
theorem listed_spec {w : World} {loose : List Str} {mean : ExcName → Option Value} {mg mb : Str → Option Value} {s : Shared} {dp un : Nat} {fr : List Env} {gd : Option (List Code)} {wd : Str} {tw : Tok} {E Q : Value → Shared → Prop} :
    (hd.heap_39 w.params).In s.heap → Top hd.view_39 loose mean mg mb s.heap → dp + 40 < recursionLimit → un + 400 < cLine → wd.length ≤ 20 → Abc wd →
    (∀ D ws nw h' tk, s.heap.StaysIn h' → (∀ p ∈ (D, LCg.lst ws) :: nw, s.heap.get? p.1 = none ∧ h'.get? p.1 = some p.2) → DatAll nw ws ((listedC (rowC wd (wd.length + 1)) (rowC wd (wd.length + 1)).length).map pairDat) → Q (.ref D) { s with heap := h', toks := tk }) →
    wpAny (model PySem.Challenge.rw_pm0056_01.row.prog w) (amb dp un fr gd) (call (.ref 233) [.str wd tw]) Q E s := by
  k_fill
  intro X T hdp hun hwd ha ret
  k_dflt (refine' call_mc (binds := [("word", .str wd tw)]) X T ?ho ?hcd ?hroom ?hb ?hl ?hc ?_ ?hco ?hgen ?hk; (case ho => k_is); (case hcd => k_is); (case hroom => omega); (case hb => exact BindsTo.of_eq rfl); (case hl => exact rfl); (case hc => decide +kernel); (case hco => exact rfl); (case hgen => exact rfl); (case hk => exact rfl))
  intro L h₁ tk₁ cells F N Y
  k_cells Y
  k_steps
  unfold Hold
  rename Fr _ _ _ _ => F1
  rename News _ _ _ _ => N1
  rename_i o1 o2 d1 d2
  k_dflt (refine' ListComp2 F1 ?a3 ?a4 ?a5 ?a6 ?a7 ?a8 ?a9 ?a13 ?a14 ?_; (case a3 => with_unfolding_all rfl); (case a4 => decide); (case a5 => rfl); (case a6 => decide); (case a7 => rfl); (case a8 => rfl); (case a9 => decide); (case a13 => intro _; rfl); (case a14 => intro _ _; rfl))
  k_steps
  unfold Hold
  k_dflt (refine range1_rows F1 N1 ?_)
  intro h2 tk2 t1 t2 t3 R2 F2 N2 S2
  clear F1 N1
  refine ⟨fun i j y => ∃ t, y = .str (Txt.slice wd (some ((i : Int) - (j : Int))) (some (i : Int))) t, fun i => i + 1, wd.length + 1, 21, _, t1, t2, t3, [(L + 1 + 1, o1), (L + 1, o2)], rfl, trivial, fun i hi => by show i + 1 ≤ 21; omega, ⟨by omega, by decide⟩, F2, N2, by push_cast; exact R2, ?_, ?_, ?_⟩
  all_goals dsimp only
  · intro I C D i ys oI oC m₂ h3 tk3 ti E' hi hm hC F3 N3
    k_steps
    unfold Hold
    k_dflt (refine range1_rows F3 N3 ?_)
    intro h4 tk4 a1 a2 a3 R4 F4 N4 S4
    exact ⟨_, _, _, a1, a2, a3, rfl, rfl, F4, N4, by push_cast; exact R4⟩
  · intro J C D I i j ys oI oJ oC m₂ h3 tk3 ti tj E' hi hj hm1 hm2 hC F3 N3
    k_steps
    all_goals assumption
  · intro D h3 tk3 ys hok F3 N3 off
    clear F2 N2
    have hrs := rows_of hok
    have hrl : (rowC wd (wd.length + 1)).length ≤ 1000 := by have h := rowC_len wd (wd.length + 1); have h2 : (wd.length + 1) * (wd.length + 1 + 1) ≤ 21 * 22 := Nat.mul_le_mul (by omega) (by omega); omega
    have hyl := hrs.length
    have hra := rowC_abc ha (wd.length + 1) (Nat.le_refl _)
    generalize rowC wd (wd.length + 1) = rows at hrs hrl hyl hra ret
    k_steps
    unfold Hold
    rename Fr _ _ _ _ => F4
    rename News _ _ _ _ => N4
    rename (_ = Data.cell (some (Value.ref D))) => dR
    rename_i h4 o'
    k_dflt (refine' LCt.ListComp_T F4 ?a3 ?a4 ?a5 ?a6 ?a7 ?_ ?a8; (case a3 => with_unfolding_all rfl); (case a4 => decide); (case a5 => rfl); (case a6 => decide); (case a7 => rfl); (case a8 => intro _; rfl))
    k_steps
    unfold Hold
    rename StrsAre _ _ => hrs
    k_dflt (refine range1_rows F4 N4 ?_)
    intro h5 tk5 a1 a2 a3 R5 F5 N5 S5
    clear F4 N4
    refine LCt.CompSrcT.range (n := rows.length) rfl F5 N5 R5 (small_one (by decide) (by omega) (by omega) (by omega)) (by rw [rangeSize_nat]; omega) (by rw [sizeLine_eq]; omega) ?_
    intro g
    refine turnsT (base := [(D, LCg.lst ys), (L + 1 + 1, o'), (L + 1, o2)]) (fun i ys nw => DatAll nw ys ((listedC rows i).map pairDat)) ?_ ?_ .nil
    · intro i ys' nw v I oI C oC D' m₂ h6 tk6 E' hi hJ hv hC hx F6 N6 off6 ne6
      obtain ⟨tv, rfl⟩ := hv
      rw [Int.zero_add] at hx
      simp only [List.cons_append, List.nil_append] at N6 off6
      clear F5 N5
      k_steps
      unfold Hold
      rename Fr _ _ _ _ => F7
      rename News _ _ _ _ => N7
      rename StrsAre _ _ => hrs
      rw [Int.toNat_natCast]
      have hx1 : rows.getD i Str.empty ∈ rows := by rw [List.getD_eq_getElem?_getD, List.getElem?_eq_getElem hi]; exact List.getElem_mem hi
      k_dflt (refine' row_notIn N7 (.head _) (hrs.take' i) (fun y hy => abc_ok (hra y (List.mem_of_mem_take hy))) (abc_ok (hra _ hx1)) ?hu ?_; (case hu => show un + 3 + 64 < cLine; omega))
      rename_i t7 D7 h7 l7
      have eJ : listedC rows (i + 1) = if rows.getD i Str.empty ∈ rows.take i then listedC rows i else listedC rows i ++ [(rows.getD i Str.empty, countIn (.str (rows.getD i Str.empty)) (rows.map PyData.str))] := rfl
      by_cases hq : rows.getD i Str.empty ∈ rows.take i
      · rw [if_pos hq] at eJ
        simp only [hq, decide_true, Bool.not_true]
        k_steps
        exact ⟨_, _, nw, rfl, F7, fun p hp => N7 p (.tail _ hp), off6, by rw [eJ]; exact hJ⟩
      · rw [if_neg hq] at eJ
        simp only [hq, decide_false, Bool.not_false]
        k_steps
        rename Fr _ _ _ _ => F8
        rename News _ _ _ _ => N8
        rename_i t8 t9 D8 h8 l8
        refine ⟨_, _, (D8, ({ cls := .type "tuple", data := .seq #[.str (rows.getD i Str.empty) t8, .int (countIn (.str (rows.getD i Str.empty)) (rows.map PyData.str)) tk6] } : Obj)) :: nw, rfl, F8, fun p hp => ?_, ?_, ?_⟩
        · rcases List.mem_cons.mp hp with rfl | hp
          · exact N8 _ (.tail _ (.tail _ (.head _)))
          rcases List.mem_cons.mp hp with rfl | hp
          · exact N8 _ (.tail _ (.tail _ (.tail _ (.head _))))
          rcases List.mem_cons.mp hp with rfl | hp
          · exact N8 _ (.tail _ (.tail _ (.tail _ (.tail _ (.head _)))))
          rcases List.mem_cons.mp hp with rfl | hp
          · exact N8 _ (.tail _ (.tail _ (.tail _ (.tail _ (.tail _ (.head _))))))
          rcases List.mem_cons.mp hp with rfl | hp
          · exact N8 _ (.tail _ (.tail _ (.tail _ (.tail _ (.tail _ (.tail _ (.head _)))))))
          rcases List.mem_cons.mp hp with rfl | hp
          · exact N8 _ (.tail _ (.tail _ (.tail _ (.tail _ (.tail _ (.tail _ (.tail _ (.head _))))))))
          rcases List.mem_cons.mp hp with rfl | hp
          · exact N8 _ (.head _)
          · exact N8 _ (.tail _ (.tail _ (.tail _ (.tail _ (.tail _ (.tail _ (.tail _ (.tail _ hp))))))))
        · exact ⟨off6.1, off6.2.1, off6.2.2.1, ⟨Nat.ne_of_gt l8.2.1, Nat.ne_of_gt l8.2.2.1, Nat.ne_of_gt l8.2.2.2.1⟩, off6.2.2.2⟩
        · dsimp only
          rw [eJ, List.map_append]
          exact (hJ.mono fun p hp => .tail _ hp).append (.one (.tuple (.head _) (.cons (.str _ _) (.cons (.int _ _) .nil))))
    · intro ys' nw hJ D' h6 tk6 F6 N6 o6
      refine ret D' ys' nw h6 tk6 F6.keep (fun p hp => ?_) hJ
      have z : p ∈ (D', LCg.lst ys') :: ([(D, LCg.lst ys), (L + 1 + 1, o'), (L + 1, o2)] ++ nw) := by
        rcases List.mem_cons.mp hp with rfl | hp
        · exact .head _
        · exact .tail _ (List.mem_append_right _ hp)
      exact ⟨(N6 p z).2.2, (N6 p z).1⟩
end
end
theorem reset_C15 {M : Model} {A : Around} {E : Value → Shared → Prop} {Q : Flow → Shared → Prop} {s : Shared} {env : Env} (h : Q .next s) : wpAny M A (execs [] env) Q E s := by
  w_top off
  walk1
  w_top off
  exact h
section
theorem grow_all {s : Shared} {h₀ h' : Heap} {L : Addr} {m : Str → Option Value} {news nw : List (Addr × Obj)} (F : Fr h₀ L s.heap m) (N : News h₀ L s.heap news) (st : s.heap.StaysIn h') (hn : ∀ p ∈ nw, s.heap.get? p.1 = none ∧ h'.get? p.1 = some p.2) :
    Fr h₀ L h' m ∧ News h₀ L h' (nw ++ news) := by
  refine ⟨F.keeps st, fun p hp => ?_⟩
  rcases List.mem_append.mp hp with hp | hp
  · obtain ⟨hn, ho⟩ := hn p hp
    refine ⟨ho, fun e => ?_, ?_⟩
    · obtain ⟨oL, _, _, hL, _⟩ := F.ns
      rw [e, hL] at hn; cases hn
    · cases q : h₀.get? p.1 with
      | none => rfl
      | some o => have := F.keep _ _ q; rw [this] at hn; cases hn
  · exact ⟨st _ _ (N p hp).1, (N p hp).2⟩
section
variable {w : World} {loose : List Str} {mean : ExcName → Option Value} {mg mb : Str → Option Value} {s : Shared} {dp un : Nat} {fr : List Env} {gd : Option (List Code)} {E Q : Value → Shared → Prop} {h₀ : Heap} {L : Addr} {m : Str → Option Value} {news : List (Addr × Obj)}
theorem drawn_use {l : Addr} {vs : List Value} {ns : List Int} (F : Fr h₀ L s.heap m) (N : News h₀ L s.heap news) (X : (hd.heap_39 w.params).In h₀) (T : Top hd.view_39 loose mean mg mb h₀) (hdp : dp + 40 < recursionLimit) (hun : un + 400 < cLine)
    (hl : h₀.IsList l vs.toArray) (hns : IntsAre vs ns) (hnl : ns.length ≤ 63)
    (ret : ∀ Tp wd pt t1 t2 h' tk, Fr h₀ L h' m → News h₀ L h' ((Tp, tup [.str wd t1, .str pt t2]) :: news) → AllNe Tp news → Drawn wd pt → Q (.ref Tp) { s with heap := h', toks := tk }) :
    wpAny (model PySem.Challenge.rw_pm0056_01.row.prog w) (amb dp un fr gd) (call (.ref 221) [.ref l]) Q E s :=
  drawn_spec (X.keeps F.keep) (T.keeps F.keep) hdp hun (hl.at fun o e => F.keep l o e) hns hnl fun Tp wd pt t1 t2 h' tk st hn ho hD => by
    obtain ⟨F', N', A'⟩ := new_at F N st hn ho
    exact ret Tp wd pt t1 t2 h' tk F' N' A' hD
theorem summed_use {wd : Str} {tw : Tok} (F : Fr h₀ L s.heap m) (N : News h₀ L s.heap news) (X : (hd.heap_39 w.params).In h₀) (T : Top hd.view_39 loose mean mg mb h₀) (hdp : dp + 40 < recursionLimit) (hun : un + 400 < cLine) (hwd : wd.length ≤ 20)
    (ret : ∀ Tp a o kvs h' tk v1 v2 v3 v4, Fr h₀ L h' m → News h₀ L h' ((Tp, tup [.int (sumC wd (wd.length + 1)).cc v1, .int (sumC wd (wd.length + 1)).nc v2, .int 0 v3, .int 0 v4, .ref a]) :: (a, o) :: news) → AllNe Tp news → AllNe a news → (Tp : Nat) ≠ a → (a == sysModules) = false →
      o.IsDictOf (PySem.strKind PySem.Challenge.rw_pm0056_01.row.prog w) kvs → FlatPairs PyData.str kvs (kdpD (sumC wd (wd.length + 1)).cal) → Q (.ref Tp) { s with heap := h', toks := tk }) :
    wpAny (model PySem.Challenge.rw_pm0056_01.row.prog w) (amb dp un fr gd) (call (.ref 228) [.str wd tw]) Q E s :=
  summed_spec (X.keeps F.keep) (T.keeps F.keep) hdp hun hwd fun Tp a o kvs h' tk v1 v2 v3 v4 st hnT hoT hna hoa hne lo hd hf => by
    obtain ⟨F', N', A1, A2⟩ := new_two F N st hnT hoT hna hoa
    exact ret Tp a o kvs h' tk v1 v2 v3 v4 F' N' A1 A2 hne lo hd hf
theorem listed_use {wd : Str} {tw : Tok} (F : Fr h₀ L s.heap m) (N : News h₀ L s.heap news) (X : (hd.heap_39 w.params).In h₀) (T : Top hd.view_39 loose mean mg mb h₀) (hdp : dp + 40 < recursionLimit) (hun : un + 400 < cLine) (hwd : wd.length ≤ 20) (ha : Abc wd)
    (ret : ∀ D ws nw h' tk, Fr h₀ L h' m → News h₀ L h' ((D, LCg.lst ws) :: (nw ++ news)) → DatAll nw ws ((listedC (rowC wd (wd.length + 1)) (rowC wd (wd.length + 1)).length).map pairDat) → Q (.ref D) { s with heap := h', toks := tk }) :
    wpAny (model PySem.Challenge.rw_pm0056_01.row.prog w) (amb dp un fr gd) (call (.ref 233) [.str wd tw]) Q E s :=
  listed_spec (X.keeps F.keep) (T.keeps F.keep) hdp hun hwd ha fun D ws nw h' tk st hn hD => by
    obtain ⟨F', N'⟩ := grow_all F N st hn
    exact ret D ws nw h' tk F' N' hD
theorem signs_use {lw : Addr} {vs : List Value} {ws : List Str} {p : Str} {tp : Tok} (F : Fr h₀ L s.heap m) (N : News h₀ L s.heap news) (X : (hd.heap_39 w.params).In h₀) (T : Top hd.view_39 loose mean mg mb h₀) (hdp : dp + 40 < recursionLimit) (hun : un + 400 < cLine)
    (hl : s.heap.IsList lw vs.toArray) (hs : StrsAre vs ws) (hn : ws.length ≤ 1000) (hp : ∀ x ∈ ws, Plain x) (hpp : Plain p)
    (ret : ∀ a o kvs h' tk, Fr h₀ L h' m → News h₀ L h' ((a, o) :: news) → AllNe a news → (a == sysModules) = false → o.IsDictOf (PySem.strKind PySem.Challenge.rw_pm0056_01.row.prog w) kvs → FlatPairs PyData.str kvs (kdpD (signsC p ws)) → Q (.ref a) { s with heap := h', toks := tk }) :
    wpAny (model PySem.Challenge.rw_pm0056_01.row.prog w) (amb dp un fr gd) (call (.ref 247) [.ref lw, .str p tp]) Q E s :=
  signs_spec (X.keeps F.keep) (T.keeps F.keep) (by omega) (by omega) hl hs hn hp hpp fun a o kvs h' tk st hna ho lo hd hf => by
    obtain ⟨F', N', A'⟩ := new_at F N st hna ho
    exact ret a o kvs h' tk F' N' A' lo hd hf
end
/-- what the law asks, of the word and its part -/
structure LawOk (wd pt : Str) : Prop where
  cal : (sumC wd (wd.length + 1)).cal = listedC (rowC wd (wd.length + 1)) (rowC wd (wd.length + 1)).length
  cc : (sumC wd (wd.length + 1)).cc = (wd.length : Int) + 1
  nc : (sumC wd (wd.length + 1)).nc = (((wd.length : Int) + 1) * ((wd.length : Int) + 1 + 1)).fdiv 2
  sum : sumv (sumC wd (wd.length + 1)).cal = (sumC wd (wd.length + 1)).nc
  len : ((sumC wd (wd.length + 1)).cal.map (·.1)).length ≤ 50
  abc : ∀ x ∈ (sumC wd (wd.length + 1)).cal.map (·.1), x.length ≤ 5 ∧ Abc x
  pabc : pt.length ≤ 5 ∧ Abc pt
  keys : (signsC pt ((sumC wd (wd.length + 1)).cal.map (·.1))).map (·.1) = ((sumC wd (wd.length + 1)).cal.map (·.1)).filter fun t => inB (lst pt) (lst t)
  bord : ∃ bk, bordersL (((sumC wd (wd.length + 1)).cal.map (·.1)).map lst) = some bk ∧ (∀ x ∈ (signsC pt ((sumC wd (wd.length + 1)).cal.map (·.1))).map (·.1), (getL bk (lst x)).isSome = true) ∧
    dueC bk pt ((signsC pt ((sumC wd (wd.length + 1)).cal.map (·.1))).map (·.1)) = signsC pt ((sumC wd (wd.length + 1)).cal.map (·.1))
theorem strs_of_at : ∀ {vs : List Value} {xs : List Str}, vs.length = xs.length → (∀ (j : Nat) (u : Value) (x : Str), vs[j]? = some u → xs[j]? = some x → ∃ t, u = Value.str x t) → StrsAre vs xs
  | [], [], _, _ => .nil
  | [], _ :: _, h, _ => by cases h
  | _ :: _, [], h, _ => by cases h
  | u :: vs, x :: xs, hl, h => by
    obtain ⟨t, rfl⟩ := h 0 u x rfl rfl
    exact .cons _ _ (strs_of_at (Nat.succ.inj hl) fun j v y hv hy => h (j + 1) v y hv hy)
theorem flat_at {kvs : List (Str × Value)} {c : List (Str × Int)} (hf : FlatPairs PyData.str kvs (kdpD c)) {j : Nat} {k : Str} {x : Value} (hx : kvs[j]? = some (k, x)) : ∃ n t, c[j]? = some (k, n) ∧ x = .int n t := by
  obtain ⟨dv, hd, hfl⟩ := hf.at hx
  unfold kdpD at hd
  rw [List.getElem?_map] at hd
  cases q : c[j]? with
  | none => rw [q] at hd; cases hd
  | some p =>
    rw [q] at hd
    have e := Option.some.inj hd
    obtain ⟨k', n⟩ := p
    have e1 := congrArg Prod.fst e
    have e2 := congrArg Prod.snd e
    dsimp only at e1 e2
    cases e1
    subst e2
    obtain ⟨t, rfl⟩ : ∃ t, x = .int n t := by
      cases hfl {} with
      | int i t => exact ⟨t, rfl⟩
    exact ⟨n, t, rfl, rfl⟩
section
variable {prog : Program} {w : World} {A : Around} {E : Value → Shared → Prop} {s : Shared} {h₀ : Heap} {L d v : Addr} {m : Str → Option Value} {news : List (Addr × Obj)} {Q : Value → Shared → Prop} {c : List (Str × Int)} {kvs : List (Str × Value)} {o : Obj}
theorem list_keys_of (hh : A.handled = none) (F : Fr h₀ L s.heap m) (N : News h₀ L s.heap news) (hm : (d, o) ∈ news) (hd : o.IsDictOf (PySem.strKind prog w) kvs) (hf : FlatPairs PyData.str kvs (kdpD c)) (lo : (d == sysModules) = false) (hn : c.length ≤ 1000)
    (h : ∀ (B : Addr) cc h' tk vs, Fr h₀ L h' m → News h₀ L h' ((B, W.listOf vs.toArray cc) :: news) → (∀ q ∈ news, q.1 < B) → StrsAre vs (c.map (·.1)) → Q (.ref B) { s with heap := h', toks := tk }) :
    wpAny (model prog w) A (call (.type "list") [.ref d]) Q E s := by
  obtain ⟨ep, hat⟩ := KdkAt.of hd
  have hat := hat.dictAt (N _ hm).1
  have hlen : kvs.length = c.length := by rw [← hf.length, kdpD_length]
  refine kdl_N (kdl_dict (knd := PySem.strKind prog w) (kvs := kvs) (ep := ep) lo) hh F N hat (kdl_size (by omega)) fun B cc h' tk vs F' N' l1 hl hv => ?_
  refine h B cc h' tk vs F' N' l1 (strs_of_at (by rw [List.length_map]; omega) fun j u x hu hx => ?_)
  obtain ⟨k, y, hy, hk⟩ := hv j u hu
  obtain ⟨n, t, hc, -⟩ := flat_at hf hy
  rw [List.getElem?_map, hc] at hx
  cases Option.some.inj hx
  exact Value.isStrOf_shape hk
theorem dats_of_at {h : Heap} {c : List (Str × Int)} {nw : List (Addr × Obj)} : ∀ {as : List Addr} {c : List (Str × Int)}, as.length = c.length →
    (∀ (j : Nat) (a : Addr) (p : Str × Int), as[j]? = some a → c[j]? = some p → ∃ t u, (a, ({ cls := .type "tuple", data := .seq #[.str p.1 t, .int p.2 u] } : Obj)) ∈ nw) → DatAll nw (as.map Value.ref) (c.map pairDat)
  | [], [], _, _ => .nil
  | [], _ :: _, h, _ => by cases h
  | _ :: _, [], h, _ => by cases h
  | a :: as, p :: c, hl, hj => by
    obtain ⟨t, u, hm⟩ := hj 0 a p rfl rfl
    rw [List.map_cons, List.map_cons]
    exact .cons (.tuple (vs := [.str p.1 t, .int p.2 u]) hm (.cons (.str _ _) (.cons (.int _ _) .nil))) (dats_of_at (h := h) (c := c) (Nat.succ.inj hl) fun j a' p' ha hp => hj (j + 1) a' p' ha hp)
theorem list_items_of (hh : A.handled = none) (F : Fr h₀ L s.heap m) (N : News h₀ L s.heap news) (hv : (v, ({ cls := .type "dict_items", data := .fields #[.ref d] } : Obj)) ∈ news) (hm : (d, o) ∈ news) (hd : o.IsDictOf (PySem.strKind prog w) kvs) (hf : FlatPairs PyData.str kvs (kdpD c)) (hn : c.length ≤ 1000)
    (h : ∀ (B : Addr) cc h' tk vs nw, Fr h₀ L h' m → News h₀ L h' ((B, W.listOf (List.toArray vs) cc) :: (nw ++ news)) → DatAll nw vs (c.map pairDat) → Q (.ref B) { s with heap := h', toks := tk }) :
    wpAny (model prog w) A (call (.type "list") [.ref v]) Q E s := by
  obtain ⟨ep, hat⟩ := KdkAt.of hd
  have hlen : kvs.length = c.length := by rw [← hf.length, kdpD_length]
  refine kdx_call (knd := PySem.strKind prog w) (kvs := kvs) (ep := ep) hh ⟨_, (N _ hv).1, rfl, rfl⟩ (hat.dictAt (N _ hm).1) (kdl_size (by omega)) fun h' tk acc cc as hk hS hl hG hacc => ?_
  have ea : acc = (as.map Value.ref).toArray := by rw [← hacc, Array.toArray_toList]
  have look : ∀ (j : Nat) (a : Addr), as[j]? = some a → ∃ (p : Str × Int) (t u : Tok), c[j]? = some p ∧ h'.get? a = some { cls := .type "tuple", data := .seq #[.str p.1 t, .int p.2 u] } := by
    intro j a ha
    obtain ⟨key, k, x, e1, e2, e3⟩ := hG.pairs j a ha
    obtain ⟨n, t, hc, rfl⟩ := flat_at hf e1
    obtain ⟨tk, rfl⟩ := Value.isStrOf_shape e2
    exact ⟨(k, n), tk, t, hc, e3⟩
  have hnw : ∀ p ∈ as.map (fun a => (a, (h'.get? a).getD { cls := .type "tuple", data := .seq #[] })), h'.get? p.1 = some p.2 ∧ p.1 ≠ L ∧ h₀.get? p.1 = none := by
    intro p hp
    obtain ⟨a, ha, rfl⟩ := List.mem_map.mp hp
    obtain ⟨j, hj⟩ := List.mem_iff_getElem?.mp ha
    obtain ⟨q, t, u, -, e⟩ := look j a hj
    refine ⟨by dsimp only; rw [e]; rfl, kdx_fresh F (Nat.le_of_lt (hG.above _ ha))⟩
  refine h _ cc h' tk (as.map Value.ref) (as.map (fun a => (a, (h'.get? a).getD { cls := .type "tuple", data := .seq #[] }))) (F.keeps hk) (fun q hq => ?_) (dats_of_at (h := h') (c := c) (by omega) fun j a p ha hp => ?_)
  · rcases List.mem_cons.mp hq with rfl | hq
    · exact ⟨by rw [← ea]; exact hS, kdx_fresh F (Nat.le_refl _)⟩
    · rcases List.mem_append.mp hq with hq | hq
      · exact hnw q hq
      · exact ⟨hk _ _ (N q hq).1, (N q hq).2⟩
  · obtain ⟨q, t, u, hc, e⟩ := look j a ha
    rw [hc] at hp
    cases Option.some.inj hp
    exact ⟨t, u, List.mem_map.mpr ⟨a, List.mem_of_getElem? ha, by rw [e]; rfl⟩⟩
theorem keq_rows_self (c : List (Str × Int)) (hn : (c.map (·.1)).Nodup) : KeqRows (kdpD c) (kdpD c) true := by
  have look : ∀ (c : List (Str × Int)), (c.map (·.1)).Nodup → ∀ p ∈ c, PySem.Spec.lookup (PyData.str p.1) (kdpD c) = some (.int p.2) := by
    intro c hn p hp
    rw [kdpD_lookup]
    have : c.find? (fun q => decide (q.1 = p.1)) = some p := by
      induction c with
      | nil => cases hp
      | cons q r ih =>
        rw [List.map_cons, List.nodup_cons] at hn
        rw [List.find?_cons]
        rcases List.mem_cons.mp hp with rfl | hp
        · simp
        · have : q.1 ≠ p.1 := fun e => hn.1 (e ▸ List.mem_map_of_mem hp)
          rw [decide_eq_false this]
          exact ih hn.2 hp
    rw [this]; rfl
  have gen : ∀ r : List (Str × Int), (∀ p ∈ r, PySem.Spec.lookup (PyData.str p.1) (kdpD c) = some (.int p.2)) → KeqRows (kdpD c) (kdpD r) true := by
    intro r
    induction r with
    | nil => intro _; exact .nil
    | cons p r ih =>
      intro hr
      have := KeqRows.hit (v := .int p.2) (hr p (.head _)) (ih fun q hq => hr q (.tail _ hq))
      have e : (PyData.eqv (.int p.2) (.int p.2) && true) = true := by simp [PyData.eqv]
      rw [e] at this
      exact this
  exact gen c (look c hn)
theorem dict_eq_self {a b : Addr} {oa ob : Obj} {ka kb : List (Str × Value)} (N : News h₀ L s.heap news) (ha : (a, oa) ∈ news) (hb : (b, ob) ∈ news) (la : (a == sysModules) = false) (lb : (b == sysModules) = false)
    (da : oa.IsDictOf (PySem.strKind prog w) ka) (fa : FlatPairs PyData.str ka (kdpD c)) (db : ob.IsDictOf (PySem.strKind prog w) kb) (fb : FlatPairs PyData.str kb (kdpD c)) (hu : A.units < cLine) (h : Q (.bool true) s) :
    wpAny (model prog w) A (compareOp .Eq (.ref a) (.ref b)) Q E s := by
  have hn : (c.map (·.1)).Nodup := by
    obtain ⟨_, _, _, _, _, _, hn⟩ := da
    have e : ka.map (·.1) = c.map (·.1) := by
      refine List.ext_getElem? fun j => ?_
      rw [List.getElem?_map, List.getElem?_map]
      cases q : ka[j]? with
      | none =>
        have h1 := fa.length
        rw [kdpD_length] at h1
        have := List.getElem?_eq_none_iff.mp q
        rw [List.getElem?_eq_none_iff.mpr (show c.length ≤ j by omega)]; rfl
      | some p =>
        obtain ⟨n, t, hc, -⟩ := flat_at fa q
        rw [hc]; rfl
    rw [← e]; exact hn
  exact keq_tabs (knd := PySem.strKind prog w) (enc := PyData.str) PyProof.V.same_str (TabAt.ofNews N ha la da fa) (TabAt.ofNews N hb lb db fb) rfl hu (keq_rows_self c hn) h
end
theorem news_rot {h₀ h : Heap} {L : Addr} {x : Addr × Obj} {nw base : List (Addr × Obj)} (N : News h₀ L h (x :: (nw ++ base))) : News h₀ L h (x :: (base ++ nw)) := fun p hp => N p (by
  rcases List.mem_cons.mp hp with rfl | hp
  · exact .head _
  · rcases List.mem_append.mp hp with hp | hp
    · exact .tail _ (List.mem_append_right _ hp)
    · exact .tail _ (List.mem_append_left _ hp))
theorem pair_ok {c : List (Str × Int)} (h : ∀ p ∈ c, Abc p.1) : ∀ d ∈ c.map pairDat, kqdOk 8 d = true := by
  intro d hd
  obtain ⟨p, hp, rfl⟩ := List.mem_map.mp hd
  have := abc_ok (h p hp)
  simp [pairDat, kqdOk, this]
section
variable {prog : Program} {w : World} {A : Around} {E : Value → Shared → Prop} {s : Shared} {h₀ : Heap} {L : Addr} {m : Str → Option Value} {news : List (Addr × Obj)}
theorem applied_to2 {sl : Addr} {u : Tok} {Q : Int × Int × Nat → Shared → Prop} (hs : s.heap.IsSliceOf sl .none (.int 2 u) .none) (h : Q (0, 1, 2) s) :
    wpAny (model prog w) A (Builtin.Slice.sliceApplied (.ref sl) (pure (5 : Int))) Q E s := by
  obtain ⟨os, hos, hcs, hds⟩ := id hs
  unfold Builtin.Slice.sliceApplied Builtin.Slice.sliceFields
  refine wpAny_bind (wpAny_bind (wpAny_field hos hds (x := .none) rfl (wpAny_bind (wpAny_field hos hds (x := .int 2 u) rfl (wpAny_bind (wpAny_field hos hds (x := .none) rfl (wpAny_pure ?_)))))))
  refine wpAny_bind (slicePart_none ?_)
  show wpAny _ _ (if ((1 : Int) == 0) = true then _ else _) _ _ s
  rw [if_neg (by decide)]
  refine wpAny_bind (slicePart_none (wpAny_bind (slicePart_int (wpAny_bind (wpAny_pure ?_)))))
  exact wpAny_pure h
theorem getItem_two {t sl : Addr} {x0 x1 x2 x3 x4 : Value} {u : Tok} {Q : Value → Shared → Prop} (ht : IsTup s.heap t #[x0, x1, x2, x3, x4]) (hs : s.heap.IsSliceOf sl .none (.int 2 u) .none)
    (h : Q (.ref s.heap.objs.size) { s with heap := s.heap.push { cls := .type "tuple", data := .seq #[x0, x1] } }) : wpAny (model prog w) A (getItem (.ref t) (.ref sl)) Q E s := by
  have hdrop : sizeOk (.seq (#[x0, x1] : Array Value)) := by
    show (2 : Nat) ≤ sizeLine
    rw [sizeLine_eq]; decide
  obtain ⟨os, hos, hcs, hds⟩ := id hs
  have hTs : s.TypeIs (.ref sl) "slice" := ⟨os, hos, hcs⟩
  unfold getItem
  try with_reducible refine wpAny_holding ?_
  first | refine wpAny_bind (wpAny_pure ?_) | skip
  refine wpAny_bind (wpAny_sequenceKey ht.typeIs (by decide) ?_)
  refine wpAny_bind (wpAny_callSpecial?_slot (name := Str.ofString "__getitem__") ht.typeIs slot_tuple_getitem
    (wpAny_call_entry slot_tuple_getitem ht.typeIs entry_tuple_getitem ?_ (args_tuple_getitem _ _)))
  show wpAny _ _ (Builtin.Tuple.tupleItemsOf (.ref t) >>= _) _ _ s
  refine wpAny_bind (tupleItemsOf_ ht ?_)
  refine wpAny_bind (wpAny_typeOf hTs ?_)
  rw [if_pos (by decide)]
  refine wpAny_bind (applied_to2 hs ?_)
  show wpAny _ _ (if ((0 : Int) == 0 && (1 : Int) == 1 && (2 : Nat) == 5) = true then _ else _) _ _ s
  rw [if_neg (by decide)]
  have e : ((List.range 2).filterMap fun (k : Nat) => (#[x0, x1, x2, x3, x4] : Array Value)[((0 : Int) + (k : Int) * 1).toNat]?).toArray = #[x0, x1] := by rfl
  rw [e]
  first
    | exact wpAny_bind (m := Builtin.Tuple.tupleExact _) (wpAny_newObj_type (wpAny_pure ⟨_, rfl, wpAny_pure h⟩) hdrop)
    | exact wpAny_bind (m := Builtin.Tuple.tupleExact _) (wpAny_newObj_type (wpAny_bind (wpAny_pure (wpAny_pure ⟨_, rfl, wpAny_pure h⟩))) hdrop)
    | exact wpAny_bind (wpAny_bind (m := Builtin.Tuple.tupleExact _) (wpAny_newObj_type (wpAny_pure (wpAny_pure ⟨_, rfl, wpAny_pure h⟩)) hdrop))
    | exact wpAny_bind (wpAny_bind (m := Builtin.Tuple.tupleExact _) (wpAny_newObj_type (wpAny_pure ⟨_, rfl, wpAny_pure h⟩) hdrop))
theorem slice_two {value slice : PySem.Expr} {t : Addr} {x0 x1 x2 x3 x4 : Value} {u : Tok} {Q : Value → Shared → Prop}
    (F : Fr h₀ L s.heap m) (N : News h₀ L s.heap news) (hm : (t, ({ cls := .type "tuple", data := .seq #[x0, x1, x2, x3, x4] } : Obj)) ∈ news)
    (h : ∀ D h', Fr h₀ L h' m → News h₀ L h' ((D, ({ cls := .type "tuple", data := .seq #[x0, x1] } : Obj)) :: news) → (∀ p ∈ news, p.1 < D) → Q (.ref D) { s with heap := h' })
    (hs : subscripted slice false (.ref t) (.ref s.heap.objs.size) = operate [.ref s.heap.objs.size, .ref t] (getItem (.ref t) (.ref s.heap.objs.size)))
    (hg : ∀ r, letTemporaryGo value (.ref t) r = pure ()) :
    wpAny (model prog w) A (subscriptTail value slice (.ref t) (.ref s.heap.objs.size)) Q E { s with heap := s.heap.push { cls := .type "slice", data := .fields #[.none, .int 2 u, .none] } } := by
  have ht' : IsTup (s.heap.push { cls := .type "slice", data := .fields #[.none, .int 2 u, .none] }) t #[x0, x1, x2, x3, x4] := ⟨_, Heap.get?_push_of_some _ (N _ hm).1, rfl, _, rfl⟩
  refine subscriptTail_ops (s := { s with heap := s.heap.push { cls := .type "slice", data := .fields #[.none, .int 2 u, .none] } }) ht'.typeIs slot_tuple_getitem.lookup
    (getItem_two ht' (Heap.IsSliceOf.new ..) ?_) hs hg
  have N1 := News.push (F.push { cls := .type "slice", data := .fields #[.none, .int 2 u, .none] }) (N.grown fun _ _ e => Heap.get?_push_of_some _ e) { cls := .type "tuple", data := .seq #[x0, x1] }
  rw [Heap.size_push] at N1
  show Q (.ref (s.heap.push _).objs.size) _
  rw [Heap.size_push]
  exact h _ _ ((F.push _).push _) N1 fun p hp => Nat.lt_succ_of_lt (Heap.lt_size (N p hp).1)
end
section
variable {prog : Program} {w : World} {A : Around} {E : Value → Shared → Prop} {s : Shared} {h₀ : Heap} {L a b : Addr} {m : Str → Option Value} {news : List (Addr × Obj)} {Q : Value → Shared → Prop} {x y x' y' : Int} {t u t' u' : Tok}
theorem pair_ne (hx : x = x') (hy : y = y') (N : News h₀ L s.heap news) (m1 : (a, ({ cls := .type "tuple", data := .seq #[.int x t, .int y u] } : Obj)) ∈ news) (m2 : (b, ({ cls := .type "tuple", data := .seq #[.int x' t', .int y' u'] } : Obj)) ∈ news)
    (hu : A.units + 64 < cLine) (h : Q (.bool false) s) : wpAny (model prog w) A (compareOp .NotEq (.ref a) (.ref b)) Q E s := by
  subst hx hy
  have hs : SeqAt.shaped (.tuple [.int x, .int y]) = true := by rfl
  refine ne_dataH (Reads.tuple (xs := [.int x, .int y]) (N _ m1).1 rfl rfl (ReadsAll.cons (.int _ _) (ReadsAll.cons (.int _ _) .nil))) (Reads.tuple (xs := [.int x, .int y]) (N _ m2).1 rfl rfl (ReadsAll.cons (.int _ _) (ReadsAll.cons (.int _ _) .nil))) hs hs hu ?_
  simpa [PyData.eqv, PyData.eqvAll] using h
end
section
variable {prog : Program} {w : World} {A : Around} {h₀ : Heap} {L : Addr} {m : Str → Option Value} {env : Env} {ct elt : PySem.Expr} {x : Str} {scope : Scope} {cl : List (Str × Addr)} {s : Shared} {P : Nat → Value → Prop} {Fin : List Value → List (Addr × Obj) → Prop} {S : List (Addr × Obj) → Prop}
/-- a filter of the ledger's own list -/
theorem turnsF {n : Nat} {base : List (Addr × Obj)} (J : Nat → List Value → Prop) (hS : S base)
    (turn : ∀ i ys v I oI C oC D m₂ h tk (E' : Value → Shared → Prop), i < n → J i ys → P i v → LCg.NsObj oC m₂ → m₂ x = some v → Fr h₀ L h m → News h₀ L h ((I, oI) :: (C, oC) :: (D, LCg.lst ys) :: base) →
      wpAny (model prog w) A (isTrue ct (compEnvC scope cl C env) (eval ct (compEnvC scope cl C env))) (fun ok s' => (∃ tk', s' = { s with heap := h, toks := tk' }) ∧ if ok = true then
        wpAny (model prog w) A (eval elt (compEnvC scope cl C env)) (fun y s₂ => (∃ tk', s₂ = { s with heap := h, toks := tk' }) ∧ J (i + 1) (ys ++ [y])) E' s'
        else J (i + 1) ys) E' { s with heap := h, toks := tk })
    (fin : ∀ ys, J n ys → Fin ys base) (h0 : J 0 []) : LCt.CompRestT prog w A h₀ L m env ct elt x scope cl s S P Fin n 0 [] base := by
  have gen : ∀ k i, i + k = n → ∀ ys, J i ys → LCt.CompRestT prog w A h₀ L m env ct elt x scope cl s S P Fin k i ys base := by
    intro k
    induction k with
    | zero =>
      intro i hi ys hJ
      obtain rfl : i = n := hi
      exact fin ys hJ
    | succ k ih =>
      intro i hi ys hJ
      refine LCt.CompRestT.succ fun v I oI C oC D m₂ h tk E' hP hC hx F N off ne => ?_
      refine wpAny_mono (turn i ys v I oI C oC D m₂ h tk E' (by omega) hJ hP hC hx F N) (fun ok s' h' => ?_) fun _ _ e => e
      obtain ⟨⟨tk', rfl⟩, h'⟩ := h'
      cases ok with
      | true =>
        simp only [if_true] at h' ⊢
        refine wpAny_mono h' (fun y s₂ h₂ => ?_) fun _ _ e => e
        obtain ⟨⟨tk2, rfl⟩, hJ'⟩ := h₂
        exact ⟨h, tk2, base, rfl, F, N, off, hS, ih (i + 1) (by omega) _ hJ'⟩
      | false =>
        simp only [Bool.false_eq_true, if_false] at h' ⊢
        exact ⟨h, tk', base, rfl, F, N, off, hS, ih (i + 1) (by omega) _ h'⟩
  exact gen n 0 (by omega) [] h0
end
theorem abc_plain {x : Str} (h : x.length ≤ 5 ∧ Abc x) : Plain x := ⟨by omega, fun hc => by have := h.2 _ hc; omega⟩
open PySem.Builtin.Str in
theorem occ_inB (G x : Str) : (!(occurrences G x 0 G.length 1).isEmpty) = inB (lst x) (lst G) := by
  have h := find3_after G x 0 (by omega) (by omega)
  have e : fromIndex G.length 0 = 0 := by unfold fromIndex; rw [if_neg (by omega)]; omega
  have hf : Txt.find3 G x 0 = match occurrences G x 0 G.length 1 with | k :: _ => (k : Int) | [] => -1 := by
    unfold Txt.find3; rw [e]
    cases occurrences G x 0 G.length 1 <;> rfl
  rw [show (lst G).drop (0 : Int).toNat = lst G from rfl] at h
  unfold inB
  cases ha : after (lst x) (lst G) with
  | none =>
    rw [ha] at h
    dsimp only at h
    rw [hf] at h
    cases ho : occurrences G x 0 G.length 1 with
    | nil => rfl
    | cons k r => rw [ho] at h; exact absurd (Int.natCast_nonneg k) (Int.not_le.mpr h)
  | some q =>
    rw [ha] at h
    dsimp only at h
    have h1 := h.1
    rw [hf] at h1
    cases ho : occurrences G x 0 G.length 1 with
    | nil => rw [ho] at h1; exact absurd h1 (by decide)
    | cons k r => rfl
theorem strs_snoc {vs : List Value} {xs : List Str} (h : StrsAre vs xs) (x : Str) (t : Tok) : StrsAre (vs ++ [.str x t]) (xs ++ [x]) := h.append' (.cons _ _ .nil)
end
theorem reset_C16 {M : Model} {A : Around} {E : Value → Shared → Prop} {Q : Flow → Shared → Prop} {s : Shared} {env : Env} (h : Q .next s) : wpAny M A (execs [] env) Q E s := by
  w_top off
  walk1
  w_top off
  exact h
section
section
local macro_rules | `(tactic| walk_at "call ref") => `(tactic| (refine hold_in ?_))
local macro_rules | `(tactic| walk_at "call type:list") => `(tactic| (refine hold_in ?_))
local macro_rules | `(tactic| walk_at "compareOp NotEq ref ref") => `(tactic| (refine hold_in ?_))
local macro_rules | `(tactic| walk_at "compareOp Eq ref ref") => `(tactic| (refine hold_in ?_))
local macro_rules | `(tactic| walk_at "subscriptTail") => `(tactic| (k_here; (with_reducible show wpAny _ _ (subscriptTail _ (PySem.Expr.Slice _ _ _ _) _ _) _ _ _); (refine hold_in ?_)))
local macro_rules | `(tactic| walk_at "compareOp NotEq int int") => `(tactic| (refine ne_int ?_; rw [bne_self_eq_false]))
local macro_rules | `(tactic| walk_at "eval ListComp") => `(tactic| (refine hold_in ?_))
local macro_rules | `(tactic| walk_at "compareOp In str str") => `(tactic| (refine hold_in ?_))
theorem law_room : callerA.depth + 1 + 60 < recursionLimit ∧ callerA.units + 3 + 600 < cLine := by constructor <;> decide +kernel
theorem law_walk (pure_law : ∀ wd pt, Drawn wd pt → LawOk wd pt) : PySem.Challenge.rw_pm0056_01.Holds := hd (by
  k_go0
  all_goals try k_fold
  k_steps
  unfold Hold
  rename Fr _ _ _ _ => F
  rename IntsAre _ _ => hI
  rename Heap.IsList _ _ _ => hL
  rename Shared => s₁
  rename Frag.In _ _ => KX
  rename Top _ _ _ _ _ _ => T
  rename Below _ _ _ _ => K0
  rename ¬ _ < _ => hlen
  rename_i o1 d1 N0 X0
  clear X0
  k_dflt (refine' drawn_use F N0 KX T ?hdp ?hun hL hI ?hnl ?_)
  case hdp => have := law_room.1; omega
  case hun => have := law_room.2; omega
  case hnl => omega
  intro Tp wd pt t1 t2 h2 tk2 F2 N2 A2 hD
  clear F N0
  k_steps
  unfold Hold
  rename Fr _ _ _ _ => F
  rename News _ _ _ _ => N
  rename (_ = Data.cell (some (Value.str pt t2))) => dP
  rename_i hq oP
  obtain ⟨LA, hdl, hpt⟩ := And.intro (pure_law wd pt hD) (And.intro (show wd.length ≤ 20 by rcases hD.len with h | h <;> omega) trivial)
  k_dflt (refine' summed_use F N KX T ?hdp ?hun hdl ?_)
  case hdp => have := law_room.1; omega
  case hun => have := law_room.2; omega
  intro Te a o kvs h3 tk3 v1 v2 v3 v4 F3 N3 A3 B3 hTa hlo hdz hfz
  clear F N
  k_steps
  unfold Hold
  rename Fr _ _ _ _ => F
  rename News _ _ _ _ => N
  simp only [List.cons_append, List.nil_append] at N
  have hcl : (sumC wd (wd.length + 1)).cal.length ≤ 50 := by have := LA.len; rwa [List.length_map] at this
  k_dflt (refine' list_keys_of rfl F N (.tail _ (.head _)) hdz hfz hlo (by omega) ?_)
  intro B1 cc1 h4 tk4 vs1 F4 N4 l1 hk1
  clear F N
  k_steps
  unfold Hold
  rename Fr _ _ _ _ => F
  rename News _ _ _ _ => N
  k_dflt (refine' list_items_of rfl F N (.head _) (.tail _ (.tail _ (.tail _ (.head _)))) hdz hfz (by omega) ?_)
  intro B2 cc2 h5 tk5 vs2 nw2 F5 N5 hk2
  have N5 := news_rot N5
  simp only [List.cons_append, List.nil_append] at N5
  clear F N
  k_steps
  unfold Hold
  rename Fr _ _ _ _ => F
  rename News _ _ _ _ => N
  k_dflt (refine' listed_use F N KX T ?hdp ?hun hdl hD.abc ?_)
  case hdp => have := law_room.1; omega
  case hun => have := law_room.2; omega
  intro B3 vs3 nw3 h6 tk6 F6 N6 hk3
  have N6 := news_rot N6
  simp only [List.cons_append, List.nil_append] at N6
  rw [← LA.cal] at hk3
  clear F N
  k_steps
  unfold Hold
  rename Fr _ _ _ _ => F
  rename News _ _ _ _ => N
  have hpo := pair_ok (c := (sumC wd (wd.length + 1)).cal) fun p hp => (LA.abc _ (List.mem_map_of_mem hp)).2
  k_dflt (refine' kqd_ne N (.tail _ (.head _)) rfl rfl hk2 (fun p hp => by simp [hp]) (.head _) rfl rfl hk3 (fun p hp => by simp [hp]) hpo hpo ?hu ?_)
  case hu => have := law_room.2; show callerA.units + 3 + 64 < cLine; omega
  simp only [decide_true, Bool.not_true]
  have N7 : News s₁.heap s₁.heap.objs.size h6 [(B1, W.listOf vs1.toArray cc1), (Te, tup [Value.int (sumC wd (wd.length + 1)).cc v1, Value.int (sumC wd (wd.length + 1)).nc v2, Value.int 0 v3, Value.int 0 v4, Value.ref a]), (a, o), (Tp, tup [Value.str wd t1, Value.str pt t2]), (s₁.heap.objs.size + 1, oP)] := fun p hp => N p (by simp only [List.mem_cons, List.not_mem_nil, or_false] at hp ⊢; rcases hp with h | h | h | h | h <;> simp [h])
  clear N
  simp only [tup] at N7
  k_steps
  unfold Hold
  rename Fr _ _ _ _ => F
  k_dflt (refine' slice_two F N7 (.tail _ (.head _)) ?_ ?hs ?hg)
  case hs => with_unfolding_all rfl
  case hg => intro _; with_unfolding_all rfl
  intro D8 h8 F8 N8 l8
  k_lt l8
  clear F N7
  k_steps
  unfold Hold
  rename Fr _ _ _ _ => F
  rename News _ _ _ _ => N
  k_dflt (refine' pair_ne LA.cc LA.nc N (.tail _ (.head _)) (.head _) ?hu ?_)
  case hu => have := law_room.2; show callerA.units + 3 + 64 < cLine; omega
  k_steps
  unfold Hold
  k_dflt (refine' count_calls_use F N KX T ?hdp ?hun (TabAt.ofNews N (.tail _ (.tail _ (.tail _ (.tail _ (.head _))))) hlo hdz hfz) ?_)
  case hdp => have := law_room.1; omega
  case hun => have := law_room.2; omega
  intro h9 tk9 t9 F9 N9
  rw [LA.sum]
  clear F N
  k_steps
  unfold Hold
  have N10 : News s₁.heap s₁.heap.objs.size h9 [(B1, W.listOf vs1.toArray cc1), (a, o), (s₁.heap.objs.size + 1, oP)] := fun p hp => N9 p (by simp only [List.mem_cons, List.not_mem_nil, or_false] at hp ⊢; rcases hp with h | h | h <;> simp [h])
  clear N9
  k_dflt (refine' signs_use F9 N10 KX T ?hdp ?hun ⟨_, (N10 _ (.head _)).1, rfl, _, rfl⟩ hk1 ?hn ?hp ?hpp ?_)
  case hdp => have := law_room.1; omega
  case hun => have := law_room.2; omega
  case hn => have := LA.len; omega
  case hp => exact fun x hx => abc_plain (LA.abc x hx)
  case hpp => exact abc_plain LA.pabc
  intro as os kvs2 h11 tk11 F11 N11 A11 hlo2 hdz2 hfz2
  have hsl : (signsC pt ((sumC wd (wd.length + 1)).cal.map (·.1))).length ≤ 50 := by
    have e := congrArg List.length LA.keys
    rw [List.length_map] at e
    have h1 := List.length_filter_le (fun t => inB (lst pt) (lst t)) ((sumC wd (wd.length + 1)).cal.map (·.1))
    have h2 := LA.len
    omega
  clear F9 N10
  k_steps
  unfold Hold
  rename Fr _ _ _ _ => F
  rename News _ _ _ _ => N
  k_dflt (refine' list_keys_of rfl F N (.head _) hdz2 hfz2 hlo2 (by omega) ?_)
  intro B4 cc4 h12 tk12 vs4 F12 N12 l12 hk4
  clear F N
  k_steps
  unfold Hold
  k_dflt (refine' LCt.ListComp_T F12 ?a3 ?a4 ?a5 ?a6 ?a7 ?_ ?a8; (case a3 => with_unfolding_all rfl); (case a4 => decide); (case a5 => rfl); (case a6 => decide); (case a7 => rfl); (case a8 => intro _; rfl))
  k_steps
  refine LCt.CompSrcT.ledger rfl F12 N12 (.tail _ (.tail _ (.head _))) (by have := LA.len; have := hk1.length; rw [List.length_map] at *; show vs1.length ≤ sizeLine; rw [sizeLine_eq]; omega) ?_
  intro g
  refine turnsF (fun i ys => StrsAre ys ((((sumC wd (wd.length + 1)).cal.map (·.1)).take i).filter fun t => inB (lst pt) (lst t))) (.inr ⟨_, .tail _ (.tail _ (.head _)), rfl, _, rfl⟩) ?_ ?_ .nil
  · intro i ys v I oI C oC D m₂ h13 tk13 E' hi hJ hv hC hx F13 N13
    clear F12 N12
    obtain ⟨y, t, rfl, hy⟩ := hk1.item i v (by simpa using hv)
    have hfl : (((sumC wd (wd.length + 1)).cal.map (·.1)).take (i + 1)).filter (fun t => inB (lst pt) (lst t)) = (((sumC wd (wd.length + 1)).cal.map (·.1)).take i).filter (fun t => inB (lst pt) (lst t)) ++ (if inB (lst pt) (lst y) = true then [y] else []) := by
      rw [List.take_add_one, hy, List.filter_append]
      congr 1
      simp only [Option.toList_some, List.filter_cons, List.filter_nil]
    k_steps
    unfold Hold
    refine PyProof.Rows.in_str ?_
    rw [occ_inB]
    by_cases hin : inB (lst pt) (lst y) = true
    · rw [if_pos hin] at hfl
      simp only [hin]
      k_steps
      rw [hfl]
      exact strs_snoc hJ _ _
    · rw [if_neg hin, List.append_nil] at hfl
      simp only [hin]
      k_steps
      rw [hfl]
      exact hJ
  · intro ys hys D h13 tk13 F13 N13 o13
    clear F12 N12
    dsimp only
    rw [List.take_of_length_le (by have := hk1.length; show _ ≤ vs1.length; omega), ← LA.keys] at hys
    k_steps
    unfold Hold
    rename Fr _ _ _ _ => F
    rename News _ _ _ _ => N
    have hso : ∀ d ∈ ((signsC pt ((sumC wd (wd.length + 1)).cal.map (·.1))).map (·.1)).map Dat.str, kqdOk 8 d = true := by
      rw [LA.keys]
      intro d hd
      obtain ⟨x, hx, rfl⟩ := List.mem_map.mp hd
      exact abc_ok (LA.abc x (List.mem_filter.mp hx).1).2
    k_dflt (refine' kqd_ne (n₁ := []) (n₂ := []) N (.tail _ (.head _)) rfl rfl (strs_dats hk4) (fun p hp => nomatch hp) (.head _) rfl rfl (strs_dats hys) (fun p hp => nomatch hp) hso hso ?hu ?_)
    case hu => have := law_room.2; show callerA.units + 3 + 64 < cLine; omega
    simp only [decide_true, Bool.not_true]
    have N14 : News s₁.heap s₁.heap.objs.size h13 [(as, os), (B1, W.listOf vs1.toArray cc1), (s₁.heap.objs.size + 1, oP)] := fun p hp => N p (by simp only [List.mem_cons, List.not_mem_nil, or_false] at hp ⊢; rcases hp with h | h | h <;> simp [h])
    clear N
    obtain ⟨bk, hbk, hsome, hdue⟩ := LA.bord
    k_steps
    unfold Hold
    rename Fr _ _ _ _ => F
    k_dflt (refine' list_keys_of rfl F N14 (.head _) hdz2 hfz2 hlo2 (by omega) ?_)
    intro B6 cc6 h15 tk15 vs6 F15 N15 l15 hk6
    clear F N14
    k_steps
    unfold Hold
    k_dflt (refine' borders_use (pushX K0 F15 rfl rfl) F15 N15 KX T ?hdp ?hun ⟨_, (N15 _ (.tail _ (.tail _ (.head _)))).1, rfl, _, rfl⟩ hk1 ?hn LA.abc hbk ?_)
    case hdp => have := law_room.1; omega
    case hun => have := law_room.2; omega
    case hn => have := LA.len; omega
    intro h16 tk16 x d l t0 n1 n2 hs es led F16 N16 BK he hv
    clear F15 N15
    k_steps
    unfold Hold
    have hsab : ∀ x ∈ (signsC pt ((sumC wd (wd.length + 1)).cal.map (·.1))).map (·.1), x.length ≤ 5 ∧ Abc x := by
      rw [LA.keys]
      exact fun x hx => LA.abc x (List.mem_filter.mp hx).1
    k_dflt (refine' due_use F16 N16 KX T ?hdp ?hun BK hv (List.mem_append_right _ (.head _)) hk6 ?hn hsab LA.pabc.1 LA.pabc.2 ?hso ?_)
    case hdp => have := law_room.1; omega
    case hun => have := law_room.2; omega
    case hn => rw [List.length_map]; omega
    case hso => rw [he]; exact hsome
    intro h17 tk17 a' o' kvs' F17 N17 A17 hlo' hdz' hfz'
    rw [he, hdue] at hfz'
    k_steps
    unfold Hold
    k_dflt (refine' dict_eq_self N17 (.tail _ (List.mem_append_right _ (.tail _ (.head _)))) (.head _) hlo2 hlo' hdz2 hfz2 hdz' hfz' ?hu ?_)
    case hu => have := law_room.2; show callerA.units + 3 < cLine; omega
    k_steps)
end
end
theorem reset_C17 {M : Model} {A : Around} {E : Value → Shared → Prop} {Q : Flow → Shared → Prop} {s : Shared} {env : Env} (h : Q .next s) : wpAny M A (execs [] env) Q E s := by
  w_top off
  walk1
  w_top off
  exact h
section
namespace PT
abbrev W := List Nat
abbrev C := List (W × Int)
abbrev B := W × W
def eqL : W → W → Bool
  | [], [] => true
  | a :: r, b :: s => Nat.beq a b && eqL r s
  | _, _ => false
def put (c : C) (k : W) (v : Int) : C := if c.any (fun p => eqL p.1 k) then c.map (fun p => if eqL p.1 k then (p.1, v) else p) else c ++ [(k, v)]
def look (c : C) (k : W) (d : Int) : Int := ((c.find? fun p => eqL p.1 k).map (·.2)).getD d
def copy (c : C) : C := c.foldl (fun a p => put a p.1 p.2) []
def add (a c : C) : C := c.foldl (fun a p => put a p.1 (look a p.1 0 + p.2)) a
def sumv (c : C) : Int := (c.map (·.2)).sum
def slice (w : W) (a b : Nat) : W := (w.drop a).take (b - a)
def ends (w : W) (place : Nat) : Nat → C
  | 0 => []
  | k + 1 => put (ends w place k) (slice w (place - k) place) 1
structure S where
  cc : Int
  nc : Int
  cal : C
def sum (w : W) : Nat → S
  | 0 => ⟨0, 0, []⟩
  | k + 1 => ⟨1 + (sum w k).cc, sumv (ends w k (k + 1)) + (sum w k).nc, add (copy (sum w k).cal) (ends w k (k + 1))⟩
def rowI (w : W) (i : Nat) : List W := (List.range (i + 1)).map fun j => slice w (i - j) i
def row (w : W) : Nat → List W
  | 0 => []
  | i + 1 => row w i ++ rowI w i
def memL (x : W) (l : List W) : Bool := l.any fun y => eqL x y
def cnt (x : W) : List W → Int
  | [] => 0
  | y :: r => (if eqL y x then 1 else 0) + cnt x r
def listed (rows : List W) : Nat → C
  | 0 => []
  | i + 1 => if memL (rows.getD i []) (rows.take i) then listed rows i else listed rows i ++ [(rows.getD i [], cnt (rows.getD i []) rows)]
def pre : W → W → Bool
  | [], _ => true
  | a :: r, b :: s => Nat.beq a b && pre r s
  | _ :: _, [] => false
def isIn (x : W) : W → Bool
  | [] => x.isEmpty
  | c :: t => pre x (c :: t) || isIn x t
def stepS (p : W) (c : C) (t : W) : C := if isIn p t then put c t (if eqL t p then 1 else -(sumv (copy (c.filter fun q => isIn q.1 t)))) else c
def signs (p : W) (ws : List W) : C := ws.foldl (stepS p) []
def get (bk : List B) (x : W) : Option W := (bk.find? fun e => eqL e.1 x).map (·.2)
def next (bk : List B) (text : W) (last : W) : Nat → W → Option W
  | 0, _ => none
  | f + 1, tail => if !tail.isEmpty && !(pre (tail ++ last) text) then (match get bk tail with | some t => next bk text last f t | none => none) else some tail
def bord (bk : List B) (text : W) : Option W :=
  if 1 < text.length then
    match get bk text.dropLast with
    | none => none
    | some t => match next bk text (text.drop (text.length - 1)) 10 t with
      | none => none
      | some tail => if pre (tail ++ text.drop (text.length - 1)) text then some (tail ++ text.drop (text.length - 1)) else some []
  else some []
def stepB (o : Option (List B)) (text : W) : Option (List B) :=
  match o with
  | none => none
  | some bk => match bord bk text with
    | none => none
    | some b => some (bk ++ [(text, b)])
def borders (ws : List W) : Option (List B) := ws.foldl stepB (some [])
def stepD (bk : List B) (part : W) (c : C) (t : W) : C :=
  if 1 < (t.length : Int) - part.length then
    if isIn ((get bk t).getD []) (t.drop 1).dropLast = true then put (put c t (1 - 2 * ((t.length : Int) - part.length))) t (if eqL (t.drop 1).dropLast part then 1 else 0)
    else put (put (put c t (1 - 2 * ((t.length : Int) - part.length))) t (if eqL (t.drop 1).dropLast part then 1 else 0)) t
      (look (put (put c t (1 - 2 * ((t.length : Int) - part.length))) t (if eqL (t.drop 1).dropLast part then 1 else 0)) t 0 + look (put (put c t (1 - 2 * ((t.length : Int) - part.length))) t (if eqL (t.drop 1).dropLast part then 1 else 0)) ((get bk t).getD []) 0)
  else put c t (1 - 2 * ((t.length : Int) - part.length))
def due (bk : List B) (part : W) (ws : List W) : C := ws.foldl (stepD bk part) []
def eqC : C → C → Bool
  | [], [] => true
  | (a, x) :: r, (b, y) :: s => eqL a b && (x == y) && eqC r s
  | _, _ => false
def eqLL : List W → List W → Bool
  | [], [] => true
  | a :: r, b :: s => eqL a b && eqLL r s
  | _, _ => false
def partOk (bk : List B) (keys : List W) (p : W) : Bool :=
  eqLL ((signs p keys).map (·.1)) (keys.filter fun t => isIn p t) && ((signs p keys).all fun q => (get bk q.1).isSome) && eqC (signs p keys) (due bk p ((signs p keys).map (·.1)))
def wordOk (w : W) : Bool :=
  eqC (sum w (w.length + 1)).cal (listed (row w (w.length + 1)) (row w (w.length + 1)).length) && ((sum w (w.length + 1)).cc == w.length + 1) && ((sum w (w.length + 1)).nc == (((w.length + 1) * (w.length + 2) / 2 : Nat) : Int)) &&
  (sumv (sum w (w.length + 1)).cal == (sum w (w.length + 1)).nc) && Nat.ble ((sum w (w.length + 1)).cal.map (·.1)).length 50 &&
  match borders ((sum w (w.length + 1)).cal.map (·.1)) with
  | none => false
  | some bk => (List.range (w.length + 1)).all fun place => (List.range (w.length + 1)).all fun width =>
      !(Nat.ble (place + width) w.length && Nat.ble w.length (width + 4) && Nat.ble (width + 2) w.length) || partOk bk ((sum w (w.length + 1)).cal.map (·.1)) (slice w place (place + width))
/-- words up to a renaming of their letters: each new letter is the next number -/
def canon : Nat → List (W × Nat)
  | 0 => [([], 0)]
  | n + 1 => (canon n).flatMap fun p => (List.range (min (p.2 + 1) 3)).map fun c => (p.1 ++ [c], max p.2 (c + 1))
theorem canon4 : ((canon 4).all fun p => wordOk p.1) = true := by decide +kernel
theorem canon5 : ((canon 5).all fun p => wordOk p.1) = true := by decide +kernel
end PT
end
theorem reset_C18 {M : Model} {A : Around} {E : Value → Shared → Prop} {Q : Flow → Shared → Prop} {s : Shared} {env : Env} (h : Q .next s) : wpAny M A (execs [] env) Q E s := by
  w_top off
  walk1
  w_top off
  exact h
section
namespace PT
theorem nbeq {a b : Nat} : Nat.beq a b = true ↔ a = b := ⟨Nat.eq_of_beq_eq_true, fun h => h ▸ Nat.beq_refl a⟩
theorem eqL_iff : ∀ {a b : W}, eqL a b = true ↔ a = b
  | [], [] => by simp [eqL]
  | [], _ :: _ => by simp [eqL]
  | _ :: _, [] => by simp [eqL]
  | a :: r, b :: s => by
    have ih := eqL_iff (a := r) (b := s)
    simp only [eqL, Bool.and_eq_true, nbeq, ih, List.cons.injEq]
theorem eqLL_iff : ∀ {a b : List W}, eqLL a b = true ↔ a = b
  | [], [] => by simp [eqLL]
  | [], _ :: _ => by simp [eqLL]
  | _ :: _, [] => by simp [eqLL]
  | a :: r, b :: s => by
    have ih := eqLL_iff (a := r) (b := s)
    simp only [eqLL, Bool.and_eq_true, eqL_iff, ih, List.cons.injEq]
theorem eqC_iff : ∀ {a b : C}, eqC a b = true ↔ a = b
  | [], [] => by simp [eqC]
  | [], _ :: _ => by simp [eqC]
  | _ :: _, [] => by simp [eqC]
  | (a, x) :: r, (b, y) :: s => by
    have ih := eqC_iff (a := r) (b := s)
    simp only [eqC, Bool.and_eq_true, eqL_iff, ih, beq_iff_eq, List.cons.injEq, Prod.mk.injEq]
theorem pre_eq : ∀ (x g : W), pre x g = x.isPrefixOf g
  | [], _ => rfl
  | _ :: _, [] => rfl
  | a :: r, b :: s => by
    show (Nat.beq a b && pre r s) = (a == b && r.isPrefixOf s)
    rw [pre_eq r s]
    congr 1
    rw [Bool.eq_iff_iff, nbeq, beq_iff_eq]
theorem pre_iff {x g : W} : pre x g = true ↔ x <+: g := by rw [pre_eq, List.isPrefixOf_iff_prefix]
theorem isIn_eq (x : W) : ∀ g : W, isIn x g = inB x g
  | [] => by
    show x.isEmpty = (if x = [] then some [] else none : Option (List Nat)).isSome
    cases x <;> rfl
  | c :: t => by
    have ih := isIn_eq x t
    show (pre x (c :: t) || isIn x t) = (if x.isPrefixOf (c :: t) = true then some ((c :: t).drop x.length) else after x t).isSome
    rw [pre_eq, ih]
    by_cases h : x.isPrefixOf (c :: t) = true
    · rw [if_pos h, h]; rfl
    · rw [if_neg h, Bool.eq_false_iff.mpr h]; rfl
section
variable {f : Nat → Nat}
theorem eqL_map (hf : ∀ a b, f a = f b → a = b) (a b : W) : eqL (a.map f) (b.map f) = eqL a b := by
  rw [Bool.eq_iff_iff, eqL_iff, eqL_iff]
  exact ⟨fun h => List.map_inj_right hf |>.mp h, fun h => h ▸ rfl⟩
theorem pre_map (hf : ∀ a b, f a = f b → a = b) : ∀ (a b : W), pre (a.map f) (b.map f) = pre a b
  | [], _ => rfl
  | _ :: _, [] => rfl
  | a :: r, b :: s => by
    show (Nat.beq (f a) (f b) && pre (r.map f) (s.map f)) = (Nat.beq a b && pre r s)
    rw [pre_map hf r s]
    congr 1
    rw [Bool.eq_iff_iff, nbeq, nbeq]
    exact ⟨hf a b, fun h => h ▸ rfl⟩
theorem isIn_map (hf : ∀ a b, f a = f b → a = b) (x : W) : ∀ g : W, isIn (x.map f) (g.map f) = isIn x g
  | [] => by show (x.map f).isEmpty = x.isEmpty; cases x <;> rfl
  | c :: t => by
    have ih := isIn_map hf x t
    show (pre (x.map f) ((c :: t).map f) || isIn (x.map f) (t.map f)) = (pre x (c :: t) || isIn x t)
    rw [ih, pre_map hf]
/-- the image of a text -/
def G (f : Nat → Nat) (x : Str) : W := (lst x).map f
def tr (f : Nat → Nat) (c : List (Str × Int)) : C := c.map fun p => (G f p.1, p.2)
theorem G_inj (hf : ∀ a b, f a = f b → a = b) {x y : Str} (h : G f x = G f y) : x = y := lst_inj ((List.map_inj_right hf).mp h)
theorem tr_inj (hf : ∀ a b, f a = f b → a = b) {c d : List (Str × Int)} (h : tr f c = tr f d) : c = d := by
  refine (List.map_inj_right (fun p q e => ?_)).mp h
  have e1 := congrArg Prod.fst e
  have e2 := congrArg Prod.snd e
  exact Prod.ext (G_inj hf e1) e2
theorem mapG_inj (hf : ∀ a b, f a = f b → a = b) {c d : List Str} (h : c.map (G f) = d.map (G f)) : c = d := (List.map_inj_right (fun _ _ e => G_inj hf e)).mp h
theorem eqG (hf : ∀ a b, f a = f b → a = b) (x y : Str) : eqL (G f x) (G f y) = decide (x = y) := by
  rw [Bool.eq_iff_iff, eqL_iff, decide_eq_true_eq]
  exact ⟨G_inj hf, fun h => h ▸ rfl⟩
theorem put_tr (hf : ∀ a b, f a = f b → a = b) (c : List (Str × Int)) (k : Str) (v : Int) : tr f (kdpPut c k v) = put (tr f c) (G f k) v := by
  have e : (tr f c).any (fun p => eqL p.1 (G f k)) = c.any (fun p => decide (p.1 = k)) := by
    unfold tr
    rw [List.any_map]
    congr 1
    funext p
    exact eqG hf p.1 k
  unfold kdpPut put
  rw [e]
  by_cases h : (c.any fun p => decide (p.1 = k)) = true
  · rw [if_pos h, if_pos h]
    unfold tr
    rw [List.map_map, List.map_map]
    congr 1
    funext p
    show ((G f (if decide (p.1 = k) = true then (p.1, v) else p).1, (if decide (p.1 = k) = true then (p.1, v) else p).2) : W × Int) = if eqL (G f p.1) (G f k) = true then (G f p.1, v) else (G f p.1, p.2)
    rw [eqG hf]
    split <;> rfl
  · rw [if_neg h, if_neg h]
    unfold tr
    rw [List.map_append]; rfl
theorem find_tr (hf : ∀ a b, f a = f b → a = b) (c : List (Str × Int)) (k : Str) : ((tr f c).find? fun p => eqL p.1 (G f k)).map (·.2) = (c.find? fun p => decide (p.1 = k)).map (·.2) := by
  unfold tr
  rw [List.find?_map, Option.map_map]
  have : ((fun p : W × Int => eqL p.1 (G f k)) ∘ fun p : Str × Int => (G f p.1, p.2)) = fun p => decide (p.1 = k) := by
    funext p
    exact eqG hf p.1 k
  rw [this]; rfl
theorem look_tr (hf : ∀ a b, f a = f b → a = b) (c : List (Str × Int)) (k : Str) (d : Int) : look (tr f c) (G f k) d = kdpLook c k d := by
  unfold look kdpLook
  rw [find_tr hf]
theorem foldl_tr {α β α' β' : Type} (g : α → α') (h : β → β') {F : α → β → α} {F' : α' → β' → α'} (e : ∀ a b, g (F a b) = F' (g a) (h b)) : ∀ (l : List β) (a : α), g (l.foldl F a) = (l.map h).foldl F' (g a)
  | [], _ => rfl
  | b :: l, a => by
    rw [List.foldl_cons, List.map_cons, List.foldl_cons, foldl_tr g h e l, e]
theorem copy_tr (hf : ∀ a b, f a = f b → a = b) (c : List (Str × Int)) : tr f (copyC c) = copy (tr f c) := foldl_tr (tr f) (fun p : Str × Int => (G f p.1, p.2)) (fun a p => put_tr hf a p.1 p.2) c []
theorem add_tr (hf : ∀ a b, f a = f b → a = b) (a c : List (Str × Int)) : tr f (addC a c) = add (tr f a) (tr f c) :=
  foldl_tr (tr f) (fun p : Str × Int => (G f p.1, p.2)) (fun a p => by rw [put_tr hf, look_tr hf]) c a
theorem sumv_tr (c : List (Str × Int)) : sumv (tr f c) = Mine.sumv c := by
  unfold sumv Mine.sumv tr
  rw [List.map_map]; rfl
theorem slice_tr {x : Str} {a b : Nat} (h1 : a ≤ b) (h2 : b ≤ x.length) : G f (Txt.slice x (some (a : Int)) (some (b : Int))) = slice (G f x) a b := by
  unfold G slice
  rw [slice_ab (by omega) (by omega) (by omega), List.map_take, List.map_drop]
  congr 1
  omega
theorem ends_tr (hf : ∀ a b, f a = f b → a = b) {wd : Str} {place : Nat} (hp : place ≤ wd.length) : ∀ k, k ≤ place + 1 → tr f (endsC wd place k) = ends (G f wd) place k
  | 0, _ => rfl
  | k + 1, hk => by
    show tr f (kdpPut _ _ _) = put _ _ _
    rw [put_tr hf, ends_tr hf hp k (by omega), show ((place : Int) - (k : Int)) = ((place - k : Nat) : Int) by omega, slice_tr (by omega) hp]
theorem sum_tr (hf : ∀ a b, f a = f b → a = b) {wd : Str} : ∀ k, k ≤ wd.length + 1 → (sumC wd k).cc = (sum (G f wd) k).cc ∧ (sumC wd k).nc = (sum (G f wd) k).nc ∧ tr f (sumC wd k).cal = (sum (G f wd) k).cal
  | 0, _ => ⟨rfl, rfl, rfl⟩
  | k + 1, hk => by
    obtain ⟨h1, h2, h3⟩ := sum_tr hf (wd := wd) k (by omega)
    have he := ends_tr hf (wd := wd) (place := k) (by omega) (k + 1) (Nat.le_refl _)
    refine ⟨?_, ?_, ?_⟩
    · show 1 + (sumC wd k).cc = 1 + (sum (G f wd) k).cc
      rw [h1]
    · show Mine.sumv (endsC wd k (k + 1)) + (sumC wd k).nc = sumv (ends (G f wd) k (k + 1)) + (sum (G f wd) k).nc
      rw [h2, ← he, sumv_tr]
    · show tr f (addC (copyC (sumC wd k).cal) (endsC wd k (k + 1))) = add (copy (sum (G f wd) k).cal) (ends (G f wd) k (k + 1))
      rw [add_tr hf, copy_tr hf, h3, he]
theorem row_tr {wd : Str} : ∀ n, n ≤ wd.length + 1 → (rowC wd n).map (G f) = row (G f wd) n
  | 0, _ => rfl
  | i + 1, hi => by
    show (rowC wd i ++ Mine.rowI wd i).map (G f) = row (G f wd) i ++ rowI (G f wd) i
    rw [List.map_append, row_tr i (by omega)]
    congr 1
    unfold Mine.rowI rowI
    rw [List.map_map]
    refine List.map_congr_left fun j hj => ?_
    have := List.mem_range.mp hj
    show G f (Txt.slice wd _ _) = _
    rw [show ((i : Int) - (j : Int)) = ((i - j : Nat) : Int) by omega, slice_tr (by omega) (by omega)]
theorem cnt_tr (hf : ∀ a b, f a = f b → a = b) (x : Str) : ∀ l : List Str, cnt (G f x) (l.map (G f)) = countIn (.str x) (l.map PyData.str)
  | [] => rfl
  | y :: r => by
    rw [List.map_cons, List.map_cons, cnt, Spec.countIn, cnt_tr hf x r, eqG hf, PyProof.V.same_str]
theorem memL_tr (hf : ∀ a b, f a = f b → a = b) (x : Str) (l : List Str) : memL (G f x) (l.map (G f)) = decide (x ∈ l) := by
  unfold memL
  rw [List.any_map, Bool.eq_iff_iff, List.any_eq_true, decide_eq_true_eq]
  constructor
  · rintro ⟨y, hy, e⟩
    rw [Function.comp_apply, eqG hf, decide_eq_true_eq] at e
    exact e ▸ hy
  · exact fun h => ⟨x, h, by rw [Function.comp_apply, eqG hf, decide_eq_true_eq]⟩
theorem getD_tr (rows : List Str) (i : Nat) : (rows.map (G f)).getD i [] = G f (rows.getD i Str.empty) := by
  rw [List.getD_eq_getElem?_getD, List.getD_eq_getElem?_getD, List.getElem?_map]
  cases rows[i]? <;> rfl
theorem listed_tr (hf : ∀ a b, f a = f b → a = b) (rows : List Str) : ∀ n, tr f (listedC rows n) = listed (rows.map (G f)) n
  | 0 => rfl
  | i + 1 => by
    show tr f (if rows.getD i Str.empty ∈ rows.take i then listedC rows i else listedC rows i ++ [(rows.getD i Str.empty, countIn (.str (rows.getD i Str.empty)) (rows.map PyData.str))]) =
      if memL ((rows.map (G f)).getD i []) ((rows.map (G f)).take i) = true then listed (rows.map (G f)) i else listed (rows.map (G f)) i ++ [((rows.map (G f)).getD i [], cnt ((rows.map (G f)).getD i []) (rows.map (G f)))]
    rw [getD_tr, ← List.map_take, memL_tr hf, cnt_tr hf, ← listed_tr hf rows i]
    by_cases h : rows.getD i Str.empty ∈ rows.take i
    · rw [if_pos h, if_pos (decide_eq_true h)]
    · rw [if_neg h, if_neg (by simpa using h)]
      unfold tr
      rw [List.map_append]; rfl
theorem inB_tr (hf : ∀ a b, f a = f b → a = b) (x y : Str) : isIn (G f x) (G f y) = inB (lst x) (lst y) := by
  unfold G
  rw [isIn_map hf, isIn_eq]
theorem signs_tr (hf : ∀ a b, f a = f b → a = b) (p : Str) (ws : List Str) : tr f (signsC p ws) = signs (G f p) (ws.map (G f)) := by
  refine foldl_tr (tr f) (G f) (fun c t => ?_) ws []
  unfold Mine.stepS stepS
  rw [inB_tr hf]
  split
  · rw [put_tr hf, eqG hf]
    congr 1
    have e : tr f (c.filter fun q => inB (lst q.1) (lst t)) = (tr f c).filter fun q => isIn q.1 (G f t) := by
      unfold tr
      rw [List.filter_map]
      congr 2
      funext q
      exact (inB_tr hf q.1 t).symm
    rw [← e, ← copy_tr hf, sumv_tr]
    by_cases h : t = p
    · rw [if_pos h, if_pos (decide_eq_true h)]
    · rw [if_neg h, if_neg (by simpa using h)]
  · rfl
end
end PT
end
theorem reset_C19 {M : Model} {A : Around} {E : Value → Shared → Prop} {Q : Flow → Shared → Prop} {s : Shared} {env : Env} (h : Q .next s) : wpAny M A (execs [] env) Q E s := by
  w_top off
  walk1
  w_top off
  exact h
section
namespace PT
section
variable {f : Nat → Nat}
abbrev mapB (f : Nat → Nat) (bk : List Bk) : List B := bk.map fun e => (e.1.map f, e.2.map f)
theorem get_map (hf : ∀ a b, f a = f b → a = b) (bk : List Bk) (x : W) : get (mapB f bk) (x.map f) = (getL bk x).map (List.map f) := by
  unfold get getL mapB
  rw [List.find?_map]
  have : ((fun e : B => eqL e.1 (x.map f)) ∘ fun e : Bk => (e.1.map f, e.2.map f)) = fun e => e.1 == x := by
    funext e
    show eqL (e.1.map f) (x.map f) = (e.1 == x)
    rw [eqL_map hf, Bool.eq_iff_iff, eqL_iff, beq_iff_eq]
  rw [this]
  cases bk.find? fun e => e.1 == x <;> rfl
theorem next_map (hf : ∀ a b, f a = f b → a = b) (bk : List Bk) (text : W) : ∀ (n : Nat) (tail : W), next (mapB f bk) (text.map f) ([text.getLast?.getD 0].map f) n (tail.map f) = (nextL bk text n tail).map (List.map f)
  | 0, _ => rfl
  | n + 1, tail => by
    show (if (!(tail.map f).isEmpty && !(pre (tail.map f ++ [text.getLast?.getD 0].map f) (text.map f))) = true then _ else _) = Option.map (List.map f) (if (!tail.isEmpty && !((tail ++ [text.getLast?.getD 0]).isPrefixOf text)) = true then _ else _)
    rw [← List.map_append, pre_map hf, pre_eq, show (tail.map f).isEmpty = tail.isEmpty by cases tail <;> rfl]
    by_cases h : (!tail.isEmpty && !((tail ++ [text.getLast?.getD 0]).isPrefixOf text)) = true
    · rw [if_pos h, if_pos h, get_map hf]
      cases getL bk tail with
      | none => rfl
      | some t => exact next_map hf bk text n t
    · rw [if_neg h, if_neg h]; rfl
theorem last_eq {text : W} (h : 1 < text.length) : text.drop (text.length - 1) = [text.getLast?.getD 0] := by
  rw [List.drop_eq_getElem_cons (show text.length - 1 < text.length by omega), show text.length - 1 + 1 = text.length by omega, List.drop_length, List.getLast?_eq_getElem?, List.getElem?_eq_getElem (by omega)]
  rfl
theorem bord_map (hf : ∀ a b, f a = f b → a = b) (bk : List Bk) (text : W) : bord (mapB f bk) (text.map f) = (bordL bk text).map (List.map f) := by
  unfold bord bordL
  rw [List.length_map]
  by_cases h : 1 < text.length
  · rw [if_pos h, if_pos h, ← List.map_drop, last_eq h, ← List.map_dropLast, get_map hf]
    cases getL bk text.dropLast with
    | none => rfl
    | some t =>
      show (match next (mapB f bk) (text.map f) ([text.getLast?.getD 0].map f) 10 (t.map f) with | none => none | some tail => _) = Option.map (List.map f) (match nextL bk text 10 t with | none => none | some tail => _)
      rw [next_map hf]
      cases nextL bk text 10 t with
      | none => rfl
      | some tail =>
        show (if pre (tail.map f ++ [text.getLast?.getD 0].map f) (text.map f) = true then some (tail.map f ++ [text.getLast?.getD 0].map f) else some []) = Option.map (List.map f) (if (tail ++ [text.getLast?.getD 0]).isPrefixOf text = true then some (tail ++ [text.getLast?.getD 0]) else some [])
        rw [← List.map_append, pre_map hf, pre_eq]
        split <;> rfl
  · rw [if_neg h, if_neg h]; rfl
theorem borders_map (hf : ∀ a b, f a = f b → a = b) (ws : List W) : borders (ws.map (List.map f)) = (bordersL ws).map (mapB f) := by
  refine (foldl_tr (fun o : Option (List Bk) => o.map (mapB f)) (List.map f) (fun o text => ?_) ws (some [])).symm
  cases o with
  | none => rfl
  | some bk =>
    show Option.map (mapB f) (match bordL bk text with | none => none | some b => some (bk ++ [(text, b)])) = match bord (mapB f bk) (text.map f) with | none => none | some b => some (mapB f bk ++ [(text.map f, b)])
    rw [bord_map hf]
    cases bordL bk text with
    | none => rfl
    | some b => show some (mapB f (bk ++ [(text, b)])) = some _; rw [mapB, List.map_append]; rfl
theorem look_lst (hf : ∀ a b, f a = f b → a = b) (c : List (Str × Int)) (o : W) : look (tr f c) (o.map f) 0 = ((c.find? fun p => lst p.1 == o).map (·.2)).getD 0 := by
  unfold look tr
  rw [List.find?_map, Option.map_map]
  have : ((fun p : W × Int => eqL p.1 (o.map f)) ∘ fun p : Str × Int => (G f p.1, p.2)) = fun p => lst p.1 == o := by
    funext p
    show eqL ((lst p.1).map f) (o.map f) = (lst p.1 == o)
    rw [eqL_map hf, Bool.eq_iff_iff, eqL_iff, beq_iff_eq]
  rw [this]; rfl
theorem stepD_tr (hf : ∀ a b, f a = f b → a = b) (bk : List Bk) (p : Str) (c : List (Str × Int)) (t : Str) : tr f (Mine.stepD bk p c t) = stepD (mapB f bk) (G f p) (tr f c) (G f t) := by
  have hl : ∀ x : Str, (G f x).length = x.length := fun x => by unfold G; rw [List.length_map, lst_len]
  have ho : (get (mapB f bk) (G f t)).getD [] = ((getL bk (lst t)).getD []).map f := by
    unfold G
    rw [get_map hf]
    cases getL bk (lst t) <;> rfl
  have hm : ((G f t).drop 1).dropLast = (((lst t).drop 1).dropLast).map f := by
    unfold G
    rw [← List.map_drop, ← List.map_dropLast]
  have he : eqL (((lst t).drop 1).dropLast.map f) (G f p) = decide (((lst t).drop 1).dropLast = lst p) := by
    unfold G
    rw [eqL_map hf, Bool.eq_iff_iff, eqL_iff, decide_eq_true_eq]
  have hv : (if eqL (((lst t).drop 1).dropLast.map f) (G f p) = true then (1 : Int) else 0) = if ((lst t).drop 1).dropLast = lst p then 1 else 0 := by
    rw [he]
    by_cases h : ((lst t).drop 1).dropLast = lst p
    · rw [if_pos h, if_pos (decide_eq_true h)]
    · rw [if_neg h, if_neg (by simpa using h)]
  unfold Mine.stepD stepD
  dsimp only
  rw [hl, hl, ho, hm, hv, isIn_map hf, isIn_eq]
  by_cases h1 : 1 < (t.length : Int) - (p.length : Int)
  · rw [if_pos h1, if_pos h1]
    by_cases h2 : inB ((getL bk (lst t)).getD []) ((lst t).drop 1).dropLast = true
    · rw [if_pos h2, if_pos h2]
      simp only [← put_tr hf]
    · rw [if_neg h2, if_neg h2]
      simp only [← put_tr hf, look_tr hf, look_lst hf]
  · rw [if_neg h1, if_neg h1, put_tr hf]
theorem due_tr (hf : ∀ a b, f a = f b → a = b) (bk : List Bk) (p : Str) (ws : List Str) : tr f (dueC bk p ws) = due (mapB f bk) (G f p) (ws.map (G f)) :=
  foldl_tr (tr f) (G f) (fun c t => stepD_tr hf bk p c t) ws []
end
/-- all words -/
def words : Nat → List W
  | 0 => [[]]
  | n + 1 => (words n).flatMap fun w => [97 :: w, 98 :: w, 99 :: w]
theorem mem_words : ∀ {l : W}, (∀ c ∈ l, c = 97 ∨ c = 98 ∨ c = 99) → l ∈ words l.length
  | [], _ => .head _
  | c :: l, h => by
    have ih := mem_words (l := l) fun x hx => h x (.tail _ hx)
    refine List.mem_flatMap.mpr ⟨l, ih, ?_⟩
    rcases h c (.head _) with rfl | rfl | rfl <;> simp
def app (s : Nat × Nat × Nat) (n : Nat) : Nat := if Nat.beq n 97 then s.1 else if Nat.beq n 98 then s.2.1 else if Nat.beq n 99 then s.2.2 else n + 3
def perms : List (Nat × Nat × Nat) := [(0, 1, 2), (0, 2, 1), (1, 0, 2), (1, 2, 0), (2, 0, 1), (2, 1, 0)]
theorem app_inj {s : Nat × Nat × Nat} (hs : s ∈ perms) (a b : Nat) (h : app s a = app s b) : a = b := by
  have key : s.1 < 3 ∧ s.2.1 < 3 ∧ s.2.2 < 3 ∧ s.1 ≠ s.2.1 ∧ s.1 ≠ s.2.2 ∧ s.2.1 ≠ s.2.2 := by
    simp only [perms, List.mem_cons, List.not_mem_nil, or_false] at hs
    rcases hs with rfl | rfl | rfl | rfl | rfl | rfl <;> decide
  obtain ⟨k1, k2, k3, k4, k5, k6⟩ := key
  unfold app at h
  simp only [nbeq] at h
  (repeat' split at h) <;> omega
def cover (n : Nat) : Bool := (words n).all fun l => perms.any fun s => (canon n).any fun q => eqL (l.map (app s)) q.1
theorem cover4 : cover 4 = true := by decide +kernel
theorem cover5 : cover 5 = true := by decide +kernel
theorem word_ok {l : W} (h : ∀ c ∈ l, c = 97 ∨ c = 98 ∨ c = 99) (hl : l.length = 4 ∨ l.length = 5) : ∃ f : Nat → Nat, (∀ a b, f a = f b → a = b) ∧ wordOk (l.map f) = true := by
  have gen : ∀ n, cover n = true → ((canon n).all fun p => wordOk p.1) = true → l.length = n → ∃ f : Nat → Nat, (∀ a b, f a = f b → a = b) ∧ wordOk (l.map f) = true := by
    intro n hc hk hn
    have := List.all_eq_true.mp hc l (hn ▸ mem_words h)
    obtain ⟨s, hs, h2⟩ := List.any_eq_true.mp this
    obtain ⟨q, hq, h3⟩ := List.any_eq_true.mp h2
    refine ⟨app s, app_inj hs, ?_⟩
    rw [eqL_iff.mp h3]
    exact List.all_eq_true.mp hk q hq
  rcases hl with h4 | h5
  · exact gen 4 cover4 canon4 h4
  · exact gen 5 cover5 canon5 h5
end PT
theorem listedC_mem (rows : List Str) : ∀ n, n ≤ rows.length → ∀ p ∈ listedC rows n, p.1 ∈ rows
  | 0, _, p, hp => by cases hp
  | n + 1, hn, p, hp => by
    have e : listedC rows (n + 1) = if rows.getD n Str.empty ∈ rows.take n then listedC rows n else listedC rows n ++ [(rows.getD n Str.empty, countIn (.str (rows.getD n Str.empty)) (rows.map PyData.str))] := rfl
    rw [e] at hp
    have hg : rows.getD n Str.empty ∈ rows := by rw [List.getD_eq_getElem?_getD, List.getElem?_eq_getElem hn]; exact List.getElem_mem hn
    split at hp
    · exact listedC_mem rows n (by omega) p hp
    · rcases List.mem_append.mp hp with hp | hp
      · exact listedC_mem rows n (by omega) p hp
      · rw [List.mem_singleton.mp hp]; exact hg
theorem rowC_short {wd : Str} : ∀ n, n ≤ wd.length + 1 → ∀ x ∈ rowC wd n, x.length ≤ wd.length
  | 0, _, x, hx => by cases hx
  | n + 1, hn, x, hx => by
    rcases List.mem_append.mp (show x ∈ rowC wd n ++ rowI wd n from hx) with hx | hx
    · exact rowC_short n (by omega) x hx
    · obtain ⟨j, hj, rfl⟩ := List.mem_map.mp hx
      have hj := List.mem_range.mp hj
      rw [← lst_len, slice_ab (by omega) (by omega) (by omega), List.length_take, List.length_drop, lst_len]
      omega
theorem pure_law {wd pt : Str} (h : Drawn wd pt) : LawOk wd pt := by
  obtain ⟨ha, hl, place, width, hpt, hp1, hp2, hp3⟩ := h
  have hl' : (lst wd).length = 4 ∨ (lst wd).length = 5 := by rw [lst_len]; exact hl
  obtain ⟨f, hf, hok⟩ := PT.word_ok (l := lst wd) ha hl'
  have hok : PT.wordOk (PT.G f wd) = true := hok
  have hn : (PT.G f wd).length = wd.length := by unfold PT.G; rw [List.length_map, lst_len]
  unfold PT.wordOk at hok
  rw [hn] at hok
  simp only [Bool.and_eq_true] at hok
  obtain ⟨⟨⟨⟨⟨h1, h2⟩, h3⟩, h4⟩, h5⟩, h6⟩ := hok
  obtain ⟨s1, s2, s3⟩ := PT.sum_tr hf (wd := wd) (wd.length + 1) (Nat.le_refl _)
  have hrow := PT.row_tr (f := f) (wd := wd) (wd.length + 1) (Nat.le_refl _)
  have hkeys : ((PT.sum (PT.G f wd) (wd.length + 1)).cal.map (·.1)) = ((sumC wd (wd.length + 1)).cal.map (·.1)).map (PT.G f) := by
    rw [← s3]; unfold PT.tr; rw [List.map_map, List.map_map]; rfl
  have hcal : (sumC wd (wd.length + 1)).cal = listedC (rowC wd (wd.length + 1)) (rowC wd (wd.length + 1)).length := by
    refine PT.tr_inj hf ?_
    rw [s3, PT.listed_tr hf, hrow, PT.eqC_iff.mp h1, ← hrow, List.length_map]
  have hmem : ∀ x ∈ (sumC wd (wd.length + 1)).cal.map (·.1), x ∈ rowC wd (wd.length + 1) := by
    intro x hx
    obtain ⟨p, hp, rfl⟩ := List.mem_map.mp hx
    rw [hcal] at hp
    exact listedC_mem _ _ (Nat.le_refl _) p hp
  have hG : PT.G f pt = PT.slice (PT.G f wd) place (place + width) := by
    unfold PT.G PT.slice
    rw [hpt, List.map_take, List.map_drop]
    congr 1
    omega
  have hpa : Abc pt := Abc.of ha fun c hc => by rw [hpt] at hc; exact List.mem_of_mem_drop (List.mem_of_mem_take hc)
  have hpl : pt.length ≤ 5 := by rw [← lst_len, hpt, List.length_take, List.length_drop]; omega
  rw [hkeys] at h5 h6
  cases hb : PT.borders (((sumC wd (wd.length + 1)).cal.map (·.1)).map (PT.G f)) with
  | none => rw [hb] at h6; cases h6
  | some bk' =>
    rw [hb] at h6
    have hb2 : PT.borders (((sumC wd (wd.length + 1)).cal.map (·.1)).map (PT.G f)) = (bordersL (((sumC wd (wd.length + 1)).cal.map (·.1)).map lst)).map (PT.mapB f) := by
      have e : ∀ l : List Str, l.map (PT.G f) = (l.map lst).map (List.map f) := fun l => by rw [List.map_map]; rfl
      rw [← PT.borders_map hf, ← e]
    rw [hb] at hb2
    obtain ⟨bk, hbk, rfl⟩ := Option.map_eq_some_iff.mp hb2.symm
    have h7 := List.all_eq_true.mp (List.all_eq_true.mp h6 place (List.mem_range.mpr (by omega))) width (List.mem_range.mpr (by omega))
    rw [Nat.ble_eq_true_of_le hp1, Nat.ble_eq_true_of_le hp2, Nat.ble_eq_true_of_le hp3, ← hG] at h7
    have h7 : PT.partOk (PT.mapB f bk) (((sumC wd (wd.length + 1)).cal.map (·.1)).map (PT.G f)) (PT.G f pt) = true := h7
    unfold PT.partOk at h7
    rw [← PT.signs_tr hf] at h7
    simp only [Bool.and_eq_true] at h7
    obtain ⟨⟨q1, q2⟩, q3⟩ := h7
    have hsk : (PT.tr f (signsC pt ((sumC wd (wd.length + 1)).cal.map (·.1)))).map (·.1) = ((signsC pt ((sumC wd (wd.length + 1)).cal.map (·.1))).map (·.1)).map (PT.G f) := by
      unfold PT.tr; rw [List.map_map, List.map_map]; rfl
    rw [hsk] at q1 q3
    refine ⟨hcal, ?_, ?_, ?_, ?_, fun x hx => ⟨?_, rowC_abc ha _ (Nat.le_refl _) x (hmem x hx)⟩, ⟨hpl, hpa⟩, ?_, bk, hbk, ?_, ?_⟩
    · rw [s1]; exact beq_iff_eq.mp h2
    · rw [s2, beq_iff_eq.mp h3]
      rcases hl with e | e <;> rw [e] <;> rfl
    · rw [s2, ← beq_iff_eq.mp h4, ← s3, PT.sumv_tr]
    · have := Nat.le_of_ble_eq_true h5
      rwa [List.length_map] at this
    · have := rowC_short _ (Nat.le_refl _) x (hmem x hx)
      omega
    · refine PT.mapG_inj hf ?_
      rw [PT.eqLL_iff.mp q1, List.filter_map]
      congr 2
      funext t
      exact PT.inB_tr hf pt t
    · intro x hx
      obtain ⟨p, hp, rfl⟩ := List.mem_map.mp hx
      have := List.all_eq_true.mp q2 (PT.G f p.1, p.2) (List.mem_map.mpr ⟨p, hp, rfl⟩)
      have e : PT.get (PT.mapB f bk) (PT.G f p.1) = (getL bk (lst p.1)).map (List.map f) := PT.get_map hf bk (lst p.1)
      dsimp only at this
      rw [e] at this
      cases q : getL bk (lst p.1) with
      | none => rw [q] at this; cases this
      | some _ => rfl
    · refine PT.tr_inj hf ?_
      rw [PT.due_tr hf]
      exact (PT.eqC_iff.mp q3).symm
theorem law_holds : PySem.Challenge.rw_pm0056_01.Holds := law_walk fun _ _ h => pure_law h
end
end Mine
end
set_option maxRecDepth 100000 in
set_option maxHeartbeats 8000000 in
theorem PySem.Challenge.cw_pm0056_01_holds : PySem.Challenge.rw_pm0056_01.Holds := by
  exact Mine.law_holds
