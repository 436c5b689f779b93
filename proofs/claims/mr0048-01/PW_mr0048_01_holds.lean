import PyProof.Rows.All
import Wide.All
import OpenK.AllK
import Wide.FinOn
import PySem.Challenge.RW_mr0048_01
set_option Elab.async false
set_option maxRecDepth 100000
section
open PySem PySem.W PyProof.Rows
namespace Mine
set_option maxRecDepth 100000 in
set_option maxHeartbeats 8000000 in
open_top hd for PySem.Challenge.rw_mr0048_01
end Mine
end
section
open PySem PySem.W PyProof.Rows PySem.Calls
namespace Mine
@[reducible] noncomputable def KK (w : World) : Frag := hd.heap_39 w.params

abbrev AA (dp un : Nat) (fr : Option (List Env)) (gd : Option (List Code)) : Around := { handled := none, depth := dp, frames := fr, guards := gd, units := un }

/-- what stands at every heap of the call -/
structure Here (w : World) (mean : ExcName → Option Value) (mg mb : Str → Option Value) (h : Heap) : Prop where
  X : (KK w).In h
  T : Top hd.view_39 (looseW hd.view_39 [Str.ofString "capwords"]) mean mg mb h
theorem Here.keeps {w mean mg mb} {h h' : Heap} (H : Here w mean mg mb h) (k : ∀ b o, h.get? b = some o → h'.get? b = some o) : Here w mean mg mb h' :=
  ⟨H.X.keeps k, H.T.keeps k⟩

theorem enter {prog : Program} {w : World} {A : Around} {s : Shared} {Q E : Value → Shared → Prop} {K : Frag} {p : Program} {loose : List Str} {mean : ExcName → Option Value} {mg mb : Str → Option Value}
    {f : Addr} {args : List Value} {binds : List (Str × Value)} {oc : Value} {od : Option Addr} {osl : Array (Option Value)} {name qual : Str} {params : Arguments} {body : List Stmt} {scope : Scope} {dV kV doc pm : Value} {an : Option Addr} {cdv ct : Value}
    (X : K.In s.heap) (T : Top p loose mean mg mb s.heap)
    (ho : K.lookup f = some ⟨oc, od, .func (fnOf name qual params body scope dV kV doc pm an cdv ct), osl⟩) (hcd : codeIn K cdv qual = true) (hroom : A.depth < recursionLimit)
    (hbind : BindsTo s (fnOf name qual params body scope dV kV doc pm an cdv ct) ⟨args, []⟩ binds) (hloc : ∀ y ∈ binds, scope.names.lookup y.1 = some .local)
    (hcell : ∀ x ∈ scope.names, x.2 ≠ .cell)
    (h : ∀ L h₁, Fr s.heap L h₁ (fun y => binds.reverse.lookup y) → News s.heap L h₁ [] →
      wpAny (model prog w) (A.deeper (envOf qual scope L f cdv)) (execs body (envOf qual scope L f cdv)) (fun fl s' => Q (match fl with | .ret v => v | _ => .none) s') (fun _ _ => False) { s with heap := h₁, toks := s.toks + binds.length })
    (hco : scope.isCoroutine = false := by rfl) (hgen : scope.isGenerator = false := by rfl) (hk : scope.kind = .function := by rfl) :
    wpAny (model prog w) A (call (.ref f) args) Q E s := by
  refine wpAny_call ?_
  refine codeAny_call_def (fd := fnOf name qual params body scope dV kV doc pm an cdv ct) (body := body) (binds := binds) hroom (X _ _ ho) rfl T.nolimit (codeRec_of X hcd) rfl hbind hcell hloc (fun h₁ hns hk₁ => ?_) hco hgen hk
  exact wpAny_mono (h s.heap.objs.size h₁ ⟨hns, hk₁, Nat.le_refl _⟩ News.nil) (fun _ _ x => x) fun _ _ x => x.elim
end Mine
end
section
open PySem PySem.W PyProof.Rows PySem.Calls PySem.Spec
namespace Mine

/-- an iterator's own object -/
def ItObj (T : String) (o : Obj) : Prop := o.cls = .type T ∧ ∃ vs, o.data = .fields vs
theorem not_it_seq {T : String} {xs : Array Value} {n : Nat} : ¬ ItObj T (W.listOf xs n) := fun h => by obtain ⟨_, vs, e⟩ := h; cases e
theorem not_it_cell {T : String} {o : Obj} {v : Option Value} (hd : o.data = .cell v) : ¬ ItObj T o := fun h => by obtain ⟨_, vs, e⟩ := h; rw [hd] at e; cases e
/-- the end of a turn that goes on -/
def TEnd {σ : Type} (h₀ : Heap) (L : Addr) (s : Shared) (x : Str) (Led : σ → List (Addr × Obj)) (ps : σ → List (Str × Value)) (stored : List Str) (m₀ : Str → Option Value) (P : σ → Prop) (p₀ : Addr × Obj) (s₂ : Shared) : Prop :=
  ∃ (c : σ) (h' : Heap) (tk : Nat) (m' : Str → Option Value) (news' : List (Addr × Obj)), s₂ = { s with heap := h', toks := tk } ∧ Fr h₀ L h' m' ∧ News h₀ L h' news' ∧ p₀ ∈ news' ∧ (∀ p ∈ Led c, p ∈ news') ∧
    (∀ p ∈ ps c, m' p.1 = some p.2) ∧ (∀ z, z ≠ x → (∀ p ∈ ps c, z ≠ p.1) → stored.contains z = false → m' z = m₀ z) ∧ P c
def TPost {σ : Type} (h₀ : Heap) (L : Addr) (s : Shared) (x : Str) (Led : σ → List (Addr × Obj)) (ps : σ → List (Str × Value)) (stored : List Str) (m₀ : Str → Option Value) (P : σ → Prop) (Q : Flow → Shared → Prop) (p₀ : Addr × Obj) (f : Flow) (s₂ : Shared) : Prop :=
  match f with
  | .ret v => Q (.ret v) s₂
  | .brk => Q .next s₂
  | _ => TEnd h₀ L s x Led ps stored m₀ P p₀ s₂

theorem tEnd {σ : Type} {h₀ h' : Heap} {L : Addr} {s : Shared} {x : Str} {Led : σ → List (Addr × Obj)} {ps : σ → List (Str × Value)} {stored : List Str} {m₀ m' : Str → Option Value} {P : σ → Prop} {Q : Flow → Shared → Prop} {p₀ : Addr × Obj} {tk : Nat} {news' : List (Addr × Obj)}
    (c : σ) (F : Fr h₀ L h' m') (N : News h₀ L h' news') (h1 : p₀ ∈ news') (h2 : ∀ p ∈ Led c, p ∈ news') (h3 : ∀ p ∈ ps c, m' p.1 = some p.2) (h4 : ∀ z, z ≠ x → (∀ p ∈ ps c, z ≠ p.1) → stored.contains z = false → m' z = m₀ z) (h5 : P c) :
    TPost h₀ L s x Led ps stored m₀ P Q p₀ .next { s with heap := h', toks := tk } := ⟨c, h', tk, m', news', rfl, F, N, h1, h2, h3, h4, h5⟩

section
variable {prog : Program} {w : World} {A : Around} {E : Value → Shared → Prop} {s : Shared} {env : Env} {h₀ : Heap} {x : Str} {body : List Stmt} {Q : Flow → Shared → Prop}

/-- the heart: a loop over an iterator of any kind whose own object is at I, of class T -/
theorem loopG {σ : Type} {I : Addr} {fp wr : List Addr} {n : Nat} {PV : Nat → Value → Prop} {St : Nat → Heap → Prop} {T : String} {m₀ : Str → Option Value}
    (Led : σ → List (Addr × Obj)) (ps : σ → List (Str × Value)) (stored : List Str) (P : Nat → σ → Prop) (c₀ : σ)
    (W : Walks prog w A I fp wr n PV St) (hwI : wr = [I]) (hfI : I ∈ fp)
    (hcov : ∀ b ∈ fp, b = I ∨ (∃ o, h₀.get? b = some o) ∨ ∃ o, ∀ c, (b, o) ∈ Led c)
    (hLI : env.locals ∉ fp) (hI₀ : h₀.get? I = none) (hT : ∀ i h, St i h → ∃ o, h.get? I = some o ∧ ItObj T o)
    (hcls : ∀ c (h : Heap) oI, h.get? I = some oI → ItObj T oI → (∀ p ∈ Led c, h.get? p.1 = some p.2) → ∀ p ∈ Led c, p.1 ≠ I)
    (hst : St 0 s.heap) (F : Fr h₀ env.locals s.heap m₀) (N : News h₀ env.locals s.heap (Led c₀)) (hk : ∀ p ∈ ps c₀, m₀ p.1 = some p.2) (hp : P 0 c₀)
    (turn : ∀ (c : σ) i v (u : Str → Option Value) h tk oI, i < n → PV i v → P i c → (∀ p ∈ Led c, p.1 ≠ I) →
      Fr h₀ env.locals h (fun y => if y = x then some v else kstB (fun z => if stored.contains z then u z else m₀ z) (ps c) y) → News h₀ env.locals h ((I, oI) :: Led c) →
      wpAny (model prog w) A (execs body env) (TPost h₀ env.locals s x Led ps stored m₀ (P (i + 1)) Q (I, oI)) E { s with heap := h, toks := tk })
    (done : ∀ (c : σ) (u : Str → Option Value) h tk, P n c → Fr h₀ env.locals h (fun y => if y = x then u y else kstB (fun z => if stored.contains z then u z else m₀ z) (ps c) y) → News h₀ env.locals h (Led c) → Q .next { s with heap := h, toks := tk }) :
    LoopAtV prog w A h₀ env x body Q E (.ref I) s := by
  subst hwI
  obtain ⟨oI₀, hgI, hcI⟩ := hT _ _ hst
  refine ⟨I, fp, [I], n, PV, St, m₀, Led c₀, (fun i m nx => ∃ c, nx = Led c ∧ (∀ p ∈ ps c, m p.1 = some p.2) ∧ (∀ z, z ≠ x → (∀ p ∈ ps c, z ≠ p.1) → stored.contains z = false → m z = m₀ z) ∧ P i c), rfl, W, hLI, ?_, ?_, hst, F, N, ⟨c₀, rfl, hk, fun _ _ _ _ => rfl, hp⟩, ?_, ?_⟩
  · intro b hb; rw [List.mem_singleton.mp hb]; exact hI₀
  · exact fun p hp hm => hcls c₀ _ _ hgI hcI (fun p hp => (N p hp).1) p hp (List.mem_singleton.mp hm)
  · rintro i v m₁ nx s₁ own ⟨h, tk, rfl⟩ hi hPv ⟨c, rfl, h1, h2, hP⟩ hoff hsub hget hall hst₁ F₁ N₁
    obtain ⟨oI, hgI₁, hcI₁⟩ := hT _ _ hst₁
    have hIown : (I, oI) ∈ own := hall I hfI hI₀ oI hgI₁
    have N₂ : News h₀ env.locals h ((I, oI) :: Led c) := fun p hp => by
      rcases List.mem_cons.mp hp with rfl | hp
      · exact N₁ _ (List.mem_append_left _ hIown)
      · exact N₁ _ (List.mem_append_right _ hp)
    refine wpAny_mono (turn c i v m₁ h tk oI hi hPv hP (fun p hp e => hoff p hp (by rw [e]; exact .head _)) (kst_fr h1 h2 F₁) N₂) (fun f s₂ p => ?_) fun _ _ e => e
    have fin : TEnd h₀ env.locals s x Led ps stored m₀ (P (i + 1)) (I, oI) s₂ → LoopStepU h₀ env.locals [I] own (fun m nx => ∃ c, nx = Led c ∧ (∀ p ∈ ps c, m p.1 = some p.2) ∧ (∀ z, z ≠ x → (∀ p ∈ ps c, z ≠ p.1) → stored.contains z = false → m z = m₀ z) ∧ P (i + 1) c) { s with heap := h, toks := tk } .next s₂ := by
      rintro ⟨c', h', tk', m', news', rfl, F', N', hIn, hLn, k1, k2, hP'⟩
      have hgI' : h'.get? I = some oI := (N' _ hIn).1
      refine ⟨rfl, h', tk', m', Led c', rfl, F', fun p hp => ?_, fun p hp hm => hcls c' _ _ hgI' hcI₁ (fun p hp => (N' p (hLn p hp)).1) p hp (List.mem_singleton.mp hm), c', rfl, k1, k2, hP'⟩
      rcases List.mem_append.mp hp with ho | ho
      · have hg := hget p ho
        have hn₀ := (N₁ p (List.mem_append_left _ ho)).2
        rcases hcov _ (hsub p ho) with e | ⟨o, e⟩ | e
        · have : p = (I, oI) := by
            rw [e] at hg
            have := hgI₁.symm.trans hg
            obtain ⟨p1, p2⟩ := p
            cases e
            cases this
            rfl
          rw [this]
          exact N' _ hIn
        · rw [hn₀.2] at e; cases e
        · obtain ⟨o, e⟩ := e
          have a1 := (N₁ _ (List.mem_append_right _ (e c))).1
          have : p = (p.1, o) := by
            have := a1.symm.trans hg
            obtain ⟨p1, p2⟩ := p
            cases this
            rfl
          rw [this]
          exact N' _ (hLn _ (e c'))
      · exact N' _ (hLn p ho)
    cases f with
    | ret v => exact .ret p
    | brk => exact .brk p
    | next => exact .next (fin p)
    | cont => exact .cont (fin p)
  · rintro h' tk m' nx F' N' _ ⟨c, rfl, h1, h2, hP⟩
    exact done c m' h' tk hP (kst_frOut h1 h2 F') N'

theorem cls_ne {σ : Type} {I : Addr} {T : String} {Led : σ → List (Addr × Obj)} (hcls : ∀ c, ∀ p ∈ Led c, ¬ ItObj T p.2) (c : σ) (h : Heap) (oI : Obj) (hI : h.get? I = some oI) (hc : ItObj T oI) (hl : ∀ p ∈ Led c, h.get? p.1 = some p.2) : ∀ p ∈ Led c, p.1 ≠ I := by
  intro p hp e
  have := hl p hp
  rw [e, hI] at this
  cases this
  exact hcls c p hp hc

theorem forBase {σ : Type} {l : Addr} {vs : List Value} {m₀ : Str → Option Value}
    (Led : σ → List (Addr × Obj)) (ps : σ → List (Str × Value)) (stored : List Str) (P : Nat → σ → Prop) (c₀ : σ)
    (hh : A.handled = none) (hl : h₀.IsList l vs.toArray) (hcls : ∀ c, ∀ p ∈ Led c, ¬ ItObj "list_iterator" p.2)
    (F : Fr h₀ env.locals s.heap m₀) (N : News h₀ env.locals s.heap (Led c₀)) (hk : ∀ p ∈ ps c₀, m₀ p.1 = some p.2) (hp : P 0 c₀)
    (turn : ∀ (c : σ) i v (u : Str → Option Value) h tk I oI, vs[i]? = some v → P i c → (∀ p ∈ Led c, p.1 ≠ I) →
      Fr h₀ env.locals h (fun y => if y = x then some v else kstB (fun z => if stored.contains z then u z else m₀ z) (ps c) y) → News h₀ env.locals h ((I, oI) :: Led c) →
      wpAny (model prog w) A (execs body env) (TPost h₀ env.locals s x Led ps stored m₀ (P (i + 1)) Q (I, oI)) E { s with heap := h, toks := tk })
    (done : ∀ (c : σ) (u : Str → Option Value) h tk, P vs.length c → Fr h₀ env.locals h (fun y => if y = x then u y else kstB (fun z => if stored.contains z then u z else m₀ z) (ps c) y) → News h₀ env.locals h (Led c) → Q .next { s with heap := h, toks := tk }) :
    wpAny (model prog w) A (pyIter (.ref l)) (fun it s₂ => LoopAtV prog w A h₀ env x body Q E it s₂) E s := by
  have hls : s.heap.IsList l vs.toArray := hl.at fun o e => F.keep l o e
  obtain ⟨ol, hol, _⟩ := id hl
  have hlt : l < h₀.objs.size := Heap.lt_size hol
  have hne : l ≠ s.heap.objs.size := Nat.ne_of_lt (Nat.lt_trans (Nat.lt_of_lt_of_le hlt F.above) F.ns.lt)
  refine wpAny_pyIter_list hls ?_
  have W := Walks.list (prog := prog) (w := w) hh s.heap.objs.size l hne vs.toArray
  have hlen : vs.toArray.size = vs.length := by simp
  rw [hlen] at W
  refine loopG (T := "list_iterator") Led ps stored P c₀ W rfl (by simp) ?_ ?_ (next_is_new F) ?_ (cls_ne hcls) ⟨⟨_, Heap.get?_push_size _ rfl, rfl, rfl⟩, hls.at fun o e => Heap.get?_push_of_some _ e⟩ (F.push _) (fun p hp => ⟨Heap.get?_push_of_some _ (N p hp).1, (N p hp).2⟩) hk hp ?_ ?_
  · intro b hb
    rcases List.mem_cons.mp hb with e | hb
    · exact .inl e
    · rw [List.mem_singleton.mp hb]; exact .inr (.inl ⟨ol, hol⟩)
  · intro hm
    rcases List.mem_cons.mp hm with e | hm
    · exact absurd F.ns.lt (e ▸ Nat.lt_irrefl _)
    · exact absurd (Nat.lt_of_lt_of_le hlt F.above) ((List.mem_singleton.mp hm) ▸ Nat.lt_irrefl _)
  · rintro i h ⟨⟨o, ho, hc, hdt⟩, _⟩
    exact ⟨o, ho, hc, _, hdt⟩
  · intro c i v u h tk oI hi hv hP hne F₁ N₁
    exact turn c i v u h tk _ oI (by simpa using hv) hP hne F₁ N₁
  · intro c u h tk hP F₁ N₁
    exact done c u h tk hP F₁ N₁

theorem forLed {σ : Type} {l : Addr} {vs : List Value} {nn : Nat} {m₀ : Str → Option Value}
    (Led : σ → List (Addr × Obj)) (ps : σ → List (Str × Value)) (stored : List Str) (P : Nat → σ → Prop) (c₀ : σ)
    (hh : A.handled = none) (hl : ∀ c, (l, W.listOf vs.toArray nn) ∈ Led c) (hcls : ∀ c, ∀ p ∈ Led c, ¬ ItObj "list_iterator" p.2)
    (F : Fr h₀ env.locals s.heap m₀) (N : News h₀ env.locals s.heap (Led c₀)) (hk : ∀ p ∈ ps c₀, m₀ p.1 = some p.2) (hp : P 0 c₀)
    (turn : ∀ (c : σ) i v (u : Str → Option Value) h tk I oI, vs[i]? = some v → P i c → (∀ p ∈ Led c, p.1 ≠ I) →
      Fr h₀ env.locals h (fun y => if y = x then some v else kstB (fun z => if stored.contains z then u z else m₀ z) (ps c) y) → News h₀ env.locals h ((I, oI) :: Led c) →
      wpAny (model prog w) A (execs body env) (TPost h₀ env.locals s x Led ps stored m₀ (P (i + 1)) Q (I, oI)) E { s with heap := h, toks := tk })
    (done : ∀ (c : σ) (u : Str → Option Value) h tk, P vs.length c → Fr h₀ env.locals h (fun y => if y = x then u y else kstB (fun z => if stored.contains z then u z else m₀ z) (ps c) y) → News h₀ env.locals h (Led c) → Q .next { s with heap := h, toks := tk }) :
    wpAny (model prog w) A (pyIter (.ref l)) (fun it s₂ => LoopAtV prog w A h₀ env x body Q E it s₂) E s := by
  have hol := (N _ (hl c₀)).1
  have hls : s.heap.IsList l vs.toArray := ⟨_, hol, rfl, _, rfl⟩
  have hne : l ≠ s.heap.objs.size := Nat.ne_of_lt (Heap.lt_size hol)
  refine wpAny_pyIter_list hls ?_
  have W := Walks.list (prog := prog) (w := w) hh s.heap.objs.size l hne vs.toArray
  have hlen : vs.toArray.size = vs.length := by simp
  rw [hlen] at W
  refine loopG (T := "list_iterator") Led ps stored P c₀ W rfl (by simp) ?_ ?_ (next_is_new F) ?_ (cls_ne hcls) ⟨⟨_, Heap.get?_push_size _ rfl, rfl, rfl⟩, hls.at fun o e => Heap.get?_push_of_some _ e⟩ (F.push _) (fun p hp => ⟨Heap.get?_push_of_some _ (N p hp).1, (N p hp).2⟩) hk hp ?_ ?_
  · intro b hb
    rcases List.mem_cons.mp hb with e | hb
    · exact .inl e
    · rw [List.mem_singleton.mp hb]; exact .inr (.inr ⟨_, hl⟩)
  · intro hm
    rcases List.mem_cons.mp hm with e | hm
    · exact absurd F.ns.lt (e ▸ Nat.lt_irrefl _)
    · exact (N _ (hl c₀)).2.1 (List.mem_singleton.mp hm).symm
  · rintro i h ⟨⟨o, ho, hc, hdt⟩, _⟩
    exact ⟨o, ho, hc, _, hdt⟩
  · intro c i v u h tk oI hi hv hP hne F₁ N₁
    exact turn c i v u h tk _ oI (by simpa using hv) hP hne F₁ N₁
  · intro c u h tk hP F₁ N₁
    exact done c u h tk hP F₁ N₁

theorem forRange {σ : Type} {r : Addr} {b₀ : Int} {t₀ u₀ v₀ : Tok} {n : Nat} {m₀ : Str → Option Value}
    (Led : σ → List (Addr × Obj)) (ps : σ → List (Str × Value)) (stored : List Str) (P : Nat → σ → Prop) (c₀ : σ)
    (hh : A.handled = none) (hr : IsRange s.heap r 0 b₀ 1 t₀ u₀ v₀) (hsmall : Builtin.Range.small 0 b₀ 1 = true) (hn : Builtin.Range.rangeSize 0 b₀ 1 = (n : Int)) (hcls : ∀ c, ∀ p ∈ Led c, ¬ ItObj "range_iterator" p.2)
    (F : Fr h₀ env.locals s.heap m₀) (N : News h₀ env.locals s.heap (Led c₀)) (hk : ∀ p ∈ ps c₀, m₀ p.1 = some p.2) (hp : P 0 c₀)
    (turn : ∀ (c : σ) (i : Nat) t (u : Str → Option Value) h tk I oI, i < n → P i c → (∀ p ∈ Led c, p.1 ≠ I) →
      Fr h₀ env.locals h (fun y => if y = x then some (.int (i : Int) t) else kstB (fun z => if stored.contains z then u z else m₀ z) (ps c) y) → News h₀ env.locals h ((I, oI) :: Led c) →
      wpAny (model prog w) A (execs body env) (TPost h₀ env.locals s x Led ps stored m₀ (P (i + 1)) Q (I, oI)) E { s with heap := h, toks := tk })
    (done : ∀ (c : σ) (u : Str → Option Value) h tk, P n c → Fr h₀ env.locals h (fun y => if y = x then u y else kstB (fun z => if stored.contains z then u z else m₀ z) (ps c) y) → News h₀ env.locals h (Led c) → Q .next { s with heap := h, toks := tk }) :
    wpAny (model prog w) A (pyIter (.ref r)) (fun it s₂ => LoopAtV prog w A h₀ env x body Q E it s₂) E s := by
  refine wpAny_pyIter_range hr hsmall ?_
  have W : Walks prog w A s.heap.objs.size [s.heap.objs.size] [s.heap.objs.size] n (fun i v => ∃ t, v = .int (0 + i * 1) t)
      (fun i h => IsRangeIter h s.heap.objs.size (0 + (i : Nat) * 1) ((n : Int) - (i : Nat)) 1) := Walks.range hh _ 0 1 n
  refine loopG (T := "range_iterator") Led ps stored P c₀ W rfl (by simp) ?_ ?_ (next_is_new F) ?_ (cls_ne hcls) (by show IsRangeIter _ _ _ _ _; rw [hn]; simpa using Heap.get?_push_size _ rfl) (F.push _) (fun p hp => ⟨Heap.get?_push_of_some _ (N p hp).1, (N p hp).2⟩) hk hp ?_ ?_
  · intro b hb
    exact .inl (List.mem_singleton.mp hb)
  · intro hm
    exact absurd F.ns.lt ((List.mem_singleton.mp hm) ▸ Nat.lt_irrefl _)
  · intro i h hs
    exact ⟨_, hs, rfl, _, rfl⟩
  · rintro c i v u h tk oI hi ⟨t, rfl⟩ hP hne F₁ N₁
    have e1 : (0 : Int) + (i : Int) * 1 = (i : Int) := by omega
    rw [e1] at F₁
    exact turn c i t u h tk _ oI hi hP hne F₁ N₁
  · intro c u h tk hP F₁ N₁
    exact done c u h tk hP F₁ N₁
end
end Mine
end
section
open PySem PySem.W PyProof.Rows PySem.Calls PySem.Spec
namespace Mine
theorem ns_len (w : World) : nsIn (KK w) mainGlobals (Str.ofString "len") = some none := by rfl
theorem ns_range (w : World) : nsIn (KK w) mainGlobals (Str.ofString "range") = some none := by rfl
theorem ns_min (w : World) : nsIn (KK w) mainGlobals (Str.ofString "min") = some none := by rfl
theorem ns_map (w : World) : nsIn (KK w) mainGlobals (Str.ofString "map") = some none := by rfl
theorem ns_str (w : World) : nsIn (KK w) mainGlobals (Str.ofString "str") = some none := by rfl
theorem nameB {M : Model} {A : Around} {E : Value → Shared → Prop} {s : Shared} {w : World} {mean : ExcName → Option Value} {h₀ : Heap} {L a : Addr} {m mg mb : Str → Option Value} {cn : Str} {cs : Scope} {ccd : Value}
    {x : Str} {pos : Pos} {v : Value} {Q : Value → Shared → Prop} (F : Fr h₀ L s.heap m) (H : Here w mean mg mb h₀) (e : nsIn (KK w) mainGlobals x = some none) (hv : bootBuiltins x = some v) (hn : x ≠ "__name__") (h : Q v s)
    (hk : cs.kind = .function) (hx : (envOf cn cs L a ccd).kindOf x = some .globalImplicit) (hd : (x == ("__debug__" : Str)) = false) :
    wpAny M A (eval (.Name x pos) (envOf cn cs L a ccd)) Q E s := name_B F H.X (topRead_of H.T) e hv hn h hk hx hd
theorem isl {h₀ h : Heap} {L l : Addr} {m : Str → Option Value} {xs : Array Value} (F : Fr h₀ L h m) (hp : h₀.IsList l xs) : h.IsList l xs := hp.at fun o e => F.keep l o e
theorem isn {h₀ h : Heap} {L l : Addr} {news : List (Addr × Obj)} {xs : Array Value} {n : Nat} (N : News h₀ L h news) (hm : (l, W.listOf xs n) ∈ news) : h.IsList l xs := ⟨_, (N _ hm).1, rfl, _, rfl⟩
theorem szl {n : Nat} (h : n ≤ 1000000) : n ≤ sizeLine := by unfold sizeLine; omega
section
variable {prog : Program} {w : World} {A : Around} {E : Value → Shared → Prop} {s : Shared} {h₀ : Heap} {L : Addr} {m : Str → Option Value} {news : List (Addr × Obj)}
theorem itemL {value slice : PySem.Expr} {l : Addr} {xs : Array Value} {k : Int} {u : Tok} {v : Value} {Q : Value → Shared → Prop}
    (hl : s.heap.IsList l xs) (h0 : 0 ≤ k) (hhi : k < 2 ^ 63) (hx : xs[k.toNat]? = some v) (h : Q v s)
    (hs : subscripted slice false (.ref l) (.int k u) = operate [.ref l, .int k u] (getItem (.ref l) (.int k u))) :
    wpAny (model prog w) A (subscriptTail value slice (.ref l) (.int k u)) Q E s :=
  tail_any hl.typeIs slot_list_getitem.lookup (wpAny_getItem_list hl h0 hhi hx h) hs
theorem addL {l b : Addr} {xs ys : Array Value} {Q : Value → Shared → Prop} (F : Fr h₀ L s.heap m) (N : News h₀ L s.heap news) (hl : s.heap.IsList l xs) (hb : s.heap.IsList b ys) (hsz : xs.size + ys.size ≤ 1000000)
    (h : ∀ l' h', Fr h₀ L h' m → News h₀ L h' ((l', W.listOf (xs.toList ++ ys.toList).toArray 0) :: news) → (∀ p ∈ news, p.1 < l') → Q (.ref l') { s with heap := h' }) :
    wpAny (model prog w) A (binaryOp .Add (.ref l) (.ref b)) Q E s :=
  add_arrays F N hl hb (fun h' F' N' => h _ h' F' N' fun p hp => Heap.lt_size (N p hp).1) (szl hsz)
end
def inter (st : Value) : List Value → List Value
  | [] => []
  | v :: r => v :: r.flatMap fun x => [st, x]
theorem inter_snoc (st v : Value) : ∀ l : List Value, inter st (l ++ [v]) = if l.length = 0 then [v] else inter st l ++ [st, v]
  | [] => rfl
  | a :: r => by simp [inter]
def rowV (st : Value) (ahead behind : Bool) (vs : List Value) : List Value := (if ahead then [st] else []) ++ inter st vs ++ (if behind then [st] else [])
theorem flat_length (st : Value) : ∀ l : List Value, (l.flatMap fun x => [st, x]).length = 2 * l.length
  | [] => rfl
  | a :: r => by rw [List.flatMap_cons, List.length_append, flat_length st r]; simp; omega
theorem inter_length (st : Value) : ∀ l : List Value, (inter st l).length ≤ 2 * l.length
  | [] => by simp [inter]
  | a :: r => by simp only [inter, List.length_cons, flat_length]; omega
end Mine
end
section
open PySem PySem.W PyProof.Rows PySem.Calls PySem.Spec Builtin Builtin.ObjectAttr
namespace Mine
theorem slot_md : Slot "method_descriptor" "__get__" "method_descriptor.__get__" :=
  .of (owner := "method_descriptor") (n := "__get__") (by rw [typeLookup_type, builtinLookup_eq_fast]; kernel_rfl) (by decide +kernel) (by decide +kernel) (by decide +kernel)
    (by first | exact .inl (by decide +kernel) | exact .inr (by decide +kernel)) (by rw [isSubtype_type]; kernel_rfl)
theorem entry_md : entryFor table "method_descriptor.__get__" = some Builtin.«method_descriptor.__get__» := entryFor_of_tree (by kernel_rfl)
theorem args_md (a b c : Value) : argsOk "method_descriptor.__get__" ⟨[a, b, c], []⟩ := by unfold argsOk; kernel_rfl
theorem type_la : typeOf (.builtin "list.append") = pure (.type "method_descriptor") := by show builtinType _ = _; rw [builtinType_eq_fast]; kernel_rfl
theorem md_noset : typeLookup (.type "method_descriptor") "__set__" = pure none := by rw [typeLookup_type, builtinLookup_eq_fast]; kernel_rfl
theorem md_nodel : typeLookup (.type "method_descriptor") "__delete__" = pure none := by rw [typeLookup_type, builtinLookup_eq_fast]; kernel_rfl
theorem sub_list : isSubtype (.type "list") (.type "list") = pure true := by rw [isSubtype_type]; kernel_rfl
theorem told_la : Manifest.toldItsClass.contains "list.append" = false := by decide +kernel
theorem own_la : ".".intercalate ("list.append".cutAt '.').dropLast = "list" := by decide +kernel
abbrev boundAppend (a : Addr) : Obj := { cls := .type "builtin_function_or_method", data := .fields #[.builtin "list.append", .ref a] }
theorem md_get {prog : Program} {w : World} {A : Around} {E : Value → Shared → Prop} {s : Shared} {a : Addr} {o : Obj} {Q : Value → Shared → Prop}
    (ho : s.heap.get? a = some o) (hc : o.cls = .type "list")
    (h : Q (.ref s.heap.objs.size) { s with heap := s.heap.push (boundAppend a) }) :
    wpAny (model prog w) A (call (.builtin "method_descriptor.__get__") [.builtin "list.append", .ref a, .type "list"]) Q E s := by
  have hT : s.TypeIs (.builtin "list.append") "method_descriptor" := type_la
  have hT2 : s.TypeIs (.ref a) "list" := ⟨_, ho, hc⟩
  refine wpAny_call_entry slot_md hT entry_md ?_ (args_md _ _ _)
  have f1 := sub_list
  have f2 := told_la
  unfold Builtin.«method_descriptor.__get__»
  repeat (any_goals (first | assumption | wp_step))
  rw [own_la]
  refine wpAny_of_eq f1 ?_
  simp only [Bool.not_true, Bool.false_eq_true, if_false]
  refine wpAny_pure (wpAny_bind ?_)
  unfold newFields
  refine wpAny_newObj_type ?_ (by size_fits)
  exact wpAny_pure ⟨_, rfl, h⟩
theorem entry_lga : entryFor table "list.__getattribute__" = some Builtin.«object.__getattribute__» :=
  entryFor_alias (id' := "object.__getattribute__") (by kernel_rfl) (by decide +kernel) (by decide +kernel) (by kernel_rfl)
theorem la_getattribute {prog : Program} {w : World} {A : Around} {E : Value → Shared → Prop} {s : Shared} {a : Addr} {xs : Array Value} {n : Nat} {u : Tok} {Q : Value → Shared → Prop}
    (ho : s.heap.get? a = some (W.listOf xs n))
    (h : Q (.ref s.heap.objs.size) { s with heap := s.heap.push (boundAppend a) }) :
    wpAny (model prog w) A (call (.builtin "list.__getattribute__") [.ref a, .str (Str.ofString "append") u]) Q E s := by
  have hT2 : s.TypeIs (.ref a) "list" := ⟨_, ho, rfl⟩
  refine wpAny_call_entry F.slot_list_getattribute hT2 entry_lga ?_ (F.args_list_getattribute_2 _ _)
  have f1 := F.slot_list_append.lookup
  have f2 := slot_md.lookup
  have f3 := md_noset
  have f4 := md_nodel
  have f5 := type_la
  unfold Builtin.«object.__getattribute__»
  repeat (any_goals (first | assumption | ((with_reducible show wpAny _ _ (call (Value.builtin "method_descriptor.__get__") _ _) _ _ _); refine md_get ho rfl ?_) | wp_step))
  exact ⟨_, rfl, h⟩
theorem la_getAttr {prog : Program} {w : World} {A : Around} {E : Value → Shared → Prop} {s : Shared} {a : Addr} {xs : Array Value} {n : Nat} {b : Bool} {Q : Value → Shared → Prop}
    (ho : s.heap.get? a = some (W.listOf xs n))
    (h : Q (.ref s.heap.objs.size) { s with heap := s.heap.push (boundAppend a), toks := s.toks + 1 }) :
    wpAny (model prog w) A (getAttr (.ref a) (Str.ofString "append") b) Q E s := by
  obtain ⟨hp, g, d, tk, os⟩ := s
  have hT : ∀ tk', (⟨hp, g, d, tk', os⟩ : Shared).TypeIs (.ref a) "list" := fun _ => ⟨_, ho, rfl⟩
  have f3 := F.slot_list_getattribute.lookup
  have f4 := F.slot_list_getattribute.bind (.ref a)
  have f5 := list_getattr_none
  unfold getAttr getAttrBy
  repeat (any_goals (first | assumption | exact hT _ | ((with_reducible show wpAny _ _ (call (Value.builtin "list.__getattribute__") _ _) _ _ _); refine la_getattribute ho ?_) | wp_step))
  rw [show (b && onTheHeap (Value.builtin "list.__getattribute__")) = false by cases b <;> rfl]
  simp only [Bool.false_eq_true, if_false]
  repeat (any_goals (first | assumption | exact hT _ | ((with_reducible show wpAny _ _ (call (Value.builtin "list.__getattribute__") _ _) _ _ _); refine la_getattribute ho ?_) | wp_step))
end Mine
end
section
open PySem PySem.W PyProof.Rows PySem.Calls PySem.Spec Builtin Builtin.ObjectAttr
namespace Mine
theorem la_sig (a b : Value) : (match Manifest.signature? "list.append" with | some sig => Bind.checkArgs "list.append" { sig with full := s!"{Bind.lastOf "list"}.{Bind.lastOf "list.append"}" } ⟨[a, b], []⟩ | none => pure ()) = pure () := by kernel_rfl
theorem la_kind : builtinKind "list.append" = some .method := by kernel_rfl
theorem la_var : Manifest.varargsMethods.contains "list.append" = false := by decide +kernel
theorem sub_list_module : isSubtype (.type "list") (.type "module") = pure false := by rw [isSubtype_type]; kernel_rfl
theorem la_check {M : Model} {A : Around} {E : Value → Shared → Prop} {s : Shared} {D : Addr} {x : Value} {o : Obj} {Q : Unit → Shared → Prop} (ho : s.heap.get? D = some o) (hc : o.cls = .type "list") (hd : ∀ c, o.data ≠ .cls c) (h : Q () s) :
    wpAny M A (checkBoundCall "list.append" ⟨[.ref D, x], []⟩) Q E s := by
  have hT : s.TypeIs (.ref D) "list" := ⟨_, ho, hc⟩
  unfold checkBoundCall
  have hs := la_sig (.ref D) x
  cases hsig : Manifest.signature? "list.append" with
  | none => exact wpAny_pure h
  | some sig =>
    rw [hsig] at hs
    simp only [la_kind] at hs ⊢
    refine wpAny_bind (wpAny_isInstance hT sub_list_module ?_)
    simp only [la_var, Bool.or_false, Bool.false_eq_true, if_false]
    have hld : wpAny M A (isType (.ref D)) (fun b s' => b = false ∧ s' = s) E s := by
      unfold isType
      refine wpAny_bind (wpAny_loadPart ho (wpAny_pure ⟨?_, rfl⟩))
      split
      · rename_i c e; exact absurd e (hd c)
      · rfl
    repeat (first | (with_reducible refine wpAny_bind ?_) | (refine wpAny_mono hld ?_ (fun _ _ e => e); rintro b s' ⟨rfl, rfl⟩) | (refine wpAny_typeOf hT ?_) | (simp only [Bool.false_eq_true, if_false]))
    exact wpAny_of_eq hs h
section
variable {prog : Program} {w : World} {A : Around} {E : Value → Shared → Prop} {s : Shared} {h₀ : Heap} {L : Addr} {m : Str → Option Value} {news news' : List (Addr × Obj)}
theorem ba_call {q D : Addr} {its : Array Value} {n : Nat} {x : Value} {Q : Value → Shared → Prop} (hq : s.heap.get? q = some (boundAppend D)) (ho : s.heap.get? D = some (W.listOf its n)) (hz : its.size ≤ 1000000)
    (h : ∀ h', Heap.SameBut D s.heap h' → h'.get? D = some (W.listOf (its.push x) (n + 1)) → Q .none { s with heap := h' }) :
    wpAny (model prog w) A (call (.ref q) [x]) Q E s := by
  refine wpAny_call (codeAny_of_tree ?_)
  show wpAny _ _ (callAny (.ref q) _) _ _ _
  refine nd_load hq ?_
  show wpAny _ _ (do checkBoundCall "list.append" ⟨[.ref D, x], []⟩; again (.builtin "list.append" ⟨[.ref D, x], []⟩)) _ _ _
  refine wpAny_bind (la_check ho rfl (fun c => by simp) ?_)
  refine wpAny_pure ⟨plainId_quiet (id := "list.append") (by decide +kernel) _, ?_⟩
  refine codeAny_builtin entry_list_append ?_
  show wpAny _ _ (updateSeq D (·.push x) >>= fun _ => ret .none) _ _ s
  refine wpAny_bind ?_
  have hz' := szl hz
  refine wpAny_updateSeq ho rfl (wpAny_pure ?_) hz' (by rw [Array.size_push]; omega)
  refine h _ (Heap.SameBut.update ..) ?_
  rw [Heap.get?_update_self _ ho (by rw [mapSeq_push]; rfl), mapSeq_push]
theorem ba_callK {q D : Addr} {its : Array Value} {n : Nat} {x : Value} {Q : Value → Shared → Prop} (F : Fr h₀ L s.heap m) (N : News h₀ L s.heap news) (hq : (q, boundAppend D) ∈ news) (U : Upd D (W.listOf its n) (W.listOf (its.push x) (n + 1)) news news') (hz : its.size ≤ 1000000)
    (h : ∀ h', Fr h₀ L h' m → News h₀ L h' news' → Q .none { s with heap := h' }) : wpAny (model prog w) A (call (.ref q) [x]) Q E s := by
  obtain ⟨pre, post, rfl, rfl, a, b⟩ := U.split
  have z := N (D, W.listOf its n) (List.mem_append.mpr (.inr (.head _)))
  exact ba_call (N _ hq).1 z.1 hz fun h' hs ho' => h h' (F.change hs z.2.1 z.2.2) (news_set N a b hs ho')
theorem ba_getAttr {D : Addr} {its : Array Value} {n : Nat} {b : Bool} {Q : Value → Shared → Prop} (F : Fr h₀ L s.heap m) (N : News h₀ L s.heap news) (hm : (D, W.listOf its n) ∈ news)
    (h : ∀ l h', Fr h₀ L h' m → News h₀ L h' ((l, boundAppend D) :: news) → (∀ p ∈ news, p.1 < l) → Q (.ref l) { s with heap := h', toks := s.toks + 1 }) :
    wpAny (model prog w) A (getAttr (.ref D) (Str.ofString "append") b) Q E s :=
  la_getAttr (N _ hm).1 (h _ _ (F.push _) (N.push F _) fun p hp => Heap.lt_size (N p hp).1)
theorem ba_callWith {q D : Addr} {pos : Pos} {env : Env} {e : Expr} {Q : Value → Shared → Prop} (h : wpAny (model prog w) A (spliced (backTo pos (starEach [e] env))) (fun vs s₁ => s₁.heap.get? q = some (boundAppend D) ∧ wpAny (model prog w) A (call (.ref q) ([] ++ vs)) Q E s₁) E s)
    (he : starEach [e] env = (false, eval e env) :: starEach [] env) :
    wpAny (model prog w) A (callWith pos (.ref q) [] (backTo pos (starEach [e] env)) []) Q E s := by
  rw [he] at h ⊢
  refine callWith_of (P := fun h => h.get? q = some (boundAppend D)) rfl (fun h hq => ⟨.machine, .inr (.inl rfl), (Looks.ld (part := none) hq).andThen .now⟩) (evalArgs_plain h)
end
end Mine
end
section
open PySem PySem.W PyProof.Rows PySem.Calls PySem.Spec
namespace Mine
theorem flat_even (st : Value) : ∀ (l : List Value) (j : Nat), j < l.length → (l.flatMap fun x => [st, x])[2 * j]? = some st
  | [], _, h => absurd h (Nat.not_lt_zero _)
  | a :: r, 0, _ => by simp
  | a :: r, j + 1, h => by
    have ih := flat_even st r j (by simpa using h)
    rw [List.flatMap_cons, List.getElem?_append_right (by simp; omega)]
    rw [show 2 * (j + 1) - [st, a].length = 2 * j by simp; omega]
    exact ih
theorem flat_odd (st : Value) : ∀ (l : List Value) (j : Nat), (l.flatMap fun x => [st, x])[2 * j + 1]? = l[j]?
  | [], _ => by simp
  | a :: r, 0 => by simp
  | a :: r, j + 1 => by
    have ih := flat_odd st r j
    rw [List.flatMap_cons, List.getElem?_append_right (by simp; omega)]
    rw [show 2 * (j + 1) + 1 - [st, a].length = 2 * j + 1 by simp; omega]
    simpa using ih
section
variable {st : Value} {pre rest xs : List Value} {behind : Bool} (hx : xs = pre ++ (rest.flatMap fun v => [st, v]) ++ (if behind then [st] else []))
include hx
theorem jx_len : xs.length = pre.length + 2 * rest.length + (if behind then 1 else 0) := by
  rw [hx, List.length_append, List.length_append, flat_length]
  split <;> simp
theorem jx_pre {k : Nat} (h : k < pre.length) : xs[k]? = pre[k]? := by rw [hx, List.append_assoc, List.getElem?_append_left h]
theorem jx_star {j : Nat} (h : j < rest.length) : xs[pre.length + 2 * j]? = some st := by
  rw [hx, List.append_assoc, List.getElem?_append_right (by omega), List.getElem?_append_left (by rw [flat_length]; omega)]
  rw [show pre.length + 2 * j - pre.length = 2 * j by omega]
  exact flat_even _ _ _ h
theorem jx_last (h : behind = true) : xs[pre.length + 2 * rest.length]? = some st := by
  subst h
  rw [hx, List.getElem?_append_right (by rw [List.length_append, flat_length]; omega)]
  rw [List.length_append, flat_length, Nat.sub_self]
  rfl
theorem jx_item {j : Nat} (h : j < rest.length) : xs[pre.length + 2 * j + 1]? = rest[j]? := by
  rw [hx, List.append_assoc, List.getElem?_append_right (by omega), List.getElem?_append_left (by rw [flat_length]; omega)]
  rw [show pre.length + 2 * j + 1 - pre.length = 2 * j + 1 by omega]
  exact flat_odd _ _ _
end
def resOf (behind : Bool) : List Str → List Str
  | [] => if behind then [Str.ofString ".*"] else []
  | r :: [] => if behind then [Str.ofString "(?>.*?" ++ r ++ Str.ofString ")", Str.ofString ".*"] else [Str.ofString ".*", r]
  | r :: rs => (Str.ofString "(?>.*?" ++ r ++ Str.ofString ")") :: resOf behind rs
theorem resOf_group {behind : Bool} {r : Str} {rs : List Str} (h : behind = true ∨ rs ≠ []) : resOf behind (r :: rs) = (Str.ofString "(?>.*?" ++ r ++ Str.ofString ")") :: resOf behind rs := by
  cases rs with
  | nil => rcases h with h | h; subst h; rfl; exact absurd rfl h
  | cons a b => rfl
end Mine
end
section
open PySem PySem.W PyProof.Rows PySem.Calls PySem.Spec
namespace Mine
theorem es_eq : Str.ofString "" = ⟨#[]⟩ := by decide +kernel
theorem tj_eq (sep : Str) (l : List Str) : Txt.join sep l = Str.join sep l := by unfold Txt.join; rw [StrLaws.glued_eq_join]
structure TailStr (acc : List Value) (x : Str) (ys : List Str) : Prop where
  out : ∀ tt, StrsAre (acc ++ [.str x tt]) ys
theorem TailStr.use {acc : List Value} {x : Str} {ys : List Str} (T : TailStr acc x ys) {tt : Tok} : StrsAre (acc.toArray.push (.str x tt)).toList ys := by simpa using T.out tt
section
variable {prog : Program} {w : World} {A : Around} {E : Value → Shared → Prop} {s : Shared} {x : Str} {t : Tok} {Q : Value → Shared → Prop}
theorem joinE {D : Addr} {items : Array Value} {ys : List Str} (hl : s.heap.IsList D items) (hi : StrsAre items.toList ys) (hok : (ys.map (·.length)).sum ≤ 1000000)
    (h : ∀ t' k, Q (.str (Str.join ⟨#[]⟩ ys) t') { s with toks := k }) : wpAny (model prog w) A (call (.builtin "str.join") [.str (Str.ofString "") t, .ref D]) Q E s :=
  join_list hl hi (by rw [es_eq]; show _ + ys.length * 0 ≤ _; omega) (fun t' k => by rw [tj_eq, es_eq]; exact h t' k)
theorem joinY {D : Addr} {items : Array Value} {ys : List Str} (hl : s.heap.IsList D items) (hi : StrsAre items.toList ys) (hok : (ys.map (·.length)).sum ≤ 1000000)
    (h : ∀ y t' k, y = Str.join ⟨#[]⟩ ys → y.length ≤ 1000000 → Q (.str y t') { s with toks := k }) : wpAny (model prog w) A (call (.builtin "str.join") [.str (Str.ofString "") t, .ref D]) Q E s :=
  joinE hl hi hok fun t' k => h _ t' k rfl (by have := StrLaws.join_length_le ⟨#[]⟩ ys; have e : (⟨#[]⟩ : Str).length = 0 := rfl; rw [e, Nat.mul_zero] at this; omega)
theorem joinE1 {D : Addr} {items : Array Value} {y : Str} (hl : s.heap.IsList D items) (hi : StrsAre items.toList [y]) (hok : y.length ≤ 1000000)
    (h : ∀ t' k, Q (.str y t') { s with toks := k }) : wpAny (model prog w) A (call (.builtin "str.join") [.str (Str.ofString "") t, .ref D]) Q E s :=
  joinE hl hi (by simpa using hok) h
theorem lenT {l : Addr} {vs : List Value} (hl : s.heap.IsList l vs.toArray) (hz : vs.length ≤ 16384) (h : Q (.int vs.length (s.toks + 1)) { s with toks := s.toks + 1 + 1 }) :
    wpAny (model prog w) A (call (.builtin "len") [.ref l]) Q E s := kun_lenL hl (by simp) (by omega) h
end
end Mine
end
section
open PySem PySem.W PyProof.Rows PySem.Calls PySem.Spec
namespace Mine
theorem enterC {prog : Program} {w : World} {A : Around} {s : Shared} {Q E : Value → Shared → Prop} {K : Frag} {p : Program} {loose : List Str} {mean : ExcName → Option Value} {mg mb : Str → Option Value}
    {f : Addr} {args : List Value} {binds : List (Str × Value)} {oc : Value} {od : Option Addr} {osl : Array (Option Value)} {name : Str} {params : Arguments} {body : List Stmt} {scope : Scope} {doc pm cdv : Value}
    (X : K.In s.heap) (T : Top p loose mean mg mb s.heap)
    (ho : K.lookup f = some ⟨oc, od, .func (fnOf name name params body scope .none .none doc pm none cdv .none), osl⟩) (hcd : codeIn K cdv name = true) (hroom : A.depth < recursionLimit)
    (hbind : bindArgs (fnOf name name params body scope .none .none doc pm none cdv .none) ⟨args, []⟩ = pure binds)
    (hkind : (binds.all fun y => scope.names.lookup y.1 == some .local || scope.names.lookup y.1 == some .cell) = true) (hnd : ((cellsFrom 0 scope.names []).map (·.1)).Nodup)
    (h : ∀ L h₁ tk cells, Fr s.heap L h₁ (bindL (envOfC name scope L f cdv).kindOf binds fun _ => none) → News s.heap L h₁ cells →
      CellsAre (bindC (envOfC name scope L f cdv).kindOf binds fun _ => none) (cellsFrom (L + 1) scope.names []) cells →
      wpAny (model prog w) (A.deeper (envOfC name scope L f cdv)) (execs body (envOfC name scope L f cdv)) (fun fl s' => Q (match fl with | .ret v => v | _ => .none) s') (fun _ _ => False) { s with heap := h₁, toks := tk })
    (hco : scope.isCoroutine = false := by rfl) (hgen : scope.isGenerator = false := by rfl) (hk : scope.kind = .function := by rfl) :
    wpAny (model prog w) A (call (.ref f) args) Q E s := by
  refine wpAny_call ?_
  refine call_cellsN_ret (name := name) (params := params) (body := body) (scope := scope) (pm := pm) (cd := cdv) (doc := doc) hroom (X _ _ ho) rfl T.nolimit (codeRec_of X hcd) hbind (kindsX hkind _) hnd (fun h₁ tk cells F N Y => ?_) hco hgen hk
  exact h s.heap.objs.size h₁ tk cells F N Y
end Mine
end
section
open PySem PySem.W PyProof.Rows PySem.Calls PySem.Spec
namespace Mine
theorem pick_init (l : List Value) : kms_pick l none (some (-1)) = l.dropLast := by
  unfold kms_pick kms_lo kms_hi
  simp [List.dropLast_eq_take]
theorem pick_initP (xs : Array Value) (v : Value) : kms_pick (xs.push v).toList none (some (-1)) = xs.toList := by rw [pick_init]; simp
theorem pick_initA (vs : List Value) (v : Value) : kms_pick (vs ++ [v]).toArray.toList none (some (-1)) = vs := by rw [pick_init]; simp
theorem pick_tail (l : List Value) : kms_pick l (some 1) none = l.tail := by
  unfold kms_pick kms_lo kms_hi
  cases l with
  | nil => simp
  | cons a r => simp
section
variable {prog : Program} {w : World} {A : Around} {E : Value → Shared → Prop} {s : Shared} {h₀ : Heap} {L : Addr} {m : Str → Option Value} {news : List (Addr × Obj)} {Q : Value → Shared → Prop}
theorem addS {x y : Str} {t u : Tok} (hz : x.length + y.length ≤ 1000000) (h : ∀ t' k, Q (.str (x ++ y) t') { s with toks := k }) : wpAny (model prog w) A (binaryOp .Add (.str x t) (.str y u)) Q E s :=
  PyProof.Rows.add_str h (szl hz)
theorem iaddS {x y : Str} {t u : Tok} (hz : x.length + y.length ≤ 1000000) (h : ∀ t' k, Q (.str (x ++ y) t') { s with toks := k }) : wpAny (model prog w) A (inplaceOp .Add (.str x t) (.str y u)) Q E s :=
  PyProof.Rows.iadd_str h (szl hz)
theorem itemLast {value slice : PySem.Expr} {l : Addr} {vs : List Value} {v : Value} {u : Tok}
    (hl : s.heap.IsList l (vs ++ [v]).toArray) (hz : vs.length ≤ 1000000) (h : Q v s)
    (hs : subscripted slice false (.ref l) (.int (-1) u) = operate [.ref l, .int (-1) u] (getItem (.ref l) (.int (-1) u))) :
    wpAny (model prog w) A (subscriptTail value slice (.ref l) (.int (-1) u)) Q E s :=
  tail_any hl.typeIs slot_list_getitem.lookup (wpAny_getItem_list_neg hl (by decide) (by simp; omega) (by decide) (by
    have e : ((-1 : Int) + ((vs ++ [v]).toArray.size : Int)).toNat = vs.length := by simp only [List.size_toArray, List.length_append, List.length_cons, List.length_nil]; omega
    rw [e]; simp) h) hs
theorem itemLastP {value slice : PySem.Expr} {l : Addr} {xs : Array Value} {v : Value} {u : Tok}
    (hl : s.heap.IsList l (xs.push v)) (hz : xs.size ≤ 1000000) (h : Q v s)
    (hs : subscripted slice false (.ref l) (.int (-1) u) = operate [.ref l, .int (-1) u] (getItem (.ref l) (.int (-1) u))) :
    wpAny (model prog w) A (subscriptTail value slice (.ref l) (.int (-1) u)) Q E s :=
  tail_any hl.typeIs slot_list_getitem.lookup (wpAny_getItem_list_neg hl (by decide) (by simp; omega) (by decide) (by
    have e : ((-1 : Int) + ((xs.push v).size : Int)).toNat = xs.size := by rw [Array.size_push]; omega
    rw [e]; simp) h) hs
theorem sliceL {value slice : PySem.Expr} {l : Addr} {items : Array Value} {zs : List Value} {vl vu : Value} {lo hi : Option Int}
    (F : Fr h₀ L s.heap m) (N : News h₀ L s.heap news) (hl : s.heap.IsList l items) (pl : IsPart vl lo) (pu : IsPart vu hi) (e : kms_pick items.toList lo hi = zs) (hz : items.size ≤ 1000000)
    (h : ∀ D h', Fr h₀ L h' m → News h₀ L h' ((D, W.listOf zs.toArray 0) :: news) → (∀ p ∈ news, p.1 < D) → Q (.ref D) { s with heap := h' })
    (hs : subscripted slice false (.ref l) (.ref s.heap.objs.size) = operate [.ref s.heap.objs.size, .ref l] (getItem (.ref l) (.ref s.heap.objs.size))) :
    wpAny (model prog w) A (subscriptTail value slice (.ref l) (.ref s.heap.objs.size)) Q E { s with heap := s.heap.push { cls := .type "slice", data := .fields #[vl, vu, .none] } } := by
  refine tail_any (Heap.IsList.typeIs (s := { s with heap := s.heap.push { cls := .type "slice", data := .fields #[vl, vu, .none] } }) (hl.push _)) slot_list_getitem.lookup
    (wpAny_getItem_list_slice (hl.push _) (Heap.IsSliceOf.new ..) pl pu .none (by simp) ?_ (szl hz)) hs
  have N1 := News.push (F.push { cls := .type "slice", data := .fields #[vl, vu, .none] }) (N.grown fun _ _ e => Heap.get?_push_of_some _ e) { cls := .type "list", data := .seq (slicePick items lo hi none) }
  rw [kms_pick_eq, e] at N1 ⊢
  refine h _ _ ((F.push _).push _) N1 fun p hp => ?_
  rw [Heap.size_push]
  exact Nat.lt_succ_of_lt (Heap.lt_size (N p hp).1)
def pick3 (a b c : Str) (k : Int) : Str := if k = 0 then a else if k = 1 then b else c
theorem itemTab3 {value slice : PySem.Expr} {l : Addr} {a b c : Str} {t0 t1 t2 : Tok} {k : Int} {u : Tok}
    (hl : s.heap.IsList l #[.str a t0, .str b t1, .str c t2]) (h0 : 0 ≤ k) (h3 : k < 3) (h : ∀ t, Q (.str (pick3 a b c k) t) s)
    (hs : subscripted slice false (.ref l) (.int k u) = operate [.ref l, .int k u] (getItem (.ref l) (.int k u))) :
    wpAny (model prog w) A (subscriptTail value slice (.ref l) (.int k u)) Q E s := by
  have : k = 0 ∨ k = 1 ∨ k = 2 := by omega
  rcases this with rfl | rfl | rfl
  · exact itemL hl (by decide) (by decide) rfl (h t0) hs
  · exact itemL hl (by decide) (by decide) rfl (h t1) hs
  · exact itemL hl (by decide) (by decide) rfl (h t2) hs
end
end Mine
end
section
open PySem PySem.W PyProof.Rows PySem.Calls PySem.Spec
namespace Mine
/-! what _law_built computes, one number at a time -/
structure BS where
  line : Str
  row : Str
  words : List Str
  sought : List Str
def smallOf (x : Int) : Str := Txt.item (Str.ofString "ab") ((x.fdiv 8).fmod 2)
def greatOf (x : Int) : Str := Txt.item (Str.ofString "AB") ((x.fdiv 8).fmod 2)
def capOf (x : Int) : Bool := decide (((x.fdiv 8).fdiv 2).fmod 2 = 1)
def wsOf (x : Int) : Str := pick3 (Str.ofString " ") (Str.ofString "\t") (Str.ofString " \n ") (((x.fdiv 8).fdiv 4).fmod 3)
def addLast (l : List Str) (y : Str) : List Str := l.dropLast ++ [l.getLastD ⟨#[]⟩ ++ y]
def lstep (σ : Str × List Str) (x : Int) : Str × List Str :=
  if [4, 5].any (· == x.fmod 8) then σ
  else if [0, 2, 6].any (· == x.fmod 8) then (σ.1 ++ wsOf x ++ (if capOf x then greatOf x else smallOf x), σ.2 ++ [smallOf x])
  else (σ.1 ++ (if capOf x then greatOf x else smallOf x), addLast σ.2 (smallOf x))
def rstep (σ : Str × List Str) (x : Int) : Str × List Str :=
  if [2, 3].any (· == x.fmod 8) then σ
  else if [0, 4, 6].any (· == x.fmod 8) then (σ.1 ++ Str.ofString " " ++ (if capOf x then smallOf x else greatOf x), σ.2 ++ [smallOf x])
  else (σ.1 ++ (if capOf x then smallOf x else greatOf x), addLast σ.2 (smallOf x))
theorem small_len (x : Int) : (smallOf x).length = 1 := by
  have h : (x.fdiv 8).fmod 2 = 0 ∨ (x.fdiv 8).fmod 2 = 1 := by
    have := Int.fmod_nonneg_of_pos (x.fdiv 8) (b := 2) (by decide)
    have := Int.fmod_lt_of_pos (x.fdiv 8) (b := 2) (by decide)
    omega
  unfold smallOf
  rcases h with h | h <;> rw [h] <;> decide +kernel
theorem great_len (x : Int) : (greatOf x).length = 1 := by
  have h : (x.fdiv 8).fmod 2 = 0 ∨ (x.fdiv 8).fmod 2 = 1 := by
    have := Int.fmod_nonneg_of_pos (x.fdiv 8) (b := 2) (by decide)
    have := Int.fmod_lt_of_pos (x.fdiv 8) (b := 2) (by decide)
    omega
  unfold greatOf
  rcases h with h | h <;> rw [h] <;> decide +kernel
theorem ws_idx (x : Int) : 0 ≤ ((x.fdiv 8).fdiv 4).fmod 3 ∧ ((x.fdiv 8).fdiv 4).fmod 3 < 3 :=
  ⟨Int.fmod_nonneg_of_pos _ (by decide), Int.fmod_lt_of_pos _ (by decide)⟩
theorem ws_len (x : Int) : (wsOf x).length ≤ 3 := by
  unfold wsOf pick3
  split
  · decide +kernel
  · split <;> decide +kernel
theorem ite_nf {b : Bool} {P Q : Prop} (hb : b = true) (h : Q) : if (!b) = true then P else Q := by subst hb; simpa using h
theorem ite_nt {b : Bool} {P Q : Prop} (hb : b = false) (h : P) : if (!b) = true then P else Q := by subst hb; simpa using h
theorem ite_bt {b : Bool} {P Q : Prop} (hb : b = true) (h : P) : if b = true then P else Q := by subst hb; simpa using h
theorem ite_bf {b : Bool} {P Q : Prop} (hb : b = false) (h : Q) : if b = true then P else Q := by subst hb; simpa using h
theorem take_fold {α : Type} {ns : List Int} {i : Nat} {x : Int} (f : α → Int → α) (z : α) (h : ns[i]? = some x) : (ns.take (i + 1)).foldl f z = f ((ns.take i).foldl f z) x := by
  rw [List.take_add_one, h]
  simp
theorem es_app (y : Str) : Str.ofString "" ++ y = y := by rw [es_eq]; exact Str.empty_append y
theorem addLast_snoc (l : List Str) (y z : Str) : addLast (l ++ [y]) z = l ++ [y ++ z] := by simp [addLast]
theorem lstep_same {σ : Str × List Str} {x : Int} (k : ([4, 5].any fun y => y == x.fmod 8) = true) : lstep σ x = σ := by unfold lstep; rw [if_pos k]
theorem lstep_begin {l : Str} {ws : List Str} {x : Int} (k1 : ([4, 5].any fun y => y == x.fmod 8) = false) (k2 : ([0, 2, 6].any fun y => y == x.fmod 8) = true) : lstep (l, ws) x = (l ++ wsOf x ++ (if capOf x then greatOf x else smallOf x), ws ++ [smallOf x]) := by unfold lstep; rw [if_neg (by rw [k1]; decide), if_pos k2]
theorem lstep_add {l : Str} {ws : List Str} {x : Int} (k1 : ([4, 5].any fun y => y == x.fmod 8) = false) (k2 : ([0, 2, 6].any fun y => y == x.fmod 8) = false) : lstep (l, ws) x = (l ++ (if capOf x then greatOf x else smallOf x), addLast ws (smallOf x)) := by unfold lstep; rw [if_neg (by rw [k1]; decide), if_neg (by rw [k2]; decide)]
theorem rstep_same {σ : Str × List Str} {x : Int} (k : ([2, 3].any fun y => y == x.fmod 8) = true) : rstep σ x = σ := by unfold rstep; rw [if_pos k]
theorem rstep_begin {l : Str} {ws : List Str} {x : Int} (k1 : ([2, 3].any fun y => y == x.fmod 8) = false) (k2 : ([0, 4, 6].any fun y => y == x.fmod 8) = true) : rstep (l, ws) x = (l ++ Str.ofString " " ++ (if capOf x then smallOf x else greatOf x), ws ++ [smallOf x]) := by unfold rstep; rw [if_neg (by rw [k1]; decide), if_pos k2]
theorem rstep_add {l : Str} {ws : List Str} {x : Int} (k1 : ([2, 3].any fun y => y == x.fmod 8) = false) (k2 : ([0, 4, 6].any fun y => y == x.fmod 8) = false) : rstep (l, ws) x = (l ++ (if capOf x then smallOf x else greatOf x), addLast ws (smallOf x)) := by unfold rstep; rw [if_neg (by rw [k1]; decide), if_neg (by rw [k2]; decide)]
theorem strs_snoc {vs : List Value} {ss : List Str} (h : StrsAre vs ss) : vs ≠ [] → ∃ vi si y t, vs = vi ++ [.str y t] ∧ ss = si ++ [y] ∧ StrsAre vi si := by
  induction h with
  | nil => intro e; exact absurd rfl e
  | @cons y t vs' ss' r ih =>
    intro _
    by_cases e : vs' = []
    · subst e
      cases r
      exact ⟨[], [], y, t, rfl, rfl, .nil⟩
    · obtain ⟨vi, si, y', t', e1, e2, h⟩ := ih e
      exact ⟨.str y t :: vi, y :: si, y', t', by rw [e1]; rfl, by rw [e2]; rfl, .cons y t h⟩
theorem ite_pt {c : Prop} {inst : Decidable c} {P Q : Prop} (hc : c) (h : P) : @ite Prop c inst P Q := by rw [if_pos hc]; exact h
theorem ite_pf {c : Prop} {inst : Decidable c} {P Q : Prop} (hc : ¬ c) (h : Q) : @ite Prop c inst P Q := by rw [if_neg hc]; exact h
theorem ite_dt {c : Prop} {inst : Decidable c} {P Q : Prop} (hc : c) (h : P) : if (@decide c inst) = true then P else Q := by rw [if_pos (decide_eq_true hc)]; exact h
theorem ite_df {c : Prop} {inst : Decidable c} {P Q : Prop} (hc : ¬ c) (h : Q) : if (@decide c inst) = true then P else Q := by rw [if_neg (by simp [hc])]; exact h
end Mine
end
section
open PySem PySem.W PyProof.Rows PySem.Calls PySem.Spec
namespace Mine
theorem ite_names {M : Model} {A : Around} {E : Value → Shared → Prop} {s : Shared} {name : Str} {scope : Scope} {L a : Addr} {cd : Value} {h₀ : Heap} {m : Str → Option Value}
    {c : Prop} {inst : Decidable c} {x y : Str} {pos pos' : Pos} {u v : Str} {tu tv : Tok} {Q : Value → Shared → Prop} (F : Fr h₀ L s.heap m) (hx : m x = some (.str u tu)) (hy : m y = some (.str v tv))
    (lu : u.length = 1) (lv : v.length = 1) (h : ∀ z t, z = (@ite Str c inst u v) → z.length = 1 → Q (.str z t) s)
    (hk : scope.kind = .function) (hl : (envOf name scope L a cd).kindOf x = some .local) (hl' : (envOf name scope L a cd).kindOf y = some .local)
    (hd : (x == ("__debug__" : Str)) = false) (hd' : (y == ("__debug__" : Str)) = false) :
    @ite Prop c inst (wpAny M A (eval (.Name x pos) (envOf name scope L a cd)) Q E s) (wpAny M A (eval (.Name y pos') (envOf name scope L a cd)) Q E s) := by
  by_cases hc : c
  · rw [if_pos hc]; exact ld F hx (h _ _ (if_pos hc).symm lu) hk hl hd
  · rw [if_neg hc]; exact ld F hy (h _ _ (if_neg hc).symm lv) hk hl' hd'
theorem first_class {ns : List Int} {i : Nat} {x : Int} (h0 : ns[0]? = some 0) (hx : ns[i]? = some x) (hk : x.fmod 8 ≠ 0) : 0 < i := by
  rcases Nat.eq_zero_or_pos i with rfl | h
  · rw [h0] at hx; cases hx; exact absurd rfl hk
  · exact h
theorem any_ne0 {l : List Int} {x : Int} (h : (l.any fun y => y == x.fmod 8) = true) (h0 : (l.any fun y => y == 0) = false) : x.fmod 8 ≠ 0 := by
  intro e; rw [e, h0] at h; cases h
theorem any_ne0' {l : List Int} {x : Int} (h : (l.any fun y => y == x.fmod 8) = false) (h0 : (l.any fun y => y == 0) = true) : x.fmod 8 ≠ 0 := by
  intro e; rw [e, h0] at h; cases h
end Mine
end
section
open PySem PySem.W PyProof.Rows PySem.Calls PySem.Spec
namespace Mine
open PySem.F
theorem owner_map : Manifest.owners.lookup (String.ofList ['p', 'a', 'm'].reverse) = some Manifest.sig_map := by kernel_rfl
theorem slot_map_init : Slot "map" "__init__" "object.__init__" :=
  .of (owner := "object") (n := "__init__") (by rw [typeLookup_type, builtinLookup_eq_fast]; kernel_rfl) (by decide +kernel) (by decide +kernel) (by decide +kernel)
    (by first | exact .inl (by decide +kernel) | exact .inr (by decide +kernel)) (by rw [isSubtype_type]; kernel_rfl)
theorem slot_map_iter : Slot "map" "__iter__" "map.__iter__" :=
  .of (owner := "map") (n := "__iter__") (by rw [typeLookup_type, builtinLookup_eq_fast]; kernel_rfl) (by decide +kernel) (by decide +kernel) (by decide +kernel)
    (by first | exact .inl (by decide +kernel) | exact .inr (by decide +kernel)) (by rw [isSubtype_type]; kernel_rfl)
theorem slot_map_next : Slot "map" "__next__" "map.__next__" :=
  .of (owner := "map") (n := "__next__") (by rw [typeLookup_type, builtinLookup_eq_fast]; kernel_rfl) (by decide +kernel) (by decide +kernel) (by decide +kernel)
    (by first | exact .inl (by decide +kernel) | exact .inr (by decide +kernel)) (by rw [isSubtype_type]; kernel_rfl)
theorem args_map_iter (a : Value) : argsOk "map.__iter__" ⟨[a], []⟩ := by
  unfold argsOk; rw [signature?_of (id := "map.__iter__") (n := ['_', '_', 'r', 'e', 't', 'i', '_', '_']) (o := ['p', 'a', 'm']) (by kernel_rfl) owner_map]; kernel_rfl
theorem args_map_next (a : Value) : argsOk "map.__next__" ⟨[a], []⟩ := by
  unfold argsOk; rw [signature?_of (id := "map.__next__") (n := ['_', '_', 't', 'x', 'e', 'n', '_', '_']) (o := ['p', 'a', 'm']) (by kernel_rfl) owner_map]; kernel_rfl
theorem entry_map_iter : entryFor table "map.__iter__" = some Builtin.«dict_keyiterator.__iter__» :=
  entryFor_alias (id' := "dict_keyiterator.__iter__") (by kernel_rfl) (by first | rfl | decide +kernel | (unfold String.splitOn; simp +decide [String.splitOnAux])) (by decide +kernel) (by kernel_rfl)
theorem entry_map_next : entryFor table "map.__next__" = some Builtin.«map.__next__» := entryFor_of_tree (by kernel_rfl)
theorem entry_map_new : entryFor table "map.__new__" = some Builtin.«map.__new__» := entryFor_of_tree (by kernel_rfl)
theorem mro_map : mroOf (.type "map") = pure [.type "map", .type "object"] := by rw [mroOf_type]; kernel_rfl
theorem lookup_map_new : typeLookup (.type "map") "__new__" = pure (some (.builtin "map.__new__")) := by rw [typeLookup_type, builtinLookup_eq_fast]; kernel_rfl
theorem called_map : TypeCalled "map" "map.__new__" "object.__init__" :=
  ⟨by decide +kernel, by decide +kernel, ⟨_, _, mro_map⟩, madeBy_type mro_map lookup_map_new (by decide +kernel), by decide +kernel, by rw [isSubtype_type]; kernel_rfl, slot_map_init⟩
theorem typeCall_map (a b : Value) : checkTypeCall "map" ⟨[a, b], []⟩ = pure () := by kernel_rfl
theorem newCall_map (a b : Value) : checkBuiltinCall "map.__new__" ⟨[.type "map", a, b], []⟩ = pure () := by kernel_rfl
theorem sub_map : isSubtype (.type "map") (.type "map") = pure true := by rw [isSubtype_type]; kernel_rfl
theorem nolen_map : typeLookup (.type "map") "__len__" = pure none := by rw [typeLookup_type, builtinLookup_eq_fast]; kernel_rfl
theorem nohint_map : typeLookup (.type "map") "__length_hint__" = pure none := by rw [typeLookup_type, builtinLookup_eq_fast]; kernel_rfl
abbrev mapObj (T : Addr) (f : Value) : Obj := { cls := .type "map", dict := none, data := .fields #[.ref T, f], slots := #[] }
abbrev oneTup (J : Addr) : Obj := { cls := .type "tuple", data := .seq #[.ref J] }
abbrev mapH1 (h : Heap) (l : Addr) : Heap := h.push { cls := .type "list_iterator", data := .fields #[.ref l, .int 0 0] }
abbrev mapH2 (h : Heap) (l : Addr) : Heap := (mapH1 h l).push (oneTup h.objs.size)
abbrev mapH3 (h : Heap) (l : Addr) (f : Value) : Heap := (mapH2 h l).push (mapObj (mapH1 h l).objs.size f)
theorem meets_map_new (f : Value) (l : Addr) (xs : Array Value) :
    Meets (Builtin.«map.__new__» ⟨[.type "map", f, .ref l], []⟩) (fun _ R s => s.heap.IsList l xs ∧
      R (.ok (.ret (.ref (mapH2 s.heap l).objs.size))) { s with heap := mapH3 s.heap l f }) :=
  .of_wp fun prog w A R s h => by
    obtain ⟨hp, g, d, tk, os⟩ := s; obtain ⟨hl1, h⟩ := h
    have hsub := sub_map
    have hL1 : Heap.IsList (Shared.heap ⟨hp, g, d, tk, os⟩) l xs := hl1
    wp_walk using wpAny_pyIter_list hL1
    exact ⟨_, rfl, h⟩
theorem strs_of_get : ∀ {vs : List Value} {ys : List Str}, vs.length = ys.length → (∀ (i : Nat) (v : Value), vs[i]? = some v → ∃ (y : Str) (t : Tok), ys[i]? = some y ∧ v = Value.str y t) → StrsAre vs ys
  | [], [], _, _ => .nil
  | [], _ :: _, h, _ => by simp at h
  | _ :: _, [], h, _ => by simp at h
  | v :: vs, y :: ys, h, g => by
    obtain ⟨y', t, e, rfl⟩ := g 0 v rfl
    cases e
    exact .cons _ _ (strs_of_get (by simpa using h) fun i v hv => g (i + 1) v hv)
section
variable {prog : Program} {w : World} {A : Around} {E : Value → Shared → Prop} {s : Shared}
theorem call_map {l : Addr} {f : Value} {xs : Array Value} {Q : Value → Shared → Prop} (hl : s.heap.IsList l xs)
    (h : ∀ h' I T J, h'.get? I = some (mapObj T f) → h'.get? T = some (oneTup J) → h'.IsListIter J l 0 → I < h'.objs.size → T < h'.objs.size → J < h'.objs.size → I ≠ J → T ≠ J → s.heap.get? I = none → s.heap.get? T = none → s.heap.get? J = none →
      (∀ c o, s.heap.get? c = some o → h'.get? c = some o) → Q (.ref I) { s with heap := h' }) :
    wpAny (model prog w) A (call (.type "map") [f, .ref l]) Q E s := by
  refine callType_new called_map (by decide) (typeCall_map _ _) (newCall_map _ _) (fun obj => F.args_object_init_3 obj _ _) entry_map_new (meets_map_new f l xs) ⟨hl, ?_⟩
  have z1 : (mapH1 s.heap l).objs.size = s.heap.objs.size + 1 := Heap.size_push ..
  have z2 : (mapH2 s.heap l).objs.size = s.heap.objs.size + 2 := by rw [Heap.size_push, z1]
  have z3 : (mapH3 s.heap l f).objs.size = s.heap.objs.size + 3 := by rw [Heap.size_push, z2]
  have g3 : (mapH3 s.heap l f).get? (mapH2 s.heap l).objs.size = some (mapObj (mapH1 s.heap l).objs.size f) := Heap.get?_push_size _ rfl
  have g2 : (mapH3 s.heap l f).get? (mapH1 s.heap l).objs.size = some (oneTup s.heap.objs.size) := Heap.get?_push_of_some _ (Heap.get?_push_size _ rfl)
  have g1 : (mapH3 s.heap l f).get? s.heap.objs.size = some _ := Heap.get?_push_of_some _ (Heap.get?_push_of_some _ (Heap.get?_push_size _ rfl))
  have fresh : ∀ a, s.heap.objs.size ≤ a → s.heap.get? a = none := fun a ha => by
    cases e : s.heap.get? a with
    | none => rfl
    | some o' => exact absurd (Heap.lt_size e) (Nat.not_lt.mpr ha)
  show _ ∧ _
  exact ⟨⟨_, g3, rfl⟩, h _ _ _ _ g3 g2 ⟨_, g1, rfl, rfl⟩ (by rw [z2, z3]; exact Nat.lt_succ_self _) (by rw [z1, z3]; exact Nat.add_lt_add_left (by decide) _) (by rw [z3]; exact Nat.lt_add_of_pos_right (by decide)) (by rw [z2]; exact Nat.ne_of_gt (Nat.lt_add_of_pos_right (by decide))) (by rw [z1]; exact Nat.ne_of_gt (Nat.lt_add_of_pos_right (by decide))) (fresh _ (by rw [z2]; exact Nat.le_add_right _ _)) (fresh _ (by rw [z1]; exact Nat.le_add_right _ _)) (fresh _ (Nat.le_refl _)) fun c o x =>
    Heap.get?_push_of_some _ (Heap.get?_push_of_some _ (Heap.get?_push_of_some _ x))⟩
theorem pyIter_map {I T : Addr} {f : Value} {Q : Value → Shared → Prop} (hI : s.heap.get? I = some (mapObj T f)) (h : Q (.ref I) s) : wpAny (model prog w) A (pyIter (.ref I)) Q E s := by
  have hT : s.TypeIs (.ref I) "map" := ⟨_, hI, rfl⟩
  refine wpAny_pyIter_slot hT slot_map_iter (wpAny_call_entry slot_map_iter hT entry_map_iter ?_ (args_map_iter _))
  show wpAny _ _ (ret (.ref I)) _ _ s
  exact wpAny_pure ⟨_, rfl, "map", _, hT, slot_map_next.lookup, h⟩
theorem map_next_item {I T J l : Addr} {i : Nat} {items : Array Value} {x : Str} {t : Tok} {Q : Option Value → Shared → Prop}
    (hI : s.heap.get? I = some (mapObj T (.builtin "str.capitalize"))) (hT : s.heap.get? T = some (oneTup J)) (hJ : s.heap.IsListIter J l i) (hl : s.heap.IsList l items) (hx : items[i]? = some (.str x t)) (hne : I ≠ J) (hz : x.length ≤ 1000000)
    (hQ : ∀ h' t' k, h'.IsListIter J l (i + 1) → Heap.SameBut J s.heap h' → Q (some (.str (Txt.capitalize x) t')) { s with heap := h', toks := k }) :
    wpAny (model prog w) A (pyNext (.ref I)) Q E s := by
  have hTy : s.TypeIs (.ref I) "map" := ⟨_, hI, rfl⟩
  unfold pyNext
  refine wpAny_bind (wpAny_attempt (wpAny_callSpecial?_slot (name := Str.ofString "__next__") hTy slot_map_next
    (wpAny_call_entry slot_map_next hTy entry_map_next ?_ (args_map_next _))))
  unfold Builtin.«map.__next__»
  refine wpAny_bind (wpAny_of_eq (a := (Value.ref I, [])) rfl ?_)
  try dsimp only
  refine wpAny_bind (wpAny_field hI rfl (x := .ref T) rfl ?_)
  refine wpAny_bind (wpAny_seqItems hT rfl ?_)
  simp only [List.forIn_toArray, List.forIn_cons, List.forIn_nil]
  refine wpAny_bind (wpAny_bind (wpAny_bind (wpAny_holding (wpAny_nextOf_list_item hJ hl hx fun h1 hJ1 hs1 => ?_))))
  refine wpAny_pure (wpAny_pure ?_)
  refine wpAny_bind (wpAny_field ((hs1.2 _ hne).trans hI) rfl (x := .builtin "str.capitalize") rfl ?_)
  refine wpAny_bind (wpAny_holding (SCL.capitalize (by omega) fun t' k _ => ?_))
  refine wpAny_bind (wpAny_letGo ?_)
  exact wpAny_pure ⟨_, rfl, wpAny_pure (hQ _ _ _ hJ1 hs1)⟩
theorem map_next_end {I T J l : Addr} {i : Nat} {items : Array Value} {f : Value} {Q : Option Value → Shared → Prop} (hh : A.handled = none)
    (hI : s.heap.get? I = some (mapObj T f)) (hT : s.heap.get? T = some (oneTup J)) (hJ : s.heap.IsListIter J l i) (hl : s.heap.IsList l items) (hx : items[i]? = none)
    (hQ : ∀ h', Heap.ExtBut J s.heap h' → Q none { s with heap := h' }) :
    wpAny (model prog w) A (pyNext (.ref I)) Q E s := by
  have hTy : s.TypeIs (.ref I) "map" := ⟨_, hI, rfl⟩
  unfold pyNext
  refine wpAny_bind (wpAny_attempt (wpAny_callSpecial?_slot (name := Str.ofString "__next__") hTy slot_map_next
    (wpAny_call_entry slot_map_next hTy entry_map_next ?_ (args_map_next _))))
  unfold Builtin.«map.__next__»
  refine wpAny_bind (wpAny_of_eq (a := (Value.ref I, [])) rfl ?_)
  try dsimp only
  refine wpAny_bind (wpAny_field hI rfl (x := .ref T) rfl ?_)
  refine wpAny_bind (wpAny_seqItems hT rfl ?_)
  simp only [List.forIn_toArray, List.forIn_cons, List.forIn_nil]
  refine wpAny_bind (wpAny_bind (wpAny_bind (wpAny_holding (wpAny_nextOf_list_end hh hJ hl hx fun h' x he' hx' => ?_))))
  obtain ⟨o, ho, hc⟩ := hx'
  refine wpAny_bind (wpAny_isInstance (T := "StopIteration") (b := true) ⟨o, ho, hc⟩ isSubtype_stop ?_)
  exact wpAny_pure (hQ _ he')
theorem Walks.mapCap (hh : A.handled = none) (I T J l : Addr) (hIJ : I ≠ J) (hTJ : T ≠ J) (hlJ : l ≠ J) (items : Array Value) (hs : ∀ (i : Nat) (v : Value), items[i]? = some v → ∃ (x : Str) (t : Tok), v = Value.str x t ∧ x.length ≤ 1000000) :
    Walks prog w A I [I, T, J, l] [J] items.size (fun i v => ∃ (x : Str) (t t' : Tok), items[i]? = some (Value.str x t) ∧ v = Value.str (Txt.capitalize x) t')
      (fun i h => h.get? I = some (mapObj T (.builtin "str.capitalize")) ∧ h.get? T = some (oneTup J) ∧ h.IsListIter J l i ∧ h.IsList l items) where
  sub := fun b hb => by simp at hb; simp [hb]
  frame := fun _ _ _ st hk => ⟨hk I (by simp) _ st.1, hk T (by simp) _ st.2.1, st.2.2.1.at fun o e => hk J (by simp) o e, st.2.2.2.at fun o e => hk l (by simp) o e⟩
  item := fun i s Q E hi st hQ => by
    obtain ⟨a, b, c, d⟩ := st
    obtain ⟨x, t, e, hz⟩ := hs i items[i] (by simp [hi])
    have hx : items[i]? = some (.str x t) := by rw [← e]; simp [hi]
    refine map_next_item a b c d hx hIJ hz fun h' t' k hJ' hs' => ?_
    exact hQ _ h' k ⟨x, t, t', hx, rfl⟩ ⟨(hs'.2 _ hIJ).trans a, (hs'.2 _ hTJ).trans b, hJ', d.extBut hs'.extBut hlJ⟩ fun b o hb e => hs'.extBut b o (fun h => hb (by simp [h])) e
  done := fun s Q E st hQ => by
    obtain ⟨a, b, c, d⟩ := st
    exact map_next_end hh a b c d (by simp) fun h' he' => hQ h' s.toks fun b o hb e => he' b o (fun h => hb (by simp [h])) e
  self := fun i s Q E st hQ => pyIter_map st.1 hQ
theorem collect_map {I : Addr} {fp wr : List Addr} {G : Array GenState → Array GenState → Prop} {n : Nat} {P : Nat → Value → Prop} {St : Nat → Shared → Prop} {Q : List Value → Shared → Prop}
    (W : WalksS prog w A.in1 I fp wr G n P St) (hT : ∀ i s, St i s → s.TypeIs (.ref I) "map") (hst : St 0 s) (hfp : ∀ b ∈ fp, b < s.heap.objs.size) (hI : I ∈ fp)
    (hQ : ∀ s' acc, Moved wr G s s' → ItemsOf P acc n → Q acc.toList s') (hn : n ≤ sizeLine) : wpAny (model prog w) A (collect (.ref I)) Q E s := by
  have hSf : s.heap.objs.size ∉ fp := fun hm => Nat.lt_irrefl _ (hfp _ hm)
  have hSI : s.heap.objs.size ≠ I := fun e => hSf (e ▸ hI)
  unfold collect
  refine wpAny_bind (wpAny_runValue (codeAny_builtin F.entry_proto_collect ?_))
  rw [Around.under_plainId F.plain_proto_collect _]
  show wpAny _ A.in1 (newList [] >>= fun l => again (.builtin "list.__iadd__" ⟨[l, .ref I], []⟩)) _ _ s
  refine wpAny_bind (wpAny_newObj_type ?_)
  refine wpAny_pure ⟨plainId_quiet F.plain_list_iadd _, codeAny_builtin F.entry_list_iadd ?_⟩
  rw [Around.under_plainId F.plain_list_iadd _]
  have hst₁ := W.frame 0 s (s.heap.push { cls := .type "list", data := .seq ([] : List Value).toArray }) s.toks hst (Nat.le_refl _) fun b _ o e => Heap.get?_push_of_some _ e
  have hS₁ : (s.heap.push { cls := .type "list", data := .seq ([] : List Value).toArray }).get? s.heap.objs.size = some { cls := .type "list", data := .seq ([] : List Value).toArray } := Heap.get?_push_size _ rfl
  have h1 : Builtin.List.listSameRef (.ref s.heap.objs.size) (.ref I) = false := by simp [Builtin.List.listSameRef, hSI]
  show wpAny _ A.in1 (Builtin.List.listExtendWith (.ref s.heap.objs.size) (.ref I) (.ref s.heap.objs.size)) _ _ _
  unfold Builtin.List.listExtendWith
  refine wpAny_bind (wpAny_typeOf (hT 0 _ hst₁) ?_)
  rw [if_neg (by rw [h1]; decide)]
  refine wpAny_bind (W.self 0 _ _ _ hst₁ ?_)
  refine wpAny_bind (wpAny_holding ?_)
  unfold Builtin.List.listLengthHint
  refine wpAny_bind (wpAny_specialOf (hT 0 _ hst₁) nolen_map ?_)
  show wpAny _ A.in1 (specialOf (Value.ref I) (Str.ofString "__length_hint__") >>= _) _ _ _
  refine wpAny_bind (wpAny_specialOf (hT 0 _ hst₁) nohint_map ?_)
  refine wpAny_pure ?_
  show wpAny _ A.in1 (rule "list.extend.makes-room" >>= fun _ => Builtin.List.listTouch (.ref s.heap.objs.size) >>= fun _ =>
    again (.builtin "list.extend.loop" ⟨[.ref s.heap.objs.size, .ref I, .ref s.heap.objs.size], []⟩)) _ _ _
  refine wpAny_bind (wpAny_rule ?_)
  refine wpAny_bind ?_
  show wpAny _ A.in1 (updateSeq s.heap.objs.size (·.push .none) >>= fun _ => updateSeq s.heap.objs.size (·.pop)) _ _ _
  refine wpAny_bind (wpAny_updateSeq hS₁ rfl ?_)
  have hS₂ := Heap.get?_update_self (Obj.mapSeq (·.push Value.none)) hS₁ rfl
  refine wpAny_updateSeq hS₂ rfl ?_
  have hS₃ := Heap.get?_update_self (Obj.mapSeq (·.pop)) hS₂ rfl
  have oth : ∀ b o, b ≠ s.heap.objs.size → (s.heap.push { cls := .type "list", data := .seq ([] : List Value).toArray }).get? b = some o →
      (((s.heap.push { cls := .type "list", data := .seq ([] : List Value).toArray }).update s.heap.objs.size (Obj.mapSeq (·.push Value.none))).update s.heap.objs.size (Obj.mapSeq (·.pop))).get? b = some o :=
    fun b o hb e => (Heap.get?_update_other _ _ (Ne.symm hb)).trans ((Heap.get?_update_other _ _ (Ne.symm hb)).trans e)
  refine wpAny_pure ⟨plainId_quiet F.plain_extend_loop _, codeAny_extend_loopS W hn _ hSf _ n 0 _ _ _ rfl (Nat.zero_le _)
    (W.frame 0 ({ s with heap := s.heap.push { cls := .type "list", data := .seq ([] : List Value).toArray } } : Shared) _ s.toks hst₁ (Nat.le_refl _) fun b hb o e => oth b o (fun h => hSf (h ▸ hb)) e) hS₃ (ItemsOf.nil P) fun s' acc' c' hm hS' hacc => ?_⟩
  show wpAny _ A (load s.heap.objs.size >>= _) _ _ s'
  refine wpAny_bind (wpAny_load hS' ?_)
  refine wpAny_pure (hQ s' acc' (Moved.drop_new (o := { cls := .type "list", data := .seq ([] : List Value).toArray }) (tk := s.toks) (Moved.trans W.gtrans ((Moved.refl W.grefl).then_heap (Nat.le_refl _) fun b o hb e => ?_) hm) (Nat.le_refl _)) hacc)
  exact oth b o (fun h => hb (h ▸ List.mem_cons_self)) e
theorem join_map {I T J l : Addr} {items : Array Value} {ys : List Str} {sep : Str} {t : Tok} {Q : Value → Shared → Prop} (hh : A.handled = none)
    (hI : s.heap.get? I = some (mapObj T (.builtin "str.capitalize"))) (hT : s.heap.get? T = some (oneTup J)) (hJ : s.heap.IsListIter J l 0) (hl : s.heap.IsList l items) (hIJ : I ≠ J) (hTJ : T ≠ J) (hlJ : l ≠ J)
    (hi : StrsAre items.toList ys) (hz : ∀ y ∈ ys, y.length ≤ 1000000) (hlen : ys.length ≤ 1000000) (hok : ((ys.map Txt.capitalize).map (·.length)).sum + ys.length * sep.length ≤ 16777216)
    (h : ∀ h' t' k, (∀ b o, b ≠ J → s.heap.get? b = some o → h'.get? b = some o) → Q (.str (Str.join sep (ys.map Txt.capitalize)) t') { s with heap := h', toks := k }) :
    wpAny (model prog w) A (call (.builtin "str.join") [.str sep t, .ref I]) Q E s := by
  have hTy : s.TypeIs (.ref I) "map" := ⟨_, hI, rfl⟩
  refine wpAny_call (codeAny_call_builtin F.slot_str_join.plain F.entry_str_join (F.slot_str_join.check _ _ _ _ _ _ _ _ (typeIs_str _ _ _) (F.args_str_join_2 _ _) ?_))
  unfold Builtin.«str.join»
  refine wpAny_bind (wpAny_of_eq (a := (Value.str sep t, sep, Value.ref I)) (by rfl) ?_)
  try dsimp only
  refine wpAny_bind (wpAny_typeOf hTy ?_)
  rw [if_neg (by decide)]
  have hget : ∀ (i : Nat) (v : Value), items[i]? = some v → ∃ (x : Str) (t : Tok), v = Value.str x t ∧ x.length ≤ 1000000 := fun i v e => by
    obtain ⟨y, hy⟩ : ∃ y, ys[i]? = some y := by
      have hlt : i < ys.length := by
        rw [← hi.length]
        have := (Array.getElem?_eq_some_iff.mp e).1
        simpa using this
      exact ⟨ys[i], by simp [hlt]⟩
    obtain ⟨t, ht⟩ := hi.get i y hy
    rw [Array.getElem?_toList, e] at ht
    exact ⟨y, t, by simpa using ht, hz y (List.mem_of_getElem? hy)⟩
  have W := Walks.mapCap (prog := prog) (w := w) (A := A.in1.in1) hh I T J l hIJ hTJ hlJ items hget
  refine wpAny_bind (wpAny_tryCatch (pyIter_map hI ?_))
  refine wpAny_bind (collect_map W.toS (fun i s st => ⟨_, st.1, rfl⟩) ⟨hI, hT, hJ, hl⟩ ?_ (by simp) (fun s' acc hm ha => ?_) ?_)
  · intro b hb
    simp only [List.mem_cons, List.not_mem_nil, or_false] at hb
    rcases hb with rfl | rfl | rfl | rfl
    · exact Heap.lt_size hI
    · exact Heap.lt_size hT
    · obtain ⟨o, ho, _⟩ := hJ; exact Heap.lt_size ho
    · obtain ⟨o, ho, _⟩ := hl; exact Heap.lt_size ho
  · have hacc : StrsAre acc.toList (ys.map Txt.capitalize) := by
      refine strs_of_get (by rw [Array.length_toList, ha.1, List.length_map, ← hi.length]; simp) fun i v hv => ?_
      obtain ⟨x, t1, t2, e1, rfl⟩ := ha.2 i v (by simpa using hv)
      obtain ⟨y, hy⟩ : ∃ y, ys[i]? = some y := by
        have hlt : i < ys.length := by
          rw [← hi.length]
          have := (Array.getElem?_eq_some_iff.mp e1).1
          simpa using this
        exact ⟨ys[i], by simp [hlt]⟩
      obtain ⟨t3, ht⟩ := hi.get i y hy
      rw [Array.getElem?_toList, e1] at ht
      cases ht
      exact ⟨_, t2, by simp [hy], rfl⟩
    obtain ⟨lv, hv, ht⟩ := strsAre_values hacc
    rw [hv]
    show wpAny _ _ (joinTail sep (strValues lv)) _ _ _
    have hok' := joinOk_of (sep := sep) (ys := ys.map Txt.capitalize) (by simpa using hok)
    unfold JoinOk at hok'
    rw [Bool.not_eq_true'] at hok'
    have g : Gives (joinTail sep (strValues lv)) (joinMade sep lv) := by
      have g0 := gives_joinTail sep lv (by rw [ht]; exact hok')
      cases lv with
      | nil => exact g0
      | cons p r => cases r with
        | nil => exact g0
        | cons q r' => exact g0
    refine g prog w A (wants Q E) s' (post_join lv ?_)
    rw [ht]
    refine ⟨joinFit_length hok', fun t' k => ?_⟩
    have hs' := h s'.heap t' k fun b o hb e => hm.heap b o (by simpa using hb) e
    rw [← tj_eq] at hs'
    obtain ⟨hp', g', d', tk', os'⟩ := s'
    have e1 := hm.gens
    have e2 := hm.drawn
    have e3 := hm.os
    dsimp only at e1 e2 e3
    subst e1 e2 e3
    exact hs'
  · have : items.size = ys.length := by rw [← hi.length]; simp
    rw [this]
    exact szl hlen
end
end Mine
end
section
open PySem PySem.W PyProof.Rows PySem.Calls PySem.Spec Builtin Builtin.ObjectAttr
namespace Mine
theorem cap_found : findCls [] (.type "str") (.type "type") (Str.ofString "capitalize") = some (.val (.builtin "str.capitalize")) := by kernel_rfl
theorem str_type : typeOf (.type "str") = pure (.type "type") := kitMeta_of (by decide +kernel)
theorem cap_sum : ∀ ys : List Str, ((ys.map Txt.capitalize).map (·.length)).sum ≤ 3 * (ys.map (·.length)).sum
  | [] => Nat.zero_le _
  | y :: ys => by
    have h1 := cap_sum ys
    have h2 := len_capitalize y
    simp only [List.map_cons, List.sum_cons] at h1 ⊢
    omega
theorem mem_sum : ∀ (ys : List Str) (y : Str), y ∈ ys → y.length ≤ (ys.map (·.length)).sum
  | z :: ys, y, h => by
    rw [List.map_cons, List.sum_cons]
    rcases List.mem_cons.mp h with rfl | h
    · exact Nat.le_add_right _ _
    · exact Nat.le_trans (mem_sum ys y h) (Nat.le_add_left _ _)
section
variable {prog : Program} {w : World} {A : Around} {E : Value → Shared → Prop} {s : Shared} {h₀ : Heap} {L : Addr} {m : Str → Option Value} {news : List (Addr × Obj)}
theorem strcap_attr {b : Bool} {Q : Value → Shared → Prop} (h : Q (.builtin "str.capitalize") { s with toks := s.toks + 1 }) : wpAny (model prog w) A (getAttr (.type "str") (Str.ofString "capitalize") b) Q E s := by
  have X : Frag.In [] s.heap := fun a o e => by cases e
  have hs : Manifest.isStub "str" = false := by decide +kernel
  have hstub : opaqueClassAbove (.type "str") = pure none := by unfold opaqueClassAbove; dsimp only; rw [hs]; rfl
  have L0 : Looks (model prog w) s.heap (typeOf (.type "str")) (.type "type") := Looks.of_pure str_type
  have hg : findIn [] (.type "type") "__getattribute__" = some (some (.builtin "type.__getattribute__")) := type_tga
  have LO : Looks (model prog w) s.heap (opaqueClassAbove (.type "str")) none := Looks.of_pure hstub
  refine cls_open X LO L0 hg (looks_hook X (r := none) (by rfl)) (by rfl) cap_found
    (wpAny_pure (by show wpAny _ _ (handedOut (Value.builtin "str.capitalize")) _ _ _; rw [handedOut_of (by decide +kernel)]; exact wpAny_pure h))
abbrev itObj (l : Addr) : Obj := { cls := .type "list_iterator", data := .fields #[.ref l, .int 0 0] }
theorem callMapK {l : Addr} {f : Value} {xs : Array Value} {Q : Value → Shared → Prop} (F : Fr h₀ L s.heap m) (N : News h₀ L s.heap news) (hl : s.heap.IsList l xs)
    (h : ∀ I T J h', Fr h₀ L h' m → News h₀ L h' ((I, mapObj T f) :: (T, oneTup J) :: (J, itObj l) :: news) → I ≠ J → T ≠ J → Q (.ref I) { s with heap := h' }) :
    wpAny (model prog w) A (call (.type "map") [f, .ref l]) Q E s := by
  refine callType_new called_map (by decide) (typeCall_map _ _) (newCall_map _ _) (fun obj => PySem.F.args_object_init_3 obj _ _) entry_map_new (meets_map_new f l xs) ⟨hl, ?_⟩
  have z1 : (mapH1 s.heap l).objs.size = s.heap.objs.size + 1 := Heap.size_push ..
  have z2 : (mapH2 s.heap l).objs.size = s.heap.objs.size + 2 := by rw [Heap.size_push, z1]
  have g3 : (mapH3 s.heap l f).get? (mapH2 s.heap l).objs.size = some (mapObj (mapH1 s.heap l).objs.size f) := Heap.get?_push_size _ rfl
  exact ⟨⟨_, g3, rfl⟩, h _ _ _ _ (((F.push _).push _).push _) (((N.push F _).push (F.push _) _).push ((F.push _).push _) _) (by rw [z2]; exact Nat.ne_of_gt (Nat.lt_add_of_pos_right (by decide))) (by rw [z1]; exact Nat.ne_of_gt (Nat.lt_add_of_pos_right (by decide)))⟩
theorem joinMapK {I T J l : Addr} {items : Array Value} {ys : List Str} {sep : Str} {t : Tok} {Q : Value → Shared → Prop} (hh : A.handled = none) (F : Fr h₀ L s.heap m)
    (N : News h₀ L s.heap ((I, mapObj T (.builtin "str.capitalize")) :: (T, oneTup J) :: (J, itObj l) :: news)) (hl : s.heap.IsList l items) (hIJ : I ≠ J) (hTJ : T ≠ J)
    (hi : StrsAre items.toList ys) (hsz : (ys.map (·.length)).sum ≤ 100000) (hlen : ys.length ≤ 100000) (hsep : sep.length ≤ 10)
    (h : ∀ h' t' k, (∀ b o, h₀.get? b = some o → h'.get? b = some o) → Q (.str (Str.join sep (ys.map Txt.capitalize)) t') { s with heap := h', toks := k }) :
    wpAny (model prog w) A (call (.builtin "str.join") [.str sep t, .ref I]) Q E s := by
  have hJ : s.heap.IsListIter J l 0 := ⟨_, (N _ (.tail _ (.tail _ (.head _)))).1, rfl, rfl⟩
  have hlJ : l ≠ J := by
    rintro rfl
    obtain ⟨o, ho, hc, _⟩ := hl
    have := ho.symm.trans (N _ (.tail _ (.tail _ (.head _)))).1
    cases this
    exact absurd hc (show ¬ Value.type "list_iterator" = Value.type "list" by decide)
  have hmem : ∀ y ∈ ys, y.length ≤ 100000 := fun y hy => by
    exact Nat.le_trans (mem_sum ys y hy) hsz
  refine join_map hh (N _ (.head _)).1 (N _ (.tail _ (.head _))).1 hJ hl hIJ hTJ hlJ hi (fun y hy => Nat.le_trans (hmem y hy) (by decide)) (by omega) ?_ fun h' t' k hk => h h' t' k fun b o e => hk b o ?_ (F.keep b o e)
  · have h1 := cap_sum ys
    have h2 : ys.length * sep.length ≤ ys.length * 10 := Nat.mul_le_mul_left _ hsep
    omega
  · rintro rfl
    have := (N _ (.tail _ (.tail _ (.head _)))).2.2
    rw [this] at e
    cases e
theorem splitW {x : Str} {t : Tok} {Q : Value → Shared → Prop} (F : Fr h₀ L s.heap m) (N : News h₀ L s.heap news) (hz : x.length ≤ 1000000)
    (h : ∀ D vs h' k, StrsAre vs (Txt.words x) → Fr h₀ L h' m → News h₀ L h' ((D, W.listOf vs.toArray 0) :: news) → (∀ p ∈ news, p.1 < D) → Q (.ref D) { s with heap := h', toks := k }) :
    wpAny (model prog w) A (call (.builtin "str.split") [.str x t, .none]) Q E s :=
  splitN0None F N (fun l h' k e1 e2 _ _ F' N' => h _ _ h' k (e1 ▸ e2) F' N' fun p hp => Heap.lt_size (N p hp).1) (by unfold sizeLine; omega)
theorem splitS {x y : Str} {t u : Tok} {ys : List Str} {Q : Value → Shared → Prop} (F : Fr h₀ L s.heap m) (N : News h₀ L s.heap news) (hy : (y.length == 0) = false) (e : Txt.split x y = ys) (hz : x.length ≤ 1000000)
    (h : ∀ D vs h' k, StrsAre vs ys → Fr h₀ L h' m → News h₀ L h' ((D, W.listOf vs.toArray 0) :: news) → (∀ p ∈ news, p.1 < D) → Q (.ref D) { s with heap := h', toks := k }) :
    wpAny (model prog w) A (call (.builtin "str.split") [.str x t, .str y u]) Q E s :=
  splitN1A F N hy (fun l h' k e1 e2 _ _ F' N' => h _ _ h' k (e ▸ e1 ▸ e2) F' N' fun p hp => Heap.lt_size (N p hp).1) (by unfold sizeLine; omega)
end
end Mine
end
section
open PySem PySem.W PyProof.Rows PySem.Calls PySem.Spec
namespace Mine
/-- a comprehension's own frame at C: h₁ the heap ahead of it, h₃ the heap at the turn's start -/
structure Cf (h₁ h₃ : Heap) (C : Addr) (m : Str → Option Value) (h : Heap) : Prop where
  ns : h.Ns C m
  base : ∀ b o, h₁.get? b = some o → h.get? b = some o
  keep : ∀ b o, h₃.get? b = some o → h.get? b = some o
theorem keptCf {h₁ h₃ : Heap} {C : Addr} {m : Str → Option Value} : KeptH (Cf h₁ h₃ C m) :=
  fun h ob K => ⟨K.ns.push ob, fun b o e => Heap.get?_push_of_some _ (K.base b o e), fun b o e => Heap.get?_push_of_some _ (K.keep b o e)⟩
theorem Cf.isl {h₁ h₃ h : Heap} {C l : Addr} {m : Str → Option Value} {xs : Array Value} (K : Cf h₁ h₃ C m h) (hl : h₁.IsList l xs) : h.IsList l xs := hl.at fun o e => K.base l o e
section
variable {prog : Program} {w : World} {A : Around} {E : Value → Shared → Prop} {s : Shared} {h₁ h₃ : Heap} {C : Addr} {m : Str → Option Value} {scope : Scope} {cl : List (Str × Addr)} {env : Env}
theorem cfL {x : Str} {pos : Pos} {v : Value} {Q : Value → Shared → Prop} (K : Cf h₁ h₃ C m s.heap) (hv : m x = some v) (h : Q v s)
    (hk : (compEnvC scope cl C env).scope.kind = .function) (hx : (compEnvC scope cl C env).kindOf x = some .local) (hd : (x == ("__debug__" : Str)) = false) :
    wpAny (model prog w) A (eval (.Name x pos) (compEnvC scope cl C env)) Q E s := wpAny_Name (wpAny_loadName_local hk hx K.ns hv h) hd
theorem cfC {x : Str} {pos : Pos} {v : Value} {c : Addr} {o : Obj} {Q : Value → Shared → Prop} (K : Cf h₁ h₃ C m s.heap) (hc : cl.lookup x = some c) (ho : h₁.get? c = some o) (hd : o.data = .cell (some v)) (h : Q v s)
    (hk : (compEnvC scope cl C env).scope.kind = .function) (hx : (compEnvC scope cl C env).kindOf x = some .cell) (hb : (x == ("__debug__" : Str)) = false) :
    wpAny (model prog w) A (eval (.Name x pos) (compEnvC scope cl C env)) Q E s := wpAny_Name (wpAny_loadName_cell hk hx hc ⟨o, K.base _ _ ho, hd⟩ h) hb
theorem cf_ns {value slice : PySem.Expr} {x : Str} {t : Tok} {Q : Value → Shared → Prop} {j : Int} {uj : Tok} (K : Cf h₁ h₃ C m s.heap) (hz : x.length ≤ 1000000) (h : ∀ h' t' k, Cf h₁ h₃ C m h' → Q (.str (Txt.slice x none (some j)) t') { s with heap := h', toks := k })
    (hs : subscripted slice false (.str x t) (.ref s.heap.objs.size) = operate [.ref s.heap.objs.size, .str x t] (getItem (.str x t) (.ref s.heap.objs.size)))
    (ht : ∀ r, letTemporaryGo value (.str x t) r = pure ()) :
    wpAny (model prog w) A (subscriptTail value slice (.str x t) (.ref s.heap.objs.size)) Q E { s with heap := s.heap.push { cls := .type "slice", data := .fields #[.none, .int j uj, .none] } } :=
  tail_of_ItemOn (SBH.sliceItem_ns keptCf K h (szl hz)) hs ht
theorem cf_sn {value slice : PySem.Expr} {x : Str} {t : Tok} {Q : Value → Shared → Prop} {i : Int} {ui : Tok} (K : Cf h₁ h₃ C m s.heap) (hz : x.length ≤ 1000000) (h : ∀ h' t' k, Cf h₁ h₃ C m h' → Q (.str (Txt.slice x (some i) none) t') { s with heap := h', toks := k })
    (hs : subscripted slice false (.str x t) (.ref s.heap.objs.size) = operate [.ref s.heap.objs.size, .str x t] (getItem (.str x t) (.ref s.heap.objs.size)))
    (ht : ∀ r, letTemporaryGo value (.str x t) r = pure ()) :
    wpAny (model prog w) A (subscriptTail value slice (.str x t) (.ref s.heap.objs.size)) Q E { s with heap := s.heap.push { cls := .type "slice", data := .fields #[.int i ui, .none, .none] } } :=
  tail_of_ItemOn (SBH.sliceItem_sn keptCf K h (szl hz)) hs ht
end
section
variable {prog : Program} {w : World} {A : Around} {E : Value → Shared → Prop} {s : Shared} {env : Env}
/-- what a comprehension's parts must do -/
structure Quiet (prog : Program) (w : World) (A : Around) (env : Env) (scope : Scope) (cl : List (Str × Addr)) (x : Str) (ifs : List PySem.Expr) (elt : PySem.Expr) (P : Value → Prop) (p : Value → Bool) (G : Value → Value → Prop) (h₁ : Heap) : Prop where
  tests : ∀ C v (s₃ : Shared) m₃, P v → Cf h₁ s₃.heap C m₃ s₃.heap → m₃ x = some v →
    wpAny (model prog w) A (forIn ifs true fun c r => if r = true then do let ok ← isTrue c (compEnvC scope cl C env) (eval c (compEnvC scope cl C env)); pure (ForInStep.yield ok) else pure (ForInStep.yield r))
      (fun ok s₄ => ok = p v ∧ Keeps s₃ s₄) (fun _ _ => False) s₃
  elt : ∀ C v (s₃ : Shared) m₃, P v → p v = true → Cf h₁ s₃.heap C m₃ s₃.heap → m₃ x = some v →
    wpAny (model prog w) A (eval elt (compEnvC scope cl C env)) (fun y s₄ => G v y ∧ Keeps s₃ s₄) (fun _ _ => False) s₃
theorem Quiet.on {scope : Scope} {cl : List (Str × Addr)} {x : Str} {ifs : List PySem.Expr} {elt : PySem.Expr} {P : Value → Prop} {p : Value → Bool} {G : Value → Value → Prop} {h₁ : Heap} {P' : Nat → Value → Prop} {wr : List Addr} {s₂ : Shared}
    (q : Quiet prog w A env scope cl x ifs elt P p G h₁) (hP : ∀ i v, P' i v → P v) (hk : ∀ b o, h₁.get? b = some o → b ∉ wr ∧ s₂.heap.get? b = some o) : QuietOnC prog w A env scope cl x ifs elt wr P' p G s₂ where
  tests := fun C i v s₃ m₃ E' _ hv hn hm hk₃ _ => wpAny_mono (q.tests C v s₃ m₃ (hP i v hv) ⟨hn, fun b o e => hk₃ b o (hk b o e).1 (hk b o e).2, fun _ _ e => e⟩ hm) (fun _ _ z => z) fun _ _ z => z.elim
  elt := fun C i v s₃ m₃ E' _ hv hp hn hm hk₃ _ => wpAny_mono (q.elt C v s₃ m₃ (hP i v hv) hp ⟨hn, fun b o e => hk₃ b o (hk b o e).1 (hk b o e).2, fun _ _ e => e⟩ hm) (fun _ _ z => z) fun _ _ z => z.elim
def LcE (prog : Program) (w : World) (A : Around) (env : Env) (scope : Scope) (cl : List (Str × Addr)) (x : Str) (ifs : List PySem.Expr) (elt : PySem.Expr) (p : Value → Bool) (G : Value → Value → Prop) (Q : Value → Shared → Prop) (xv : Value) (s₁ : Shared) : Prop :=
  ∃ (l : Addr) (vs : List Value) (h₀ : Heap) (m : Str → Option Value) (news : List (Addr × Obj)), xv = .ref l ∧ s₁.heap.IsList l vs.toArray ∧ vs.length ≤ 1000000 ∧
      Fr h₀ env.locals s₁.heap m ∧ News h₀ env.locals s₁.heap news ∧ Quiet prog w A env scope cl x ifs elt (· ∈ vs) p G s₁.heap ∧
      (∀ D h' tk n (ys : List Value), Paired G (vs.filter p) ys → Fr h₀ env.locals h' m → News h₀ env.locals h' ((D, W.listOf ys.toArray n) :: news) → (∀ q ∈ news, q.1 ≠ D) → Q (.ref D) { s₁ with heap := h', toks := tk })
def LcA (prog : Program) (w : World) (A : Around) (env : Env) (scope : Scope) (cl : List (Str × Addr)) (x y : Str) (ifs : List PySem.Expr) (elt : PySem.Expr) (p : Value → Bool) (G : Value → Value → Prop) (Q : Flow → Shared → Prop) (xv : Value) (s₁ : Shared) : Prop :=
  ∃ (l : Addr) (vs : List Value) (h₀ : Heap) (m : Str → Option Value) (news : List (Addr × Obj)), xv = .ref l ∧ s₁.heap.IsList l vs.toArray ∧ vs.length ≤ 1000000 ∧
      Fr h₀ env.locals s₁.heap m ∧ News h₀ env.locals s₁.heap news ∧ Quiet prog w A env scope cl x ifs elt (· ∈ vs) p G s₁.heap ∧
      (∀ D h' tk n (ys : List Value), Paired G (vs.filter p) ys → Fr h₀ env.locals h' (fun z => if z = y then some (.ref D) else m z) → News h₀ env.locals h' ((D, W.listOf ys.toArray n) :: news) → (∀ q ∈ news, q.1 ≠ D) → Q .next { s₁ with heap := h', toks := tk })
def LcR (prog : Program) (w : World) (A : Around) (env : Env) (scope : Scope) (cl : List (Str × Addr)) (x y : Str) (ifs : List PySem.Expr) (elt : PySem.Expr) (p : Value → Bool) (G : Value → Value → Prop) (Q : Flow → Shared → Prop) (xv : Value) (s₁ : Shared) : Prop :=
  ∃ (r : Addr) (b₀ : Int) (t₀ u₀ v₀ : Tok) (n : Nat) (h₀ : Heap) (m : Str → Option Value) (news : List (Addr × Obj)), xv = .ref r ∧ IsRange s₁.heap r 0 b₀ 1 t₀ u₀ v₀ ∧ Builtin.Range.small 0 b₀ 1 = true ∧ Builtin.Range.rangeSize 0 b₀ 1 = (n : Int) ∧ n ≤ 1000000 ∧
      Fr h₀ env.locals s₁.heap m ∧ News h₀ env.locals s₁.heap news ∧ Quiet prog w A env scope cl x ifs elt (fun v => ∃ (i : Nat) (t : Tok), i < n ∧ v = Value.int (i : Int) t) p G s₁.heap ∧
      (∀ D h' tk nn (vs ys : List Value), vs.length = n → (∀ (i : Nat) (v : Value), vs[i]? = some v → ∃ t : Tok, v = Value.int (i : Int) t) → Paired G (vs.filter p) ys → Fr h₀ env.locals h' (fun z => if z = y then some (.ref D) else m z) → News h₀ env.locals h' ((D, W.listOf ys.toArray nn) :: news) → (∀ q ∈ news, q.1 ≠ D) → Q .next { s₁ with heap := h', toks := tk })
/-- a comprehension over a list, as a value -/
theorem lcE {elt iter : PySem.Expr} {x : Str} {px : Pos} {ifs : List PySem.Expr} {scope : Scope} {cl : List (Str × Addr)} {pos : Pos} {Q : Value → Shared → Prop} (p : Value → Bool) (G : Value → Value → Prop) (hh : A.handled = none)
    (hclos : closureFor scope env = pure cl) (hcell : ∀ y ∈ scope.names, y.2 ≠ .cell) (hkind : scope.kind = .function)
    (hnames : ∀ y ∈ scope.names, y.2 = .local → scope.names.lookup y.1 = some .local) (hx : scope.names.lookup x = some .local)
    (h : wpAny (model prog w) A (eval iter env) (LcE prog w A env scope cl x ifs elt p G Q) E s)
    (hs : ∀ x, foldedSetIterable iter env x = pure x) :
    wpAny (model prog w) A (eval (.ListComp elt [⟨.Name x px, iter, ifs, 0⟩] scope pos) env) Q E s := by
  refine wpAny_ListComp_free p G hclos hcell hkind hnames hx (wpAny_mono h (fun xv s₁ h₁ => ?_) fun _ _ e => e) hs
  obtain ⟨l, vs, h₀, m, news, rfl, hl, hz, F, N, q, hQ⟩ := h₁
  have hne : l ≠ s₁.heap.objs.size := Nat.ne_of_lt (by obtain ⟨o, ho, _⟩ := hl; exact Heap.lt_size ho)
  refine wpAny_pyIter_list hl ?_
  have fr := F.push { cls := .type "list_iterator", data := .fields #[.ref l, .int 0 0] }
  refine ⟨_, _, _, _, _, _, rfl, Walks.list hh s₁.heap.objs.size l hne vs.toArray, by simpa using szl hz, ⟨⟨_, Heap.get?_push_size _ rfl, rfl, rfl⟩, hl.at fun o e => Heap.get?_push_of_some _ e⟩, ?_, ?_, ?_⟩
  · intro b hb
    rw [Heap.size_push]
    rcases List.mem_cons.mp hb with rfl | hb
    · exact Nat.lt_succ_self _
    · rw [List.mem_singleton.mp hb]; obtain ⟨o, ho, _⟩ := hl; exact Nat.lt_succ_of_lt (Heap.lt_size ho)
  · exact q.on (fun i v hv => by have := Array.mem_of_getElem? hv; simpa using this) fun b o e => ⟨fun hm => by rw [List.mem_singleton.mp hm] at e; exact absurd (Heap.lt_size e) (Nat.lt_irrefl _), Heap.get?_push_of_some _ e⟩
  · intro D h' tk ys vs' hD hl' hpl hlen hP hpair hkeep
    have hvs : vs' = vs := by
      refine List.ext_getElem? fun i => ?_
      cases e : vs'[i]? with
      | some v => have := hP i v e; simpa using this.symm
      | none =>
        have : vs'.length ≤ i := by simpa using e
        rw [hlen] at this
        exact (List.getElem?_eq_none (by simpa using this)).symm
    subst hvs
    have kp : ∀ b o, s₁.heap.get? b = some o → h'.get? b = some o := fun b o e => hkeep b o (fun hm => by rw [List.mem_singleton.mp hm] at e; exact absurd (Heap.lt_size e) (Nat.lt_irrefl _)) (Heap.get?_push_of_some _ e)
    have dn : ∀ b o, s₁.heap.get? b = some o → b ≠ D := fun b o e hb => by
      rw [← hb] at hD
      have e' : (s₁.heap.push { cls := .type "list_iterator", data := .fields #[.ref l, .int 0 0] }).get? b = some o := Heap.get?_push_of_some _ e
      rw [hD] at e'
      cases e'
    obtain ⟨n, hn⟩ := hpl
    refine hQ D h' tk n ys.toList hpair ⟨F.ns.at' fun o e => kp _ _ e, fun b o e => kp _ _ (F.keep b o e), F.above⟩ (fun q' hq' => ?_) fun q' hq' => dn _ _ (N q' hq').1
    rcases List.mem_cons.mp hq' with rfl | hq'
    · refine ⟨by simpa using hn, ?_, ?_⟩
      · obtain ⟨o, es, ep, ho, _⟩ := F.ns; exact (dn _ _ ho).symm
      · cases e : h₀.get? D with
        | none => rfl
        | some o => exact absurd rfl (dn _ _ (F.keep _ _ e))
    · exact ⟨kp _ _ (N q' hq').1, (N q' hq').2⟩
theorem walks_lt {I : Addr} {fp wr : List Addr} {n : Nat} {P : Nat → Value → Prop} {St : Nat → Heap → Prop} (W : Walks prog w A I fp wr n P St) : Walks prog w A I fp wr n (fun i v => i < n ∧ P i v) St where
  sub := W.sub
  frame := W.frame
  item := fun i s Q E hi st hQ => W.item i s Q E hi st fun v h' tk hP st' hk => hQ v h' tk ⟨hi, hP⟩ st' hk
  done := W.done
  self := W.self
/-- the frame behind a comprehension that is stored -/
theorem lc_fin {y : Str} {s₁ : Shared} {ob : Obj} {h₀ h' : Heap} {m : Str → Option Value} {news : List (Addr × Obj)} {D : Addr} {ys : Array Value} (F : Fr h₀ env.locals s₁.heap m) (N : News h₀ env.locals s₁.heap news)
    (hD : (s₁.heap.push ob).get? D = none) (hpl : h'.PlainList D ys) (hns : h'.Ns env.locals (fun z => if z = y then some (.ref D) else m z))
    (hkeep : ∀ b o, b ≠ env.locals → b ∉ [s₁.heap.objs.size] → (s₁.heap.push ob).get? b = some o → h'.get? b = some o) :
    ∃ n, Fr h₀ env.locals h' (fun z => if z = y then some (.ref D) else m z) ∧ News h₀ env.locals h' ((D, W.listOf ys.toList.toArray n) :: news) ∧ (∀ q ∈ news, q.1 ≠ D) := by
  have kp : ∀ b o, b ≠ env.locals → s₁.heap.get? b = some o → h'.get? b = some o := fun b o hb e => hkeep b o hb (fun hm => by rw [List.mem_singleton.mp hm] at e; exact absurd (Heap.lt_size e) (Nat.lt_irrefl _)) (Heap.get?_push_of_some _ e)
  have dn : ∀ b o, s₁.heap.get? b = some o → b ≠ D := fun b o e hb => by
    rw [← hb] at hD
    have e' : (s₁.heap.push ob).get? b = some o := Heap.get?_push_of_some _ e
    rw [hD] at e'
    cases e'
  obtain ⟨n, hn⟩ := hpl
  refine ⟨n, ⟨hns, fun b o e => kp _ _ (Nat.ne_of_lt (Nat.lt_of_lt_of_le (Heap.lt_size e) F.above)) (F.keep b o e), F.above⟩, fun q' hq' => ?_, fun q' hq' => dn _ _ (N q' hq').1⟩
  rcases List.mem_cons.mp hq' with rfl | hq'
  · refine ⟨by simpa using hn, ?_, ?_⟩
    · obtain ⟨o, es, ep, ho, _⟩ := F.ns; exact (dn _ _ ho).symm
    · cases e : h₀.get? D with
      | none => rfl
      | some o => exact absurd rfl (dn _ _ (F.keep _ _ e))
  · exact ⟨kp _ _ (N q' hq').2.1 (N q' hq').1, (N q' hq').2⟩
/-- a comprehension over a list, stored -/
theorem lcA {elt iter : PySem.Expr} {x y : Str} {px py : Pos} {ifs : List PySem.Expr} {scope : Scope} {cl : List (Str × Addr)} {pos spos : Pos} {Q : Flow → Shared → Prop} (p : Value → Bool) (G : Value → Value → Prop) (hh : A.handled = none)
    (hsw : swapsWith (.ListComp elt [⟨.Name x px, iter, ifs, 0⟩] scope pos) (some (.Name y py)) spos.line env = pure true)
    (hclos : closureFor scope env = pure cl) (hcell : ∀ y ∈ scope.names, y.2 ≠ .cell) (hkind : scope.kind = .function)
    (hnames : ∀ y ∈ scope.names, y.2 = .local → scope.names.lookup y.1 = some .local) (hx : scope.names.lookup x = some .local)
    (hy : env.kindOf y = some .local) (hp : (env.scope.kind == .class || (env.scope.kind == .module && env.locals != env.globals)) = false)
    (h : wpAny (model prog w) A (eval iter env) (LcA prog w A env scope cl x y ifs elt p G Q) E s)
    (hs : ∀ x, foldedSetIterable iter env x = pure x) :
    wpAny (model prog w) A (exec (.Assign [.Name y py] (.ListComp elt [⟨.Name x px, iter, ifs, 0⟩] scope pos) spos) env) Q E s := by
  refine wpAny_Assign_ListComp_free p G hsw hclos hcell hkind hnames hx hy hp (wpAny_mono h (fun xv s₁ h₁ => ?_) fun _ _ e => e) hs
  obtain ⟨l, vs, h₀, m, news, rfl, hl, hz, F, N, q, hQ⟩ := h₁
  have hne : l ≠ s₁.heap.objs.size := Nat.ne_of_lt (by obtain ⟨o, ho, _⟩ := hl; exact Heap.lt_size ho)
  refine wpAny_pyIter_list hl ?_
  have fr := F.push { cls := .type "list_iterator", data := .fields #[.ref l, .int 0 0] }
  refine ⟨_, _, _, _, _, _, m, rfl, Walks.list hh s₁.heap.objs.size l hne vs.toArray, by simpa using szl hz, ⟨⟨_, Heap.get?_push_size _ rfl, rfl, rfl⟩, hl.at fun o e => Heap.get?_push_of_some _ e⟩, ?_, ?_, fr.ns, ?_, ?_⟩
  · intro b hb
    rw [Heap.size_push]
    rcases List.mem_cons.mp hb with rfl | hb
    · exact Nat.lt_succ_self _
    · rw [List.mem_singleton.mp hb]; obtain ⟨o, ho, _⟩ := hl; exact Nat.lt_succ_of_lt (Heap.lt_size ho)
  · intro hm
    exact absurd F.ns.lt ((List.mem_singleton.mp hm) ▸ Nat.lt_irrefl _)
  · exact q.on (fun i v hv => by have := Array.mem_of_getElem? hv; simpa using this) fun b o e => ⟨fun hm => by rw [List.mem_singleton.mp hm] at e; exact absurd (Heap.lt_size e) (Nat.lt_irrefl _), Heap.get?_push_of_some _ e⟩
  · intro D h' tk ys vs' hD hl' hpl hlen hP hpair hns hkeep
    have hvs : vs' = vs := by
      refine List.ext_getElem? fun i => ?_
      cases e : vs'[i]? with
      | some v => have := hP i v e; simpa using this.symm
      | none =>
        have : vs'.length ≤ i := by simpa using e
        rw [hlen] at this
        exact (List.getElem?_eq_none (by simpa using this)).symm
    subst hvs
    obtain ⟨n, a, b, c⟩ := lc_fin F N hD hpl hns hkeep
    exact hQ D h' tk n ys.toList hpair a b c
/-- a comprehension over a range, stored -/
theorem lcR {elt iter : PySem.Expr} {x y : Str} {px py : Pos} {ifs : List PySem.Expr} {scope : Scope} {cl : List (Str × Addr)} {pos spos : Pos} {Q : Flow → Shared → Prop} (p : Value → Bool) (G : Value → Value → Prop) (hh : A.handled = none)
    (hsw : swapsWith (.ListComp elt [⟨.Name x px, iter, ifs, 0⟩] scope pos) (some (.Name y py)) spos.line env = pure true)
    (hclos : closureFor scope env = pure cl) (hcell : ∀ y ∈ scope.names, y.2 ≠ .cell) (hkind : scope.kind = .function)
    (hnames : ∀ y ∈ scope.names, y.2 = .local → scope.names.lookup y.1 = some .local) (hx : scope.names.lookup x = some .local)
    (hy : env.kindOf y = some .local) (hp : (env.scope.kind == .class || (env.scope.kind == .module && env.locals != env.globals)) = false)
    (h : wpAny (model prog w) A (eval iter env) (LcR prog w A env scope cl x y ifs elt p G Q) E s)
    (hs : ∀ x, foldedSetIterable iter env x = pure x) :
    wpAny (model prog w) A (exec (.Assign [.Name y py] (.ListComp elt [⟨.Name x px, iter, ifs, 0⟩] scope pos) spos) env) Q E s := by
  refine wpAny_Assign_ListComp_free p G hsw hclos hcell hkind hnames hx hy hp (wpAny_mono h (fun xv s₁ h₁ => ?_) fun _ _ e => e) hs
  obtain ⟨r, b₀, t₀, u₀, v₀, n, h₀, m, news, rfl, hr, hsmall, hn, hz, F, N, q, hQ⟩ := h₁
  refine wpAny_pyIter_range hr hsmall ?_
  have W : Walks prog w A s₁.heap.objs.size [s₁.heap.objs.size] [s₁.heap.objs.size] n (fun i v => ∃ t, v = .int (0 + i * 1) t)
      (fun i h => IsRangeIter h s₁.heap.objs.size (0 + (i : Nat) * 1) ((n : Int) - (i : Nat)) 1) := Walks.range hh _ 0 1 n
  refine ⟨_, _, _, _, _, _, m, rfl, walks_lt W, szl hz, (by show IsRangeIter _ _ _ _ _; rw [hn]; simpa using Heap.get?_push_size _ rfl), ?_, ?_, (F.push _).ns, ?_, ?_⟩
  · intro b hb
    rw [Heap.size_push, List.mem_singleton.mp hb]
    exact Nat.lt_succ_self _
  · intro hm
    exact absurd F.ns.lt ((List.mem_singleton.mp hm) ▸ Nat.lt_irrefl _)
  · exact q.on (fun i v hv => by obtain ⟨hi, t, rfl⟩ := hv; exact ⟨i, t, hi, by congr 1; omega⟩) fun b o e => ⟨fun hm => by rw [List.mem_singleton.mp hm] at e; exact absurd (Heap.lt_size e) (Nat.lt_irrefl _), Heap.get?_push_of_some _ e⟩
  · intro D h' tk ys vs' hD hl' hpl hlen hP hpair hns hkeep
    obtain ⟨n', a, b, c⟩ := lc_fin F N hD hpl hns hkeep
    exact hQ D h' tk n' vs' ys.toList hlen (fun i v e => by obtain ⟨_, t, rfl⟩ := hP i v e; exact ⟨t, by congr 1; omega⟩) hpair a b c
end
end Mine
end
section
open PySem PySem.W PyProof.Rows PySem.Calls PySem.Spec
namespace Mine
def tGo (name : Str) : List Str → Int → Option Int
  | [], spot => some spot
  | p :: ps, spot => if Txt.find3 name (Txt.slice p none (some (-1))) spot < 0 then none else tGo name ps (Txt.find3 name (Txt.slice p none (some (-1))) spot + p.length - 1)
def takesB (name front : Str) (mids : List Str) (e1 : Str) : Bool :=
  if (Txt.slice name none (some (front.length : Int)) != front) = true then false else
  match tGo name mids front.length with
  | none => false
  | some spot => decide (spot ≤ (name.length : Int) - e1.length) && (Txt.slice name (some ((name.length : Int) - e1.length)) none == e1)
theorem pick_tailC (v : Value) (r : List Value) : kms_pick (v :: r).toArray.toList (some 1) none = r := by rw [pick_tail]; simp
theorem strs_cons_inv {vs : List Value} {y : Str} {ys : List Str} (h : StrsAre vs (y :: ys)) : ∃ (t : Tok) (r : List Value), vs = Value.str y t :: r ∧ StrsAre r ys := by
  cases h with
  | cons _ t h => exact ⟨t, _, rfl, h⟩
theorem strs_snoc_inv {vs : List Value} {y : Str} {ys : List Str} (h : StrsAre vs (ys ++ [y])) : ∃ (vi : List Value) (t : Tok), vs = vi ++ [Value.str y t] ∧ StrsAre vi ys := by
  obtain ⟨vi, si, y', t, e1, e2, h'⟩ := strs_snoc h (by intro e; subst e; have := h.length; simp at this)
  obtain ⟨rfl, e3⟩ := List.append_inj' e2 rfl
  cases e3
  exact ⟨vi, t, e1, h'⟩
theorem strs_mem : ∀ {vs : List Value} {ys : List Str}, StrsAre vs ys → ∀ v ∈ vs, ∃ y ∈ ys, ∃ t : Tok, v = Value.str y t
  | _, _, .nil, v, h => by cases h
  | _, _, .cons y t r, v, h => by
    rcases List.mem_cons.mp h with rfl | h
    · exact ⟨y, .head _, t, rfl⟩
    · obtain ⟨y', hy', e⟩ := strs_mem r v h
      exact ⟨y', .tail _ hy', e⟩
theorem paired_none {G : Value → Value → Prop} {vs ys : List Value} (h : Paired G (vs.filter fun _ => false) ys) : ys = [] := by
  have e : vs.filter (fun _ => false) = [] := by simp
  rw [e] at h
  cases h
  rfl
theorem forIn1 {M : Model} {A : Around} {E : Value → Shared → Prop} {s : Shared} {c : PySem.Expr} {cenv : Env} {Q : Bool → Shared → Prop} (h : wpAny M A (PySem.isTrue c cenv (eval c cenv)) Q E s) :
    wpAny M A (forIn [c] true fun c r => if r = true then do let ok ← PySem.isTrue c cenv (eval c cenv); pure (ForInStep.yield ok) else pure (ForInStep.yield r)) Q E s := by
  simp only [List.forIn_cons, List.forIn_nil, if_true]
  exact wpAny_bind (wpAny_bind (wpAny_mono h (fun ok s' q => wpAny_pure (wpAny_pure q)) fun _ _ e => e))
theorem forIn0 {M : Model} {A : Around} {E : Value → Shared → Prop} {s : Shared} {cenv : Env} {Q : Bool → Shared → Prop} (h : Q true s) :
    wpAny M A (forIn [] true fun c r => if r = true then do let ok ← PySem.isTrue c cenv (eval c cenv); pure (ForInStep.yield ok) else pure (ForInStep.yield r)) Q E s := by
  simp only [List.forIn_nil]
  exact wpAny_pure h
theorem strs_at : ∀ {vs : List Value} {ys : List Str}, StrsAre vs ys → ∀ {i : Nat} {v : Value}, vs[i]? = some v → ∃ (y : Str) (t : Tok), v = Value.str y t ∧ ys[i]? = some y
  | _, _, .nil, _, _, h => by simp at h
  | _, _, .cons y t r, 0, _, h => by cases h; exact ⟨y, t, rfl, rfl⟩
  | _, _, .cons y t r, i + 1, _, h => strs_at r (i := i) (by simpa using h)
theorem news2 {h₀ h : Heap} {L : Addr} {news : List (Addr × Obj)} {a b : Addr × Obj} (N : News h₀ L h news) (ha : a ∈ news) (hb : b ∈ news) : News h₀ L h [a, b] := fun p hp => by
  rcases List.mem_cons.mp hp with rfl | hp
  · exact N _ ha
  · rw [List.mem_singleton.mp hp]; exact N _ hb
theorem drop_at {ys : List Str} {i : Nat} {y : Str} (h : ys[i]? = some y) : ys.drop i = y :: ys.drop (i + 1) := by
  obtain ⟨hi, rfl⟩ := List.getElem?_eq_some_iff.mp h
  exact List.drop_eq_getElem_cons hi
section
variable {prog : Program} {w : World} {A : Around} {E : Value → Shared → Prop} {s : Shared} {h₀ : Heap} {L : Addr} {m : Str → Option Value} {news : List (Addr × Obj)} {Q : Value → Shared → Prop}
theorem splitSn {x y last : Str} {t u : Tok} {ini : List Str} (F : Fr h₀ L s.heap m) (N : News h₀ L s.heap news) (hy : (y.length == 0) = false) (e : Txt.split x y = ini ++ [last]) (hz : x.length ≤ 1000000)
    (h : ∀ D vi tl h' k, StrsAre vi ini → Fr h₀ L h' m → News h₀ L h' ((D, W.listOf (vi ++ [Value.str last tl]).toArray 0) :: news) → (∀ p ∈ news, p.1 < D) → Q (.ref D) { s with heap := h', toks := k }) :
    wpAny (model prog w) A (call (.builtin "str.split") [.str x t, .str y u]) Q E s :=
  splitS F N hy e hz fun D vs h' k hs F' N' l1 => by
    obtain ⟨vi, tl, rfl, hv⟩ := strs_snoc_inv hs
    exact h D vi tl h' k hv F' N' l1
theorem split2 {x y a b : Str} {t u : Tok} (F : Fr h₀ L s.heap m) (N : News h₀ L s.heap news) (hy : (y.length == 0) = false) (e : Txt.split x y = [a, b]) (hz : x.length ≤ 1000000)
    (h : ∀ D t0 t1 h' k, Fr h₀ L h' m → News h₀ L h' ((D, W.listOf #[.str a t0, .str b t1] 0) :: news) → (∀ p ∈ news, p.1 < D) → Q (.ref D) { s with heap := h', toks := k }) :
    wpAny (model prog w) A (call (.builtin "str.split") [.str x t, .str y u]) Q E s :=
  splitS F N hy e hz fun D vs h' k hs F' N' l1 => by
    obtain ⟨t0, r, rfl, h1⟩ := strs_cons_inv hs
    obtain ⟨t1, r, rfl, h2⟩ := strs_cons_inv h1
    cases h2
    exact h D t0 t1 h' k F' N' l1
theorem addFM {l b : Addr} {vi : List Value} {ini mids : List Str} {e0 front : Str} {t : Tok} (F : Fr h₀ L s.heap m) (N : News h₀ L s.heap news) (hl : s.heap.IsList l vi.toArray) (hb : s.heap.IsList b [Value.str e0 t].toArray)
    (hv : StrsAre vi ini) (e : ini ++ [e0] = front :: mids) (hz : vi.length ≤ 100000)
    (h : ∀ l' tf mv h', StrsAre mv mids → Fr h₀ L h' m → News h₀ L h' ((l', W.listOf (List.toArray (Value.str front tf :: mv)) 0) :: news) → (∀ p ∈ news, p.1 < l') → Q (.ref l') { s with heap := h' }) :
    wpAny (model prog w) A (binaryOp .Add (.ref l) (.ref b)) Q E s :=
  addL F N hl hb (by simp only [List.size_toArray, List.length_cons, List.length_nil]; omega) fun l' h' F' N' l1 => by
    have hs : StrsAre (vi.toArray.toList ++ [Value.str e0 t].toArray.toList) (front :: mids) := by rw [← e]; simpa using hv.append' (.cons _ _ .nil)
    obtain ⟨tf, mv, e', hm⟩ := strs_cons_inv hs
    rw [e'] at N'
    exact h l' tf mv h' hm F' N' l1
theorem len2 {l : Addr} {a b : Value} (hl : s.heap.IsList l #[a, b]) (h : Q (.int 2 (s.toks + 1)) { s with toks := s.toks + 1 + 1 }) :
    wpAny (model prog w) A (call (.builtin "len") [.ref l]) Q E s := kun_lenL hl rfl (by simp) h
theorem itemHd {value slice : PySem.Expr} {l : Addr} {v : Value} {r : List Value} {u : Tok}
    (hl : s.heap.IsList l (List.toArray (v :: r))) (h : Q v s)
    (hs : subscripted slice false (.ref l) (.int 0 u) = operate [.ref l, .int 0 u] (getItem (.ref l) (.int 0 u))) :
    wpAny (model prog w) A (subscriptTail value slice (.ref l) (.int 0 u)) Q E s := itemL hl (by decide) (by decide) rfl h hs
theorem itemSnd {value slice : PySem.Expr} {l : Addr} {v v' : Value} {r : List Value} {u : Tok}
    (hl : s.heap.IsList l (List.toArray (v' :: v :: r))) (h : Q v s)
    (hs : subscripted slice false (.ref l) (.int 1 u) = operate [.ref l, .int 1 u] (getItem (.ref l) (.int 1 u))) :
    wpAny (model prog w) A (subscriptTail value slice (.ref l) (.int 1 u)) Q E s := itemL hl (by decide) (by decide) rfl h hs
end
end Mine
end
section
open PySem PySem.W PyProof.Rows PySem.Calls PySem.Spec
namespace Mine
section
variable {M : Model} {A : Around} {E : Value → Shared → Prop} {s : Shared} {w : World} {mean : ExcName → Option Value} {h₀ : Heap} {L a : Addr} {m mg mb : Str → Option Value} {cn : Str} {cs : Scope} {ccd : Value} {x : Str} {pos : Pos} {v : Value} {news : List (Addr × Obj)}
theorem nameBC {Q : Value → Shared → Prop} (F : Fr h₀ L s.heap m) (H : Here w mean mg mb h₀) (e : nsIn (KK w) mainGlobals x = some none) (hv : bootBuiltins x = some v) (hn : x ≠ "__name__") (h : Q v s)
    (hk : cs.kind = .function) (hx : (envOfC cn cs L a ccd).kindOf x = some .globalImplicit) (hd : (x == ("__debug__" : Str)) = false) :
    wpAny M A (eval (.Name x pos) (envOfC cn cs L a ccd)) Q E s := nameX_B (cl := cellsFrom (L + 1) cs.names []) F H.X (topRead_of H.T) e hv hn h hk hx hd
theorem nameCC {Q : Value → Shared → Prop} {c : Addr} {o : Obj} (N : News h₀ L s.heap news) (hc : (cellsFrom (L + 1) cs.names []).lookup x = some c) (hm : (c, o) ∈ news) (hd : o.data = .cell (some v)) (h : Q v s)
    (hk : cs.kind = .function) (hx : (envOfC cn cs L a ccd).kindOf x = some .cell) (hb : (x == ("__debug__" : Str)) = false) :
    wpAny M A (eval (.Name x pos) (envOfC cn cs L a ccd)) Q E s := nameX_C (cl := cellsFrom (L + 1) cs.names []) N hc hm hd h hk hx hb
/-- a name that a comprehension's own scope does not hold: a built-in one -/
theorem cfB {h₁ h₃ : Heap} {C : Addr} {scope : Scope} {cl : List (Str × Addr)} {env : Env} {Q : Value → Shared → Prop} (K : Cf h₁ h₃ C m s.heap) (H : Here w mean mg mb h₁) (e : nsIn (KK w) mainGlobals x = some none) (hv : bootBuiltins x = some v) (hn : x ≠ "__name__") (h : Q v s)
    (hg : env.globals = mainGlobals) (hbb : env.builtins = builtinsNs)
    (hk : (compEnvC scope cl C env).scope.kind = .function) (hx : (compEnvC scope cl C env).kindOf x = some .globalImplicit) (hd : (x == ("__debug__" : Str)) = false) :
    wpAny M A (eval (.Name x pos) (compEnvC scope cl C env)) Q E s :=
  Name_function_global hk hx (loadGlobal_builtin (env := compEnvC scope cl C env) (by show s.heap.Ns env.globals mg; rw [hg]; exact H.T.g.keeps K.base) (mg_none_of H.X H.T.g e) (by show s.heap.Ns env.builtins mb; rw [hbb]; exact H.T.b.keeps K.base) ((H.T.builtins x hn).trans hv) h) hd
end
/-! what _law_found computes -/
def wAt (words : List Str) (j : Int) : Str := words.getD j.toNat ⟨#[]⟩
def leastOf (ns : List Int) (n : Int) : Int := ns.foldr min n
def fw1 (words : List Str) (one : Str) (least : Int) : List Int := ((List.range words.length).map Int.ofNat).filter fun j => decide (least < j) && (Txt.slice (wAt words j) none (some (one.length : Int)) == one)
def fw2 (ahead : Bool) (k : Nat) (w1 : List Int) : List Int := if k = 0 ∧ ahead = false then w1.filter (fun j => j == 0) else w1
def fw3 (words : List Str) (behind : Bool) (n k : Nat) (one : Str) (w2 : List Int) : List Int := if (k : Int) = (n : Int) - 1 ∧ behind = false then w2.filter (fun j => (j == (words.length : Int) - 1) && (wAt words j == one)) else w2
def fStep (words : List Str) (ahead behind : Bool) (n k : Nat) (one : Str) (ways : List Int) : List Int := fw3 words behind n k one (fw2 ahead k (fw1 words one (leastOf ways words.length)))
def fGo (words : List Str) (ahead behind : Bool) (n : Nat) : List Str → Nat → List Int → List Int
  | [], _, ways => ways
  | one :: rest, k, ways => fGo words ahead behind n rest (k + 1) (fStep words ahead behind n k one ways)
def foundB (sought words : List Str) (ahead behind : Bool) : Bool := !decide (fGo words ahead behind sought.length sought 0 [-1] = [])
theorem least_mem (n : Int) : ∀ ns : List Int, leastOf ns n ∈ ns ++ [n] ∧ ∀ a ∈ ns ++ [n], leastOf ns n ≤ a
  | [] => ⟨by simp [leastOf], fun a ha => by simp at ha; subst ha; exact Int.le_refl _⟩
  | x :: r => by
    obtain ⟨h1, h2⟩ := least_mem n r
    have e : leastOf (x :: r) n = min x (leastOf r n) := rfl
    constructor
    · rw [e]
      rcases Int.le_total x (leastOf r n) with h | h
      · rw [Int.min_eq_left h]; exact .head _
      · rw [Int.min_eq_right h]; exact .tail _ h1
    · intro a ha
      rcases List.mem_cons.mp ha with rfl | ha
      · rw [e]; exact Int.min_le_left _ _
      · have := h2 a ha; rw [e]; exact Int.le_trans (Int.min_le_right _ _) this
theorem least_eq {ns : List Int} {n M : Int} (h1 : M ∈ ns ++ [n]) (h2 : ∀ a ∈ ns ++ [n], M ≤ a) : M = leastOf ns n :=
  Int.le_antisymm (h2 _ (least_mem n ns).1) ((least_mem n ns).2 _ h1)
def intP (q : Int → Bool) : Value → Bool
  | .int j _ => q j
  | _ => false
theorem paired_eq : ∀ {vs ys : List Value}, Paired (fun v y => y = v) vs ys → ys = vs
  | _, _, .nil => rfl
  | _, _, .cons h t => by rw [h, paired_eq t]
theorem ints_filter (q : Int → Bool) : ∀ {vs : List Value} {ns : List Int}, IntsAre vs ns → IntsAre (vs.filter (intP q)) (ns.filter q)
  | _, _, .nil => .nil
  | _, _, .cons n t r => by
    have ih := ints_filter q r
    by_cases hq : q n = true
    · rw [List.filter_cons_of_pos (show intP q (.int n t) = true from hq), List.filter_cons_of_pos hq]
      exact .cons n t ih
    · rw [List.filter_cons_of_neg (show ¬ intP q (.int n t) = true from hq), List.filter_cons_of_neg hq]
      exact ih
theorem ints_range : ∀ {vs : List Value} (k : Nat), (∀ (i : Nat) (v : Value), vs[i]? = some v → ∃ t : Tok, v = Value.int ((k + i : Nat) : Int) t) → IntsAre vs ((List.range' k vs.length).map Int.ofNat)
  | [], _, _ => .nil
  | v :: vs, k, h => by
    obtain ⟨t, e⟩ := h 0 v rfl
    subst e
    exact .cons _ t (ints_range (k + 1) fun i v hv => by
      obtain ⟨t, e⟩ := h (i + 1) v hv
      exact ⟨t, by rw [e]; congr 2; omega⟩)
theorem fw1_ints {vs ys : List Value} {words : List Str} {one : Str} {least : Int} (hlen : vs.length = words.length) (hv : ∀ (i : Nat) (v : Value), vs[i]? = some v → ∃ t : Tok, v = Value.int (i : Int) t)
    (hp : Paired (fun v y => y = v) (vs.filter (intP fun j => decide (least < j) && (Txt.slice (wAt words j) none (some (one.length : Int)) == one))) ys) : IntsAre ys (fw1 words one least) := by
  have h1 := ints_range (vs := vs) 0 fun i v hvi => by obtain ⟨t, e⟩ := hv i v hvi; exact ⟨t, by rw [e]; congr 2; omega⟩
  rw [hlen, ← List.range_eq_range'] at h1
  rw [paired_eq hp]
  exact ints_filter _ h1
abbrev CellObj := { o : Obj // ∃ v, o.data = Data.cell v }
theorem ints_snoc : ∀ {vs : List Value} {ns : List Int} (n : Int) (t : Tok), IntsAre vs ns → IntsAre (vs ++ [.int n t]) (ns ++ [n])
  | _, _, n, t, .nil => .cons n t .nil
  | _, _, n, t, .cons k u r => .cons k u (ints_snoc n t r)
theorem minK {prog : Program} {w : World} {A : Around} {E : Value → Shared → Prop} {s : Shared} {h₀ : Heap} {L l : Addr} {m : Str → Option Value} {news : List (Addr × Obj)} {ways : List Value} {ns : List Int} {n : Int} {tn : Tok} {Q : Value → Shared → Prop}
    (hh : A.handled = none) (F : Fr h₀ L s.heap m) (N : News h₀ L s.heap news) (hl : s.heap.IsList l (ways.toArray.toList ++ [Value.int n tn].toArray.toList).toArray) (hi : IntsAre ways ns)
    (h : ∀ h' t tk, Fr h₀ L h' m → News h₀ L h' news → Q (.int (leastOf ns n) t) { s with heap := h', toks := tk }) :
    wpAny (model prog w) A (call (.builtin "min") [.ref l]) Q E s :=
  kso_min F N hl (by simpa using ints_snoc n tn hi) (by simp) hh fun h' M t tk F' N' a b => by rw [least_eq a b]; exact h h' t tk F' N'
/-- the end of an if that may lay a new list under the name y -/
def FEnd (h₀ : Heap) (L : Addr) (y : Str) (m : Str → Option Value) (news : List (Addr × Obj)) (ns : List Int) (s : Shared) (fl : Flow) (s' : Shared) : Prop :=
  fl = .next ∧ ∃ (D : Addr) (h' : Heap) (tk n : Nat) (ys : List Value), s' = { s with heap := h', toks := tk } ∧ Fr h₀ L h' (fun z => if z = y then some (.ref D) else m z) ∧ News h₀ L h' ((D, W.listOf ys.toArray n) :: news) ∧ IntsAre ys ns ∧ ∀ q ∈ news, q.1 ≠ D
theorem ifJoin {M : Model} {A : Around} {E : Value → Shared → Prop} {s : Shared} {h₀ : Heap} {L D : Addr} {y : Str} {m : Str → Option Value} {news : List (Addr × Obj)} {st : Stmt} {env : Env} {Q : Flow → Shared → Prop} {ys : List Value} {n : Nat}
    (_F : Fr h₀ L s.heap (fun z => if z = y then some (.ref D) else m z)) (_N : News h₀ L s.heap ((D, W.listOf ys.toArray n) :: news)) (ns : List Int)
    (h1 : wpAny M A (exec st env) (FEnd h₀ L y m news ns s) E s)
    (h2 : ∀ D h' tk n (ys : List Value), Fr h₀ L h' (fun z => if z = y then some (.ref D) else m z) → News h₀ L h' ((D, W.listOf ys.toArray n) :: news) → IntsAre ys ns → (∀ q ∈ news, q.1 ≠ D) → Q .next { s with heap := h', toks := tk }) :
    wpAny M A (exec st env) Q E s := wpAny_mono h1 (fun fl s' hq => by
      obtain ⟨rfl, D, h', tk, n, ys, rfl, a, b, c, d⟩ := hq
      exact h2 D h' tk n ys a b c d) fun _ _ e => e
theorem fEnd_same {h₀ : Heap} {L D : Addr} {y : Str} {m : Str → Option Value} {news : List (Addr × Obj)} {ns : List Int} {s : Shared} {h' : Heap} {tk n : Nat} {ys : List Value} (F : Fr h₀ L h' (fun z => if z = y then some (.ref D) else m z)) (N : News h₀ L h' ((D, W.listOf ys.toArray n) :: news)) (hi : IntsAre ys ns) (hn : ∀ q ∈ news, q.1 ≠ D) :
    FEnd h₀ L y m news ns s .next { s with heap := h', toks := tk } := ⟨rfl, D, h', tk, n, ys, rfl, F, N, hi, hn⟩
theorem fEnd_new {h₀ : Heap} {L D D0 : Addr} {y : Str} {m : Str → Option Value} {news : List (Addr × Obj)} {o0 : Obj} {ns : List Int} {s : Shared} {h' : Heap} {tk n : Nat} {ys : List Value}
    (F : Fr h₀ L h' (fun z => if z = y then some (.ref D) else if z = y then some (.ref D0) else m z)) (N : News h₀ L h' ((D, W.listOf ys.toArray n) :: (D0, o0) :: news)) (hi : IntsAre ys ns) (hn : ∀ q ∈ (D0, o0) :: news, q.1 ≠ D) :
    FEnd h₀ L y m news ns s .next { s with heap := h', toks := tk } := by
  refine ⟨rfl, D, h', tk, n, ys, rfl, ?_, fun q hq => ?_, hi, fun q hq => hn q (.tail _ hq)⟩
  · have e : (fun z => if z = y then some (Value.ref D) else if z = y then some (.ref D0) else m z) = fun z => if z = y then some (.ref D) else m z := by
      funext z
      by_cases hz : z = y <;> simp [hz]
    rw [e] at F
    exact F
  · rcases List.mem_cons.mp hq with rfl | hq
    · exact N _ (.head _)
    · exact N _ (.tail _ (.tail _ hq))
theorem fw1_len (words : List Str) (one : Str) (least : Int) : (fw1 words one least).length ≤ words.length := by
  unfold fw1
  refine Nat.le_trans (List.length_filter_le _ _) ?_
  simp
theorem fw2_len (ahead : Bool) (k : Nat) (w : List Int) : (fw2 ahead k w).length ≤ w.length := by
  unfold fw2
  split
  · exact List.length_filter_le _ _
  · exact Nat.le_refl _
theorem fw3_len (words : List Str) (behind : Bool) (n k : Nat) (one : Str) (w : List Int) : (fw3 words behind n k one w).length ≤ w.length := by
  unfold fw3
  split
  · exact List.length_filter_le _ _
  · exact Nat.le_refl _
theorem fw1_range {words : List Str} {one : Str} {least j : Int} (h : j ∈ fw1 words one least) : 0 ≤ j ∧ j < words.length := by
  unfold fw1 at h
  obtain ⟨h1, _⟩ := List.mem_filter.mp h
  obtain ⟨k, hk, rfl⟩ := List.mem_map.mp h1
  have := List.mem_range.mp hk
  simp only [Int.ofNat_eq_natCast]
  omega
theorem fw2_sub {ahead : Bool} {k : Nat} {w : List Int} {j : Int} (h : j ∈ fw2 ahead k w) : j ∈ w := by
  unfold fw2 at h
  split at h
  · exact (List.mem_filter.mp h).1
  · exact h
theorem ints_mem : ∀ {vs : List Value} {ns : List Int}, IntsAre vs ns → ∀ v ∈ vs, ∃ (j : Int) (t : Tok), v = Value.int j t ∧ j ∈ ns
  | _, _, .nil, v, h => by cases h
  | _, _, .cons n t r, v, h => by
    rcases List.mem_cons.mp h with rfl | h
    · exact ⟨n, t, rfl, .head _⟩
    · obtain ⟨j, t', e, hj⟩ := ints_mem r v h
      exact ⟨j, t', e, .tail _ hj⟩
theorem news5 {h₀ h : Heap} {L : Addr} {news : List (Addr × Obj)} {a b c d e : Addr × Obj} (N : News h₀ L h news) (ha : a ∈ news) (hb : b ∈ news) (hc : c ∈ news) (hd : d ∈ news) (he : e ∈ news) : News h₀ L h [a, b, c, d, e] := fun p hp => by
  simp only [List.mem_cons, List.not_mem_nil, or_false] at hp
  rcases hp with rfl | rfl | rfl | rfl | rfl
  · exact N _ ha
  · exact N _ hb
  · exact N _ hc
  · exact N _ hd
  · exact N _ he
theorem ne4 {news : List (Addr × Obj)} {D : Addr} {b c d e : Addr × Obj} (h : ∀ q ∈ news, q.1 ≠ D) (hb : b ∈ news) (hc : c ∈ news) (hd : d ∈ news) (he : e ∈ news) : ∀ q ∈ [b, c, d, e], q.1 ≠ D := fun p hp => by
  simp only [List.mem_cons, List.not_mem_nil, or_false] at hp
  rcases hp with rfl | rfl | rfl | rfl
  · exact h _ hb
  · exact h _ hc
  · exact h _ hd
  · exact h _ he
end Mine
end
section
open PySem PySem.W PyProof.Rows PySem.Calls PySem.Spec
namespace Mine
section
variable {prog : Program} {w : World} {A : Around} {E : Value → Shared → Prop} {s : Shared} {h₀ : Heap} {L : Addr} {m : Str → Option Value} {news : List (Addr × Obj)} {Q : Value → Shared → Prop}
theorem splitW2 {x : Str} {t : Tok} (F : Fr h₀ L s.heap m) (N : News h₀ L s.heap news) (hz : x.length ≤ 1000000)
    (h : ∀ D vs h' k, StrsAre vs (Txt.words x) → Fr h₀ L h' m → News h₀ L h' ((D, W.listOf vs.toArray 0) :: news) → (∀ p ∈ news, p.1 < D) → s.toks ≤ k → Q (.ref D) { s with heap := h', toks := k }) :
    wpAny (model prog w) A (call (.builtin "str.split") [.str x t, .none]) Q E s :=
  wpAny_with_toks (Nat.le_refl _) (splitW F N hz fun D vs h' k a b c d e => h D vs h' k a b c d e)
theorem joinMapK2 {I T J l : Addr} {items : Array Value} {ys : List Str} {sep : Str} {t : Tok} (hh : A.handled = none) (F : Fr h₀ L s.heap m)
    (N : News h₀ L s.heap ((I, mapObj T (.builtin "str.capitalize")) :: (T, oneTup J) :: (J, itObj l) :: news)) (hl : s.heap.IsList l items) (hIJ : I ≠ J) (hTJ : T ≠ J)
    (hi : StrsAre items.toList ys) (hsz : (ys.map (·.length)).sum ≤ 100000) (hlen : ys.length ≤ 100000) (hsep : sep.length ≤ 10)
    (h : ∀ h' t' k, (∀ b o, h₀.get? b = some o → h'.get? b = some o) → s.toks ≤ k → Q (.str (Str.join sep (ys.map Txt.capitalize)) t') { s with heap := h', toks := k }) :
    wpAny (model prog w) A (call (.builtin "str.join") [.str sep t, .ref I]) Q E s :=
  wpAny_with_toks (Nat.le_refl _) (joinMapK hh F N hl hIJ hTJ hi hsz hlen hsep fun h' t' k a b => h h' t' k a b)
end
end Mine
end
section
open PySem PySem.W PyProof.Rows PySem.Calls PySem.Spec
namespace Mine
theorem ng_join (w : World) : nsIn (KK w) mainGlobals (Str.ofString "_join_translated_parts") = some (some (.ref 21)) := by rfl
theorem ng_cap (w : World) : nsIn (KK w) mainGlobals (Str.ofString "capwords") = some (some (.ref 29)) := by rfl
theorem ng_built (w : World) : nsIn (KK w) mainGlobals (Str.ofString "_law_built") = some (some (.ref 36)) := by rfl
theorem ng_found (w : World) : nsIn (KK w) mainGlobals (Str.ofString "_law_found") = some (some (.ref 41)) := by rfl
theorem ng_takes (w : World) : nsIn (KK w) mainGlobals (Str.ofString "_law_takes") = some (some (.ref 46)) := by rfl
theorem ng_row (w : World) : nsIn (KK w) mainGlobals (Str.ofString "_law_row") = some (some (.ref 53)) := by rfl
theorem kp_21 (w : World) : keepIn (KK w) (.ref 21) = true := by rfl
theorem kp_29 (w : World) : keepIn (KK w) (.ref 29) = true := by rfl
theorem kp_36 (w : World) : keepIn (KK w) (.ref 36) = true := by rfl
theorem kp_41 (w : World) : keepIn (KK w) (.ref 41) = true := by rfl
theorem kp_46 (w : World) : keepIn (KK w) (.ref 46) = true := by rfl
theorem kp_53 (w : World) : keepIn (KK w) (.ref 53) = true := by rfl
theorem nameG {M : Model} {A : Around} {E : Value → Shared → Prop} {s : Shared} {w : World} {mean : ExcName → Option Value} {h₀ : Heap} {L a : Addr} {m mg mb : Str → Option Value} {cn : Str} {cs : Scope} {ccd : Value}
    {x : Str} {pos : Pos} {v : Value} {Q : Value → Shared → Prop} (F : Fr h₀ L s.heap m) (H : Here w mean mg mb h₀) (e : nsIn (KK w) mainGlobals x = some (some v)) (h : Q v s)
    (hk : cs.kind = .function) (hx : (envOf cn cs L a ccd).kindOf x = some .globalImplicit) (hd : (x == ("__debug__" : Str)) = false) :
    wpAny M A (eval (.Name x pos) (envOf cn cs L a ccd)) Q E s := nameX_K (cl := []) F H.X (topRead_of H.T) e h hk hx hd
/-- a call of one of the text's own -/
theorem callG {M : Model} {A : Around} {E : Value → Shared → Prop} {s : Shared} {w : World} {mean : ExcName → Option Value} {mg mb : Str → Option Value} {h₀ : Heap} {f : Value} {pos : Pos} {env : Env} {e : PySem.Expr} {rest : List PySem.Expr} {Q : Value → Shared → Prop}
    (H : Here w mean mg mb h₀) (hk : keepIn (KK w) f = true)
    (h : wpAny M A (spliced (backTo pos (starEach (e :: rest) env))) (fun vs s₁ => (KK w).In s₁.heap ∧ wpAny M A (call f ([] ++ vs)) Q E s₁) E s)
    (he : starEach (e :: rest) env = (false, eval e env) :: starEach rest env) (hplain : (backTo pos (starEach rest env)).any (·.1) = false) :
    wpAny M A (callWith pos f [] (backTo pos (starEach (e :: rest) env)) []) Q E s := callWith_K H.X hk h he hplain
section
variable {prog : Program} {w : World} {A : Around} {E : Value → Shared → Prop} {s : Shared} {h₀ h h' : Heap} {L : Addr} {m : Str → Option Value} {news : List (Addr × Obj)} {Q : Value → Shared → Prop}
theorem fr_keep (F : Fr h₀ L h m) (k : ∀ b o, h.get? b = some o → h'.get? b = some o) : Fr h₀ L h' m := ⟨F.ns.at' fun o e => k _ _ e, fun b o e => k _ _ (F.keep b o e), F.above⟩
theorem news_keep (N : News h₀ L h news) (k : ∀ b o, h.get? b = some o → h'.get? b = some o) : News h₀ L h' news := fun p hp => ⟨k _ _ (N p hp).1, (N p hp).2⟩
theorem news_add {a : Addr} {o : Obj} (F : Fr h₀ L h m) (N : News h₀ L h' news) (ha : h'.get? a = some o) (hn : h.get? a = none) : News h₀ L h' ((a, o) :: news) := fun p hp => by
  rcases List.mem_cons.mp hp with rfl | hp
  · refine ⟨ha, ?_, ?_⟩
    · rintro rfl
      obtain ⟨ob, es, ep, ho, _⟩ := F.ns
      rw [hn] at ho
      cases ho
    · cases e : h₀.get? a with
      | none => rfl
      | some ob => rw [F.keep _ _ e] at hn; cases hn
  · exact N p hp
theorem pick_takeA (vs : List Value) : kms_pick vs.toArray.toList none (some 14) = vs.take 14 := by
  unfold kms_pick kms_lo kms_hi
  simp
/-- any slice of a list of ints -/
theorem sliceI {value slice : PySem.Expr} {l : Addr} {vs : List Value} {ns : List Int} {vl vu vst : Value} {lo hi st : Option Int}
    (F : Fr h₀ L s.heap m) (N : News h₀ L s.heap news) (hl : s.heap.IsList l vs.toArray) (hi' : IntsAre vs ns) (pl : IsPart vl lo) (pu : IsPart vu hi) (ps : IsPart vst st) (hst : st ≠ some 0) (hz : vs.length ≤ 1000)
    (h : ∀ D zs ms h', IntsAre zs ms → zs.length ≤ vs.length → Fr h₀ L h' m → News h₀ L h' ((D, W.listOf (List.toArray zs) 0) :: news) → (∀ p ∈ news, p.1 < D) → Q (.ref D) { s with heap := h' })
    (hs : subscripted slice false (.ref l) (.ref s.heap.objs.size) = operate [.ref l, .ref s.heap.objs.size] (getItem (.ref l) (.ref s.heap.objs.size))) :
    wpAny (model prog w) A (subscriptTail value slice (.ref l) (.ref s.heap.objs.size)) Q E { s with heap := s.heap.push { cls := .type "slice", data := .fields #[vl, vu, vst] } } := by
  refine tail_any (Heap.IsList.typeIs (s := { s with heap := s.heap.push { cls := .type "slice", data := .fields #[vl, vu, vst] } }) (hl.push _)) slot_list_getitem.lookup
    (wpAny_getItem_list_slice (hl.push _) (Heap.IsSliceOf.new ..) pl pu ps hst ?_ (szl (by simp only [List.size_toArray]; omega))) hs
  have N1 := News.push (F.push { cls := .type "slice", data := .fields #[vl, vu, vst] }) (N.grown fun _ _ e => Heap.get?_push_of_some _ e) { cls := .type "list", data := .seq (slicePick vs.toArray lo hi st) }
  have hall : ∀ v ∈ (slicePick vs.toArray lo hi st).toList, ∃ (n : Int) (t : Tok), v = Value.int n t := by
    intro v hv
    unfold slicePick at hv
    simp only [List.toList_toArray, List.mem_filterMap] at hv
    obtain ⟨i, _, e⟩ := hv
    have hm : v ∈ vs := by
      have := Array.mem_of_getElem? e
      simpa using this
    obtain ⟨j, t, e, _⟩ := ints_mem hi' v hm
    exact ⟨j, t, e⟩
  have hints : ∀ l : List Value, (∀ v ∈ l, ∃ (n : Int) (t : Tok), v = Value.int n t) → ∃ ms, IntsAre l ms := by
    intro l
    induction l with
    | nil => exact fun _ => ⟨[], .nil⟩
    | cons v r ih =>
      intro hv
      obtain ⟨n, t, rfl⟩ := hv v List.mem_cons_self
      obtain ⟨ms, hms⟩ := ih fun u hu => hv u (List.mem_cons_of_mem _ hu)
      exact ⟨n :: ms, .cons n t hms⟩
  obtain ⟨ms, hms⟩ := hints _ hall
  refine h _ _ ms _ hms ?_ ((F.push _).push _) (by simpa using N1) fun p hp => ?_
  · have := slicePick_size_le vs.toArray lo hi st
    simpa using this
  · rw [Heap.size_push]
    exact Nat.lt_succ_of_lt (Heap.lt_size (N p hp).1)
end
theorem news3 {h₀ h : Heap} {L : Addr} {news : List (Addr × Obj)} {a b c : Addr × Obj} (N : News h₀ L h news) (ha : a ∈ news) (hb : b ∈ news) (hc : c ∈ news) : News h₀ L h [a, b, c] := fun p hp => by
  simp only [List.mem_cons, List.not_mem_nil, or_false] at hp
  rcases hp with rfl | rfl | rfl
  · exact N _ ha
  · exact N _ hb
  · exact N _ hc
def txtPs : Option (Str × Nat) → List (Str × Value)
  | none => []
  | some p => [(Str.ofString "text", .str p.1 p.2)]
theorem map_txt (b : Str → Option Value) (c : Option (Str × Nat)) (x : Str) (v : Value) :
    (fun y => if y = x then some v else kstB b (txtPs c) y) = fun y => if y = Str.ofString "text" then (if Str.ofString "text" = x then some v else kstB b (txtPs c) (Str.ofString "text")) else if y = x then some v else b y := by
  funext y
  by_cases h : y = Str.ofString "text"
  · subst h
    rw [if_pos rfl]
  · rw [if_neg h]
    by_cases h2 : y = x
    · rw [if_pos h2, if_pos h2]
    · rw [if_neg h2, if_neg h2]
      cases c with
      | none => rfl
      | some p => simp [txtPs, kstB, h]
theorem map_txtU (b u : Str → Option Value) (c : Option (Str × Nat)) (x : Str) :
    (fun y => if y = x then u y else kstB b (txtPs c) y) = fun y => if y = Str.ofString "text" then (if Str.ofString "text" = x then u (Str.ofString "text") else kstB b (txtPs c) (Str.ofString "text")) else if y = x then u y else b y := by
  funext y
  by_cases h : y = Str.ofString "text"
  · subst h
    rw [if_pos rfl]
  · rw [if_neg h]
    by_cases h2 : y = x
    · rw [if_pos h2, if_pos h2]
    · rw [if_neg h2, if_neg h2]
      cases c with
      | none => rfl
      | some p => simp [txtPs, kstB, h]
theorem fr_txt {h₀ h : Heap} {L : Addr} {b : Str → Option Value} {c : Option (Str × Nat)} {x : Str} {v : Value} (F : Fr h₀ L h (fun y => if y = x then some v else kstB b (txtPs c) y)) :
    ∃ T0, Fr h₀ L h (fun y => if y = Str.ofString "text" then T0 else if y = x then some v else b y) := by
  rw [map_txt] at F
  exact ⟨_, F⟩
theorem ints_app : ∀ {vs us : List Value} {ns ms : List Int}, IntsAre vs ns → IntsAre us ms → IntsAre (vs ++ us) (ns ++ ms)
  | _, _, _, _, .nil, h => h
  | _, _, _, _, .cons n t r, h => .cons n t (ints_app r h)
theorem paired_ints {vs ys : List Value} (h : Paired (fun _ y => ∃ (n : Int) (t : Tok), y = Value.int n t) vs ys) : ∃ ms, IntsAre ys ms := by
  induction h with
  | nil => exact ⟨[], .nil⟩
  | cons hy _ ih =>
    obtain ⟨n, t, rfl⟩ := hy
    obtain ⟨ms, hms⟩ := ih
    exact ⟨n :: ms, .cons n t hms⟩
theorem paired_strs {f : Str → Str} {vs ys : List Value} {ss : List Str} (h : StrsAre vs ss) : Paired (fun v y => ∀ (x : Str) (t : Tok), v = Value.str x t → ∃ t', y = Value.str (f x) t') vs ys → StrsAre ys (ss.map f) := by
  induction h generalizing ys with
  | nil => intro hp; cases hp; exact .nil
  | cons x t r ih =>
    intro hp
    cases hp with
    | cons h hp =>
      obtain ⟨t', rfl⟩ := h x t rfl
      exact .cons _ _ (ih hp)
theorem upd_ne {m : Str → Option Value} {x k : Str} {a : Option Value} {v : Value} (h : x ≠ k) (hm : m x = some v) : (fun y => if y = k then a else m y) x = some v := by
  show (if x = k then a else m x) = some v
  rw [if_neg h]
  exact hm
end Mine
end
section
open PySem PySem.W PyProof.Rows PySem.Builtin PySem.Builtin.Str
namespace Mine
/-! texts as lists of numbers -/
abbrev S (l : List Nat) : Str := ⟨l.toArray⟩
abbrev cs (x : Str) : List Nat := x.cps.toList
theorem S_cs (x : Str) : S (cs x) = x := by obtain ⟨⟨l⟩⟩ := x; rfl
theorem cs_S (l : List Nat) : cs (S l) = l := rfl
theorem S_inj {a b : List Nat} (h : S a = S b) : a = b := by have := congrArg cs h; simpa using this
theorem S_len (l : List Nat) : (S l).length = l.length := by simp [Str.length]
theorem len_cs (x : Str) : x.length = (cs x).length := by simp [Str.length]
theorem S_app (a b : List Nat) : S a ++ S b = S (a ++ b) := Str.ext' (by rw [Str.cps_append]; simp)
theorem cs_app (a b : Str) : cs (a ++ b) = cs a ++ cs b := by show (a ++ b).cps.toList = _; rw [Str.cps_append]; simp
theorem S_beq (a b : List Nat) : (S a == S b) = (a == b) := by
  rw [Bool.eq_iff_iff, beq_iff_eq, beq_iff_eq]
  exact ⟨S_inj, fun h => by rw [h]⟩
theorem slice_to (l : List Nat) (n : Nat) : Txt.slice (S l) none (some (n : Int)) = S (l.take n) := by
  by_cases h : n ≤ l.length
  · exact (StrLaws.sliceText_to (x := S l) ⟨by omega, by simpa using h⟩).trans (by simp)
  · have e : strSliceIndices none (some (n : Int)) 1 (S l).length = strSliceIndices none (some (l.length : Int)) 1 (S l).length := by
      have a : ¬ ((n : Int) < 0) := by omega
      have b : ¬ ((l.length : Int) < 0) := by omega
      have c : min (n : Int) (l.length : Int) = l.length := by omega
      simp only [strSliceIndices, S_len, a, b, if_false, c, Int.min_self, show (1 : Int) > 0 from by decide, if_true]
    have e2 : Txt.slice (S l) none (some (n : Int)) = Txt.slice (S l) none (some (l.length : Int)) := by unfold Txt.slice; rw [e]
    rw [e2]
    refine (StrLaws.sliceText_to (x := S l) ⟨by omega, by simp⟩).trans ?_
    simp [List.take_of_length_le (Nat.le_of_lt (Nat.lt_of_not_le h))]
theorem slice_from (l : List Nat) (n : Nat) (h : n ≤ l.length) : Txt.slice (S l) (some (n : Int)) none = S (l.drop n) := by
  refine (StrLaws.sliceText_from (x := S l) ⟨by omega, by simpa using h⟩).trans ?_
  simp only [Int.toNat_natCast]
  rw [List.take_of_length_le (by simp)]
theorem slice_both (l : List Nat) (a b : Nat) (hab : a ≤ b) (h : b ≤ l.length) : Txt.slice (S l) (some (a : Int)) (some (b : Int)) = S ((l.drop a).take (b - a)) :=
  StrLaws.sliceText_nat (S l) hab (by simpa [Str.length] using h)
theorem slice_negto (l : List Nat) (n : Nat) (h0 : 0 < n) (h : n ≤ l.length) (lo : Option Int) : Txt.slice (S l) lo (some (-(n : Int))) = Txt.slice (S l) lo (some ((l.length - n : Nat) : Int)) := by
  have e := StrLaws.sliceIdx_neg_hi lo (j := -(n : Int)) (S l).length (by omega) (by rw [S_len]; omega)
  have e1 : -(n : Int) + ((S l).length : Int) = ((l.length - n : Nat) : Int) := by rw [S_len]; omega
  rw [e1] at e
  unfold Txt.slice
  rw [e]
theorem slice_negfrom (l : List Nat) (n : Nat) (h0 : 0 < n) (h : n ≤ l.length) (hi : Option Int) : Txt.slice (S l) (some (-(n : Int))) hi = Txt.slice (S l) (some ((l.length - n : Nat) : Int)) hi := by
  have e := StrLaws.sliceIdx_neg_lo hi (i := -(n : Int)) (S l).length (by omega) (by rw [S_len]; omega)
  have e1 : -(n : Int) + ((S l).length : Int) = ((l.length - n : Nat) : Int) := by rw [S_len]; omega
  rw [e1] at e
  unfold Txt.slice
  rw [e]
/-- all but the last -/
theorem slice_init (l : List Nat) (c : Nat) : Txt.slice (S (l ++ [c])) none (some (-1)) = S l := by
  refine (slice_negto (l ++ [c]) 1 (by decide) (by simp) none).trans ?_
  rw [slice_to]
  simp
theorem slice_last (l : List Nat) (c : Nat) : Txt.slice (S (l ++ [c])) (some (-1)) none = S [c] := by
  refine (slice_negfrom (l ++ [c]) 1 (by decide) (by simp) none).trans ?_
  rw [slice_from _ _ (by simp)]
  simp
theorem slice_last3 (l t : List Nat) (ht : t.length = 3) : Txt.slice (S (l ++ t)) (some (-3)) none = S t := by
  refine (slice_negfrom (l ++ t) 3 (by decide) (by simp; omega) none).trans ?_
  rw [slice_from _ _ (by simp)]
  simp [ht]
theorem slice_mid (a l t : List Nat) (ha : a.length = 4) (ht : t.length = 3) : Txt.slice (S (a ++ l ++ t)) (some 4) (some (-3)) = S l := by
  refine (slice_negto (a ++ l ++ t) 3 (by decide) (by simp; omega) (some 4)).trans ?_
  have e : (a ++ l ++ t).length - 3 = 4 + l.length := by simp; omega
  rw [e]
  refine (slice_both _ 4 (4 + l.length) (by omega) (by simp; omega)).trans ?_
  rw [List.append_assoc, ← ha, List.drop_left]
  simp
/-! occurrences -/
theorem at_iff (x y : List Nat) (i : Nat) (hy : y ≠ []) : StrLaws.At (S x) (S y) (S x).length i ↔ y <+: x.drop i := by
  unfold StrLaws.At
  rw [StrLaws.subAt_eq, S_len, S_len]
  have e1 : (S y).length = y.length := S_len y
  simp only [beq_iff_eq]
  constructor
  · rintro ⟨_, h⟩
    rw [List.prefix_iff_eq_take]
    exact h.symm
  · intro h
    refine ⟨?_, (List.prefix_iff_eq_take.mp h).symm⟩
    have h1 := h.length_le
    rw [List.length_drop] at h1
    have : 0 < y.length := List.length_pos_iff.mpr hy
    omega
theorem find3_spec (x y : List Nat) (n : Nat) (hy : y ≠ []) :
    (Txt.find3 (S x) (S y) (n : Int) = -1 ∧ ∀ i, n ≤ i → ¬ y <+: x.drop i) ∨ ∃ i : Nat, Txt.find3 (S x) (S y) (n : Int) = (i : Int) ∧ n ≤ i ∧ y <+: x.drop i ∧ ∀ k, n ≤ k → k < i → ¬ y <+: x.drop k := by
  have hf : fromIndex (S x).length (n : Int) = n := by
    unfold fromIndex
    have : ¬ ((n : Int) < 0) := by omega
    simp only [this, if_false]
    omega
  unfold Txt.find3
  rw [hf]
  rcases StrLaws.occ_head_from (S x) (S y) n 1 (by decide) with ⟨h, g⟩ | ⟨i, r, h, h1, h2, g⟩
  · rw [h]
    exact .inl ⟨rfl, fun i hi q => g i hi ((at_iff x y i hy).mpr q)⟩
  · rw [h]
    exact .inr ⟨i, rfl, h1, (at_iff x y i hy).mp h2, fun k hk hki q => g k hk hki ((at_iff x y k hy).mpr q)⟩
end Mine
end
section
open PySem PySem.W PyProof.Rows PySem.Builtin PySem.Builtin.Str PySem.StrLaws
namespace Mine
/-- the places of y in a rest that begins at i; k signs are to be skipped -/
def occL (y : List Nat) : List Nat → Nat → Nat → List Nat
  | [], _, _ => []
  | c :: r, i, 0 => if y.isPrefixOf (c :: r) then i :: occL y r (i + 1) (y.length - 1) else occL y r (i + 1) 0
  | _ :: r, i, k + 1 => occL y r (i + 1) k
/-- a text cut at y -/
def splL (y : List Nat) : List Nat → Nat → List Nat → List (List Nat)
  | [], _, cur => [cur]
  | c :: r, 0, cur => if y.isPrefixOf (c :: r) then cur :: splL y r (y.length - 1) [] else splL y r 0 (cur ++ [c])
  | _ :: r, k + 1, cur => splL y r k cur
theorem occ_run (X y : List Nat) (hy : y ≠ []) : ∀ (rest : List Nat) (i f : Nat) (acc : Array Nat), X.drop i = rest → i + rest.length = X.length → acc.size ≤ i →
    (forIn (List.range' i (X.length + 1 - i)) (acc, f) (occBody (S X) (S y) (S X).length ((S X).length + 1))).run.fst.toList = acc.toList ++ occL y rest i (f - i) := by
  have hyl : 0 < y.length := List.length_pos_iff.mpr hy
  intro rest
  induction rest with
  | nil =>
    intro i f acc hd hl ha
    have hi : i = X.length := by simpa using hl
    subst hi
    rw [show X.length + 1 - X.length = 1 by omega, List.range'_one, List.forIn_cons]
    unfold occBody
    rw [if_neg (by rw [S_len, S_len]; rintro ⟨⟨_, h⟩, _⟩; omega)]
    simp [occL]
  | cons c r ih =>
    intro i f acc hd hl ha
    have hil : i < X.length := by rw [List.length_cons] at hl; omega
    have hd' : X.drop (i + 1) = r := by rw [← List.tail_drop, hd]; rfl
    rw [show X.length + 1 - i = (X.length + 1 - (i + 1)) + 1 by omega, List.range'_succ, List.forIn_cons]
    have hpre : (i + (S y).length ≤ (S X).length ∧ subAt (S X) (S y) i = true) ↔ y.isPrefixOf (c :: r) = true := by
      have := at_iff X y i hy
      unfold At at this
      rw [this, hd, List.isPrefixOf_iff_prefix]
    rcases Nat.lt_or_ge i f with hf | hf
    · have e : occBody (S X) (S y) (S X).length ((S X).length + 1) i (acc, f) = pure (ForInStep.yield (acc, f)) := by
        unfold occBody
        rw [if_neg (fun h => by have := h.1.1.2; dsimp only at this; omega)]
      rw [e]
      refine (ih (i + 1) f acc hd' (by rw [List.length_cons] at hl; omega) (by omega)).trans ?_
      rw [show f - i = (f - (i + 1)) + 1 by omega, occL]
    · rw [show f - i = 0 by omega]
      by_cases hp : y.isPrefixOf (c :: r) = true
      · have e : occBody (S X) (S y) (S X).length ((S X).length + 1) i (acc, f) = pure (ForInStep.yield (acc.push i, i + y.length)) := by
          unfold occBody
          rw [if_pos ⟨⟨⟨by rw [S_len]; dsimp only; omega, hf⟩, (hpre.mpr hp).1⟩, (hpre.mpr hp).2⟩, S_len]
        rw [e]
        refine (ih (i + 1) (i + y.length) (acc.push i) hd' (by rw [List.length_cons] at hl; omega) (by rw [Array.size_push]; omega)).trans ?_
        rw [occL, if_pos hp, show i + y.length - (i + 1) = y.length - 1 by omega]
        simp
      · have e : occBody (S X) (S y) (S X).length ((S X).length + 1) i (acc, f) = pure (ForInStep.yield (acc, f)) := by
          unfold occBody
          rw [if_neg (fun h => hp (hpre.mp ⟨h.1.2, h.2⟩))]
        rw [e]
        refine (ih (i + 1) f acc hd' (by rw [List.length_cons] at hl; omega) (by omega)).trans ?_
        rw [occL, if_neg hp, show f - (i + 1) = 0 by omega]
theorem occ_all (X y : List Nat) (hy : y ≠ []) : occurrences (S X) (S y) 0 (S X).length ((S X).length + 1) = occL y X 0 0 := by
  rw [occ_eq, S_len]
  have := occ_run X y hy X 0 0 #[] rfl (by simp) (by simp)
  rw [S_len] at this
  simpa using this
theorem parts_run (X y : List Nat) (hy : y ≠ []) : ∀ (rest : List Nat) (i a : Nat), X.drop i = rest → i + rest.length = X.length →
    partsFrom (S X) y.length a (occL y rest i (a - i)) = (splL y rest (a - i) ((X.drop a).take (i - a))).map S := by
  have hyl : 0 < y.length := List.length_pos_iff.mpr hy
  have hsub : ∀ a b, strSub (S X) a b = S ((X.drop a).take (b - a)) := fun a b => by
    have := strSub_toList (S X) a b
    rw [← S_cs (strSub (S X) a b)]
    exact congrArg S this
  intro rest
  induction rest with
  | nil =>
    intro i a hd hl
    have hi : i = X.length := by simpa using hl
    subst hi
    simp only [occL, partsFrom, splL, List.map_cons, List.map_nil, hsub, S_len]
  | cons c r ih =>
    intro i a hd hl
    have hl' : i + 1 + r.length = X.length := by rw [List.length_cons] at hl; omega
    have hd' : X.drop (i + 1) = r := by rw [← List.tail_drop, hd]; rfl
    rcases Nat.lt_or_ge i a with ha | ha
    · rw [show a - i = (a - (i + 1)) + 1 by omega, occL, splL, ih (i + 1) a hd' hl']
      rw [show i - a = 0 by omega, show i + 1 - a = 0 by omega]
    · rw [show a - i = 0 by omega, occL, splL]
      by_cases hp : y.isPrefixOf (c :: r) = true
      · rw [if_pos hp, if_pos hp, partsFrom, List.map_cons, hsub]
        have h1 := ih (i + 1) (i + y.length) hd' hl'
        rw [show i + y.length - (i + 1) = y.length - 1 by omega, show i + 1 - (i + y.length) = 0 by omega, List.take_zero] at h1
        rw [h1]
      · rw [if_neg hp, if_neg hp]
        have h1 := ih (i + 1) a hd' hl'
        rw [show a - (i + 1) = 0 by omega] at h1
        rw [h1, show i + 1 - a = (i - a) + 1 by omega, List.take_add_one, List.getElem?_drop, show a + (i - a) = i by omega]
        have hc : X[i]? = some c := by
          have : (X.drop i)[0]? = some c := by rw [hd]; rfl
          simpa using this
        rw [hc]
        rfl
theorem split_splL (X y : List Nat) (hy : y ≠ []) (hk : PySem.Builtin.Str.strKind (S y) = 1) : Txt.split (S X) (S y) = (splL y X 0 []).map S := by
  have h0 := parts_run X y hy X 0 0 rfl (by simp)
  rw [Nat.sub_zero, List.take_zero] at h0
  have hs1 : 1 ≤ PySem.Builtin.Str.strKind (S X) := by unfold PySem.Builtin.Str.strKind; split <;> (try split) <;> decide
  unfold Txt.split
  rw [occ_all X y hy, S_len, S_len, partsBetween_eq, h0]
  by_cases hlt : X.length < y.length
  · have hn : ∀ (rest : List Nat) (cur : List Nat), rest.length < y.length → splL y rest 0 cur = [cur ++ rest] := by
      intro rest
      induction rest with
      | nil => intro cur _; simp [splL]
      | cons c r ih =>
        intro cur hr
        rw [splL, if_neg (by rw [List.isPrefixOf_iff_prefix]; intro h; have := h.length_le; omega), ih _ (by rw [List.length_cons] at hr; omega)]
        simp
    rw [if_pos (by simp [hlt]), hn X [] hlt]
    simp
  · rw [if_neg (by rw [hk]; simp; omega)]
    cases ho : occL y X 0 0 with
    | nil =>
      rw [ho] at h0
      rw [← h0]
      simp only [partsFrom, List.isEmpty_nil, if_true]
      congr 1
      rw [← S_cs (strSub (S X) 0 (S X).length)]
      refine (congrArg S ?_).symm
      refine (strSub_toList (S X) 0 (S X).length).trans ?_
      rw [S_len]
      simp
    | cons a b => simp
theorem splL_free (c0 : Nat) (y' : List Nat) : ∀ (p rest cur : List Nat), c0 ∉ p → splL (c0 :: y') (p ++ rest) 0 cur = splL (c0 :: y') rest 0 (cur ++ p)
  | [], rest, cur, _ => by simp
  | c :: p, rest, cur, h => by
    rw [List.cons_append, splL, if_neg (by
      rw [List.isPrefixOf_iff_prefix]
      intro hp
      obtain ⟨t, ht⟩ := hp
      have : c0 = c := by simpa using congrArg List.head? ht
      exact h (by rw [this]; exact List.mem_cons_self))]
    rw [splL_free c0 y' p rest _ (fun hm => h (List.mem_cons_of_mem _ hm))]
    simp
theorem splL_skip (y : List Nat) : ∀ (t rest cur : List Nat), splL y (t ++ rest) t.length cur = splL y rest 0 cur
  | [], rest, cur => by simp
  | c :: t, rest, cur => by rw [List.cons_append, List.length_cons, splL, splL_skip y t]
theorem splL_sep (c0 : Nat) (y' rest cur : List Nat) : splL (c0 :: y') (c0 :: y' ++ rest) 0 cur = cur :: splL (c0 :: y') rest 0 [] := by
  rw [List.cons_append, splL, if_pos (by rw [List.isPrefixOf_iff_prefix]; exact ⟨rest, by simp⟩)]
  rw [show (c0 :: y').length - 1 = y'.length by simp, splL_skip]
theorem splL_one (c0 : Nat) (y' p cur : List Nat) (h : c0 ∉ p) : splL (c0 :: y') p 0 cur = [cur ++ p] := by
  have := splL_free c0 y' p [] cur h
  rw [List.append_nil] at this
  rw [this, splL]
end Mine
end
section
open PySem PySem.W PyProof.Rows PySem.Builtin PySem.Builtin.Str PySem.StrLaws
namespace Mine
def wl : List Nat → Nat → Option Nat → List (Nat × Nat)
  | [], i, some b => [(b, i)]
  | [], _, none => []
  | c :: r, i, some b => if Unicode.isSpace c then (b, i) :: wl r (i + 1) none else wl r (i + 1) (some b)
  | c :: r, i, none => if Unicode.isSpace c then wl r (i + 1) none else wl r (i + 1) (some i)
def wL : List Nat → Option (List Nat) → List (List Nat)
  | [], some cur => [cur]
  | [], none => []
  | c :: r, some cur => if Unicode.isSpace c then cur :: wL r none else wL r (some (cur ++ [c]))
  | c :: r, none => if Unicode.isSpace c then wL r none else wL r (some [c])
theorem sw_run' (X : List Nat) : ∀ (rest : List Nat) (i : Nat) (acc : Array (Nat × Nat)) (st : Option Nat), X.drop i = rest → i + rest.length = X.length → acc.size ≤ i →
    swEnd (S X) (forIn (List.range' i (X.length - i)) ((none, acc, st) : SwSt) (swBody (S X) ((S X).length + 1))).run = acc.toList ++ wl rest i st := by
  intro rest
  induction rest with
  | nil =>
    intro i acc st hd hl ha
    have hi : i = X.length := by simpa using hl
    subst hi
    rw [Nat.sub_self, List.range'_zero, List.forIn_nil]
    cases st with
    | none => simp [swEnd, wl]
    | some b => simp [swEnd, wl, S_len]
  | cons c r ih =>
    intro i acc st hd hl ha
    have hil : i < X.length := by rw [List.length_cons] at hl; omega
    have hl' : i + 1 + r.length = X.length := by rw [List.length_cons] at hl; omega
    have hd' : X.drop (i + 1) = r := by rw [← List.tail_drop, hd]; rfl
    have hc : X[i]? = some c := by
      have : (X.drop i)[0]? = some c := by rw [hd]; rfl
      simpa using this
    have hg : (S X).cps.getD i 0 = c := getD_of_getElem? (x := S X) hc
    rw [show X.length - i = (X.length - (i + 1)) + 1 by omega, List.range'_succ, List.forIn_cons]
    have hsz : (acc.size == (S X).length + 1) = false := by rw [S_len]; simp; omega
    cases st with
    | none =>
      cases hs : Unicode.isSpace c with
      | true =>
        have e : swBody (S X) ((S X).length + 1) i (none, acc, none) = pure (ForInStep.yield (none, acc, none)) := by
          unfold swBody
          rw [if_neg (by simp only [hsz]; decide)]
          simp only [hg, hs]
        rw [e]
        refine (ih (i + 1) acc none hd' hl' (by omega)).trans ?_
        rw [wl, hs, if_pos rfl]
      | false =>
        have e : swBody (S X) ((S X).length + 1) i (none, acc, none) = pure (ForInStep.yield (none, acc, some i)) := by
          unfold swBody
          rw [if_neg (by simp only [hsz]; decide)]
          simp only [hg, hs]
        rw [e]
        refine (ih (i + 1) acc (some i) hd' hl' (by omega)).trans ?_
        rw [wl, hs, if_neg (by decide)]
    | some b =>
      cases hs : Unicode.isSpace c with
      | true =>
        have e : swBody (S X) ((S X).length + 1) i (none, acc, some b) = pure (ForInStep.yield (none, acc.push (b, i), none)) := by
          unfold swBody
          rw [if_neg (by simp only [hsz]; decide)]
          simp only [hg, hs]
        rw [e]
        refine (ih (i + 1) (acc.push (b, i)) none hd' hl' (by rw [Array.size_push]; omega)).trans ?_
        rw [wl, hs, if_pos rfl]
        simp
      | false =>
        have e : swBody (S X) ((S X).length + 1) i (none, acc, some b) = pure (ForInStep.yield (none, acc, some b)) := by
          unfold swBody
          rw [if_neg (by simp only [hsz]; decide)]
          simp only [hg, hs]
        rw [e]
        refine (ih (i + 1) acc (some b) hd' hl' (by omega)).trans ?_
        rw [wl, hs, if_neg (by decide)]
theorem wl_wL (X : List Nat) : ∀ (rest : List Nat) (i : Nat), X.drop i = rest → i + rest.length = X.length →
    ((wl rest i none).map fun (p : Nat × Nat) => strSub (S X) p.1 p.2) = (wL rest none).map S ∧
    ∀ b, b ≤ i → ((wl rest i (some b)).map fun (p : Nat × Nat) => strSub (S X) p.1 p.2) = (wL rest (some ((X.drop b).take (i - b)))).map S := by
  have hsub : ∀ a b, strSub (S X) a b = S ((X.drop a).take (b - a)) := fun a b => by
    have := strSub_toList (S X) a b
    rw [← S_cs (strSub (S X) a b)]
    exact congrArg S this
  intro rest
  induction rest with
  | nil =>
    intro i hd hl
    refine ⟨rfl, fun b hb => ?_⟩
    simp only [wl, wL, List.map_cons, List.map_nil, hsub]
  | cons c r ih =>
    intro i hd hl
    have hl' : i + 1 + r.length = X.length := by rw [List.length_cons] at hl; omega
    have hd' : X.drop (i + 1) = r := by rw [← List.tail_drop, hd]; rfl
    have hc : X[i]? = some c := by
      have : (X.drop i)[0]? = some c := by rw [hd]; rfl
      simpa using this
    obtain ⟨ih1, ih2⟩ := ih (i + 1) hd' hl'
    have tk : ∀ b, b ≤ i → (X.drop b).take (i + 1 - b) = (X.drop b).take (i - b) ++ [c] := fun b hb => by
      rw [show i + 1 - b = (i - b) + 1 by omega, List.take_add_one, List.getElem?_drop, show b + (i - b) = i by omega, hc]
      rfl
    constructor
    · rw [wl, wL]
      cases hs : Unicode.isSpace c with
      | true => rw [if_pos rfl, if_pos rfl, ih1]
      | false =>
        rw [if_neg (by decide), if_neg (by decide), ih2 i (by omega), tk i (Nat.le_refl _), Nat.sub_self, List.take_zero]
        rfl
    · intro b hb
      rw [wl, wL]
      cases hs : Unicode.isSpace c with
      | true => rw [if_pos rfl, if_pos rfl, List.map_cons, List.map_cons, ih1, hsub]
      | false => rw [if_neg (by decide), if_neg (by decide), ih2 b (by omega), tk b hb]
theorem words_wL (X : List Nat) : Txt.words (S X) = (wL X none).map S := by
  have h1 : spaceWords (S X) ((S X).length + 1) = wl X 0 none := by
    rw [sw_eq]
    have := sw_run' X X 0 #[] none rfl (by simp) (by simp)
    rw [S_len] at this ⊢
    simpa using this
  have h2 := (wl_wL X X 0 rfl (by simp)).1
  have h3 : PySem.wordsOf (S X) = (wL X none).map S := by unfold PySem.wordsOf; rw [h1]; exact h2
  unfold Txt.words
  split
  · rename_i h
    rw [beq_iff_eq] at h
    rw [← h3]
    unfold PySem.wordsOf
    rw [h]
    simp only [List.map_cons, List.map_nil]
    rw [sub_whole]
  · exact h3
theorem wL_spaces : ∀ (sp rest : List Nat), (∀ c ∈ sp, Unicode.isSpace c = true) → wL (sp ++ rest) none = wL rest none
  | [], _, _ => rfl
  | c :: sp, rest, h => by
    rw [List.cons_append, wL, if_pos (h c List.mem_cons_self), wL_spaces sp rest fun d hd => h d (List.mem_cons_of_mem _ hd)]
theorem wL_word : ∀ (p rest cur : List Nat), (∀ c ∈ p, Unicode.isSpace c = false) → wL (p ++ rest) (some cur) = wL rest (some (cur ++ p))
  | [], rest, cur, _ => by simp
  | c :: p, rest, cur, h => by
    rw [List.cons_append, wL, if_neg (by rw [h c List.mem_cons_self]; decide), wL_word p rest _ fun d hd => h d (List.mem_cons_of_mem _ hd)]
    simp
theorem wL_begin {p rest : List Nat} (hne : p ≠ []) (h : ∀ c ∈ p, Unicode.isSpace c = false) : wL (p ++ rest) none = wL rest (some p) := by
  cases p with
  | nil => exact absurd rfl hne
  | cons c p =>
    rw [List.cons_append, wL, if_neg (by rw [h c List.mem_cons_self]; decide), wL_word p rest _ fun d hd => h d (List.mem_cons_of_mem _ hd)]
    rfl
/-- a white run ends a word -/
theorem wL_end {sp rest cur : List Nat} (hne : sp ≠ []) (h : ∀ c ∈ sp, Unicode.isSpace c = true) : wL (sp ++ rest) (some cur) = cur :: wL rest none := by
  cases sp with
  | nil => exact absurd rfl hne
  | cons c sp => rw [List.cons_append, wL, if_pos (h c List.mem_cons_self), wL_spaces sp rest fun d hd => h d (List.mem_cons_of_mem _ hd)]
/-- blocks: a white run and a word each -/
def flat (bs : List (List Nat × List Nat)) : List Nat := bs.flatMap fun b => b.1 ++ b.2
theorem wL_blocks : ∀ (bs : List (List Nat × List Nat)), (∀ b ∈ bs, b.1 ≠ [] ∧ (∀ c ∈ b.1, Unicode.isSpace c = true) ∧ b.2 ≠ [] ∧ ∀ c ∈ b.2, Unicode.isSpace c = false) →
    wL (flat bs) none = bs.map (·.2) ∧ ∀ cur, wL (flat bs) (some cur) = cur :: bs.map (·.2)
  | [], _ => ⟨rfl, fun _ => rfl⟩
  | b :: bs, h => by
    obtain ⟨h1, h2, h3, h4⟩ := h b List.mem_cons_self
    obtain ⟨ih1, ih2⟩ := wL_blocks bs fun b hb => h b (List.mem_cons_of_mem _ hb)
    have e : flat (b :: bs) = b.1 ++ (b.2 ++ flat bs) := by simp [flat]
    constructor
    · rw [e, wL_spaces _ _ h2, wL_begin h3 h4, ih2]
      rfl
    · intro cur
      rw [e, wL_end h1 h2, wL_begin h3 h4, ih2]
      rfl
theorem words_flat {bs : List (List Nat × List Nat)} (h : ∀ b ∈ bs, b.1 ≠ [] ∧ (∀ c ∈ b.1, Unicode.isSpace c = true) ∧ b.2 ≠ [] ∧ ∀ c ∈ b.2, Unicode.isSpace c = false) : Txt.words (S (flat bs)) = bs.map fun b => S b.2 := by
  rw [words_wL, (wL_blocks bs h).1, List.map_map]
  rfl
end Mine
end
section
open PySem PySem.W PyProof.Rows PySem.Builtin PySem.Builtin.Str PySem.StrLaws
namespace Mine
def upA (c : Nat) : Nat := if 97 ≤ c ∧ c ≤ 122 then c - 32 else c
def loA (c : Nat) : Nat := if 65 ≤ c ∧ c ≤ 90 then c + 32 else c
theorem title_ascii : ∀ c, c < 128 → Unicode.titleOf c = [upA c] := by decide +kernel
theorem lower_ascii : ∀ c, c < 128 → Unicode.lowerOf c = [loA c] := by decide +kernel
def capL : List Nat → List Nat
  | [] => []
  | c :: r => upA c :: r.map loA
theorem placed_list (x : Str) (f : Nat → Nat → List Nat) : cs ⟨placed x f⟩ = ((cs x).mapIdx f).flatten := by
  obtain ⟨⟨X⟩⟩ := x
  unfold placed
  simp only [cs]
  rw [Array.toList_flatten]
  simp [List.mapIdx_eq_zipIdx_map, Function.comp_def]
theorem flat_single (f : Nat → Nat) : ∀ r : List Nat, (r.map fun d => [f d]).flatten = r.map f
  | [] => rfl
  | c :: r => by rw [List.map_cons, List.flatten_cons, flat_single f r]; rfl
theorem capitalize_ascii (X : List Nat) (h : ∀ c ∈ X, c < 128) : Txt.capitalize (S X) = S (capL X) := by
  cases X with
  | nil => rfl
  | cons c r =>
    unfold Txt.capitalize
    rw [if_neg (by rw [S_len]; simp)]
    rw [← S_cs (Txt.capitalized _)]
    refine congrArg S ?_
    unfold Txt.capitalized
    rw [placed_list]
    show ((c :: r).mapIdx _).flatten = _
    rw [List.mapIdx_cons]
    have e : (r.mapIdx fun i d => if ((i + 1) == 0) = true then Unicode.titleOf d else Unicode.lowerAt (S (c :: r)).cps (i + 1)) = r.map fun d => [loA d] := by
      refine List.ext_getElem? fun i => ?_
      rw [List.getElem?_mapIdx, List.getElem?_map]
      cases hi : r[i]? with
      | none => rfl
      | some d =>
        have hd : d < 128 := h d (List.mem_cons_of_mem _ (List.mem_of_getElem? hi))
        simp only [Option.map_some]
        rw [if_neg (by simp)]
        unfold Unicode.lowerAt
        have : (S (c :: r)).cps[i + 1]? = some d := by simpa using hi
        rw [this]
        dsimp only
        rw [if_neg (by simp; omega), lower_ascii d hd]
    rw [e]
    simp only [beq_self_eq_true, if_true]
    rw [title_ascii c (h c List.mem_cons_self)]
    rw [List.flatten_cons, flat_single]
    rfl
/-! letters -/
def AB (c : Nat) : Prop := c = 65 ∨ c = 66 ∨ c = 97 ∨ c = 98
theorem AB.lo {c : Nat} (h : AB c) : loA c = 97 ∨ loA c = 98 := by rcases h with rfl | rfl | rfl | rfl <;> decide
theorem AB.lolo {c : Nat} (h : AB c) : loA (loA c) = loA c := by rcases h with rfl | rfl | rfl | rfl <;> decide
theorem AB.uplo {c : Nat} (h : AB c) : upA (loA c) = upA c := by rcases h with rfl | rfl | rfl | rfl <;> decide
theorem AB.up {c : Nat} (h : AB c) : upA c = 65 ∨ upA c = 66 := by rcases h with rfl | rfl | rfl | rfl <;> decide
theorem AB.lt {c : Nat} (h : AB c) : c < 128 := by rcases h with rfl | rfl | rfl | rfl <;> decide
theorem AB.nospace {c : Nat} (h : AB c) : Unicode.isSpace c = false := by rcases h with rfl | rfl | rfl | rfl <;> decide +kernel
theorem AB.lolo_ab {c : Nat} (h : AB c) : AB (loA c) := by rcases h with rfl | rfl | rfl | rfl <;> simp [AB, loA]
def lows (m : List Nat) : List Nat := m.map loA
theorem lows_lows {m : List Nat} (h : ∀ c ∈ m, AB c) : lows (lows m) = lows m := by
  unfold lows
  rw [List.map_map]
  exact List.map_congr_left fun c hc => (h c hc).lolo
theorem capL_lows {m : List Nat} (h : ∀ c ∈ m, AB c) : capL (lows m) = capL m := by
  cases m with
  | nil => rfl
  | cons c r =>
    show upA (loA c) :: (r.map loA).map loA = upA c :: r.map loA
    rw [(h c List.mem_cons_self).uplo]
    congr 1
    exact lows_lows fun d hd => h d (List.mem_cons_of_mem _ hd)
/-! blocks that the law builds -/
def Good (b : List Nat × List Nat) : Prop := b.1 ≠ [] ∧ (∀ c ∈ b.1, Unicode.isSpace c = true) ∧ b.2 ≠ [] ∧ ∀ c ∈ b.2, AB c
def wordsB (bs : List (List Nat × List Nat)) : List Str := bs.map fun b => S (lows b.2)
theorem Good.words {bs : List (List Nat × List Nat)} (h : ∀ b ∈ bs, Good b) : Txt.words (S (flat bs)) = bs.map fun b => S b.2 :=
  words_flat fun b hb => ⟨(h b hb).1, (h b hb).2.1, (h b hb).2.2.1, fun c hc => ((h b hb).2.2.2 c hc).nospace⟩
theorem letters (x : Int) : ∃ d, (d = 97 ∨ d = 98) ∧ smallOf x = S [d] ∧ greatOf x = S [d - 32] := by
  have h : (x.fdiv 8).fmod 2 = 0 ∨ (x.fdiv 8).fmod 2 = 1 := by
    have := Int.fmod_nonneg_of_pos (x.fdiv 8) (b := 2) (by decide)
    have := Int.fmod_lt_of_pos (x.fdiv 8) (b := 2) (by decide)
    omega
  unfold smallOf greatOf
  rcases h with h | h <;> rw [h]
  · exact ⟨97, .inl rfl, by decide +kernel, by decide +kernel⟩
  · exact ⟨98, .inr rfl, by decide +kernel, by decide +kernel⟩
theorem letterL (x : Int) (b : Bool) : ∃ c, AB c ∧ (if b = true then greatOf x else smallOf x) = S [c] ∧ smallOf x = S [loA c] := by
  obtain ⟨d, hd, hs, hg⟩ := letters x
  cases b
  · exact ⟨d, by rcases hd with rfl | rfl <;> simp [AB], by rw [if_neg (by decide), hs], by rw [hs]; rcases hd with rfl | rfl <;> rfl⟩
  · exact ⟨d - 32, by rcases hd with rfl | rfl <;> simp [AB], by rw [if_pos rfl, hg], by rw [hs]; rcases hd with rfl | rfl <;> rfl⟩
theorem letterR (x : Int) (b : Bool) : ∃ c, AB c ∧ (if b = true then smallOf x else greatOf x) = S [c] ∧ smallOf x = S [loA c] := by
  obtain ⟨c, h1, h2, h3⟩ := letterL x (!b)
  refine ⟨c, h1, ?_, h3⟩
  rw [← h2]
  cases b <;> rfl
theorem spaces (x : Int) : ∃ sp, sp ≠ [] ∧ (∀ c ∈ sp, Unicode.isSpace c = true) ∧ wsOf x = S sp := by
  unfold wsOf pick3
  split
  · exact ⟨[32], by decide, by decide +kernel, by decide +kernel⟩
  · split
    · exact ⟨[9], by decide, by decide +kernel, by decide +kernel⟩
    · exact ⟨[32, 10, 32], by decide, by decide +kernel, by decide +kernel⟩
theorem flat_app (a b : List (List Nat × List Nat)) : flat (a ++ b) = flat a ++ flat b := by simp [flat]
/-- what holds of a text and its words -/
def Ok (sp : List Nat → Prop) (σ : Str × List Str) (bs : List (List Nat × List Nat)) : Prop := σ = (S (flat bs), wordsB bs) ∧ (∀ b ∈ bs, Good b ∧ sp b.1)
theorem ok_begin {sp : List Nat → Prop} {σ : Str × List Str} {bs : List (List Nat × List Nat)} (h : Ok sp σ bs) {w : List Nat} {c : Nat} (hw : w ≠ []) (hs : ∀ d ∈ w, Unicode.isSpace d = true) (hp : sp w) (hc : AB c) :
    Ok sp (σ.1 ++ S w ++ S [c], σ.2 ++ [S [loA c]]) (bs ++ [(w, [c])]) := by
  obtain ⟨rfl, h2⟩ := h
  refine ⟨?_, fun b hb => ?_⟩
  · simp only [S_app, flat_app, wordsB, List.map_append]
    refine Prod.ext ?_ ?_
    · simp [flat]
    · simp [lows]
  · rcases List.mem_append.mp hb with hb | hb
    · exact h2 b hb
    · rw [List.mem_singleton.mp hb]
      exact ⟨⟨hw, hs, by simp, fun d hd => by rw [List.mem_singleton.mp hd]; exact hc⟩, hp⟩
theorem ok_add {sp : List Nat → Prop} {σ : Str × List Str} {bs : List (List Nat × List Nat)} (h : Ok sp σ bs) (hne : bs ≠ []) {c : Nat} (hc : AB c) :
    ∃ bs', bs'.length = bs.length ∧ Ok sp (σ.1 ++ S [c], addLast σ.2 (S [loA c])) bs' := by
  obtain ⟨rfl, h2⟩ := h
  obtain ⟨ini, b, rfl⟩ : ∃ ini b, bs = ini ++ [b] := ⟨bs.dropLast, bs.getLast hne, (List.dropLast_concat_getLast hne).symm⟩
  refine ⟨ini ++ [(b.1, b.2 ++ [c])], by simp, ?_, fun b' hb => ?_⟩
  · refine Prod.ext ?_ ?_
    · show S _ ++ S _ = S _
      rw [S_app]
      simp [flat]
    · show addLast (wordsB (ini ++ [b])) _ = _
      unfold wordsB
      rw [List.map_append, List.map_append]
      show addLast (_ ++ [S (lows b.2)]) (S [loA c]) = _
      rw [addLast_snoc, S_app]
      simp [lows]
  · rcases List.mem_append.mp hb with hb | hb
    · exact h2 b' (List.mem_append_left _ hb)
    · rw [List.mem_singleton.mp hb]
      obtain ⟨⟨g1, g2, g3, g4⟩, g5⟩ := h2 b (by simp)
      exact ⟨⟨g1, g2, by simp, fun d hd => by
        rcases List.mem_append.mp hd with hd | hd
        · exact g4 d hd
        · rw [List.mem_singleton.mp hd]; exact hc⟩, g5⟩
theorem lstep_ok {σ : Str × List Str} {bs : List (List Nat × List Nat)} (h : Ok (fun _ => True) σ bs) (x : Int) (hne : bs ≠ [] ∨ x.fmod 8 = 0) : ∃ bs', bs' ≠ [] ∧ bs.length ≤ bs'.length ∧ Ok (fun _ => True) (lstep σ x) bs' := by
  obtain ⟨l, ws⟩ := σ
  cases k1 : ([4, 5].any fun y => y == x.fmod 8) with
  | true =>
    rw [lstep_same k1]
    rcases hne with hne | hx
    · exact ⟨bs, hne, Nat.le_refl _, h⟩
    · exact absurd hx (any_ne0 k1 rfl)
  | false =>
    obtain ⟨c, hc, e1, e2⟩ := letterL x (capOf x)
    cases k2 : ([0, 2, 6].any fun y => y == x.fmod 8) with
    | true =>
      obtain ⟨sp, hs1, hs2, hs3⟩ := spaces x
      rw [lstep_begin k1 k2, e1, e2, hs3]
      exact ⟨_, by simp, by simp, ok_begin h hs1 hs2 trivial hc⟩
    | false =>
      rw [lstep_add k1 k2, e1, e2]
      rcases hne with hne | hx
      · obtain ⟨bs', h1, h2⟩ := ok_add h hne hc
        exact ⟨bs', by intro e; rw [e] at h1; exact hne (List.length_eq_zero_iff.mp h1.symm), Nat.le_of_eq h1.symm, h2⟩
      · exact absurd hx (any_ne0' k2 rfl)
theorem rstep_ok {σ : Str × List Str} {bs : List (List Nat × List Nat)} (h : Ok (fun w => w = [32]) σ bs) (x : Int) (hne : bs ≠ [] ∨ x.fmod 8 = 0) : ∃ bs', bs' ≠ [] ∧ bs.length ≤ bs'.length ∧ (x.fmod 8 = 0 → bs.length + 1 ≤ bs'.length) ∧ Ok (fun w => w = [32]) (rstep σ x) bs' := by
  obtain ⟨l, ws⟩ := σ
  cases k1 : ([2, 3].any fun y => y == x.fmod 8) with
  | true =>
    rw [rstep_same k1]
    rcases hne with hne | hx
    · exact ⟨bs, hne, Nat.le_refl _, fun hx => absurd hx (any_ne0 k1 rfl), h⟩
    · exact absurd hx (any_ne0 k1 rfl)
  | false =>
    obtain ⟨c, hc, e1, e2⟩ := letterR x (capOf x)
    cases k2 : ([0, 4, 6].any fun y => y == x.fmod 8) with
    | true =>
      rw [rstep_begin k1 k2, e1, e2, show Str.ofString " " = S [32] from by decide +kernel]
      exact ⟨_, by simp, by simp, fun _ => by simp, ok_begin h (by decide) (by decide +kernel) rfl hc⟩
    | false =>
      rw [rstep_add k1 k2, e1, e2]
      rcases hne with hne | hx
      · obtain ⟨bs', h1, h2⟩ := ok_add h hne hc
        exact ⟨bs', by intro e; rw [e] at h1; exact hne (List.length_eq_zero_iff.mp h1.symm), Nat.le_of_eq h1.symm, fun hx => absurd hx (any_ne0' k2 rfl), h2⟩
      · exact absurd hx (any_ne0' k2 rfl)
theorem lfold_ok : ∀ (ns : List Int) (σ : Str × List Str) (bs : List (List Nat × List Nat)), Ok (fun _ => True) σ bs → bs ≠ [] → ∃ bs', bs' ≠ [] ∧ bs.length ≤ bs'.length ∧ Ok (fun _ => True) (ns.foldl lstep σ) bs'
  | [], σ, bs, h, hne => ⟨bs, hne, Nat.le_refl _, h⟩
  | x :: ns, σ, bs, h, hne => by
    obtain ⟨b1, h1, h2, h3⟩ := lstep_ok h x (.inl hne)
    obtain ⟨b2, g1, g2, g3⟩ := lfold_ok ns _ b1 h3 h1
    exact ⟨b2, g1, Nat.le_trans h2 g2, g3⟩
theorem rfold_ok : ∀ (ns : List Int) (σ : Str × List Str) (bs : List (List Nat × List Nat)), Ok (fun w => w = [32]) σ bs → bs ≠ [] → ∃ bs', bs' ≠ [] ∧ bs.length ≤ bs'.length ∧ Ok (fun w => w = [32]) (ns.foldl rstep σ) bs'
  | [], σ, bs, h, hne => ⟨bs, hne, Nat.le_refl _, h⟩
  | x :: ns, σ, bs, h, hne => by
    obtain ⟨b1, h1, h2, _, h3⟩ := rstep_ok h x (.inl hne)
    obtain ⟨b2, g1, g2, g3⟩ := rfold_ok ns _ b1 h3 h1
    exact ⟨b2, g1, Nat.le_trans h2 g2, g3⟩
/-- the line that the law builds -/
theorem line_ok (as cs' : List Int) : ∃ bs, bs ≠ [] ∧ Ok (fun _ => True) ((([0, 11] ++ as) ++ [10, 16, 9] ++ cs').foldl lstep (Str.ofString "", [])) bs := by
  have h0 : Ok (fun _ => True) (Str.ofString "", []) [] := ⟨by rw [es_eq]; rfl, fun _ h => by cases h⟩
  obtain ⟨b1, h1, _, h3⟩ := lstep_ok h0 0 (.inr rfl)
  obtain ⟨b2, g1, _, g3⟩ := lfold_ok (11 :: (as ++ ([10, 16, 9] ++ cs'))) _ b1 h3 h1
  refine ⟨b2, g1, ?_⟩
  simpa using g3
theorem row_ok (as cs' : List Int) : ∃ bs, 2 ≤ bs.length ∧ Ok (fun w => w = [32]) ((([0, 11] ++ as) ++ [10, 16, 9] ++ cs').foldl rstep (Str.ofString "", [])) bs := by
  have h0 : Ok (fun w => w = [32]) (Str.ofString "", []) [] := ⟨by rw [es_eq]; rfl, fun _ h => by cases h⟩
  obtain ⟨b1, h1, _, _, h3⟩ := rstep_ok h0 0 (.inr rfl)
  obtain ⟨b2, g1, g2, g3⟩ := rfold_ok (11 :: (as ++ [10])) _ b1 h3 h1
  obtain ⟨b3, k1, _, k2, k3⟩ := rstep_ok g3 16 (.inr rfl)
  obtain ⟨b4, m1, m2, m3⟩ := rfold_ok (9 :: cs') _ b3 k3 k1
  have hb1 : 0 < b1.length := List.length_pos_iff.mpr h1
  have hk := k2 rfl
  refine ⟨b4, by omega, ?_⟩
  have e : ([0, 11] ++ as) ++ [10, 16, 9] ++ cs' = 0 :: ((11 :: (as ++ [10])) ++ (16 :: (9 :: cs'))) := by simp
  rw [e, List.foldl_cons, List.foldl_append, List.foldl_cons]
  exact m3
end Mine
end
section
open PySem PySem.W PyProof.Rows PySem.Builtin PySem.Builtin.Str PySem.StrLaws
namespace Mine
def joinL (y : List Nat) : List (List Nat) → List Nat
  | [] => []
  | [p] => p
  | p :: q :: r => p ++ y ++ joinL y (q :: r)
theorem join_S (y : List Nat) : ∀ ps : List (List Nat), Str.join (S y) (ps.map S) = S (joinL y ps)
  | [] => rfl
  | [p] => rfl
  | p :: q :: r => by
    show S p ++ S y ++ Str.join (S y) ((q :: r).map S) = _
    rw [join_S y (q :: r), S_app, S_app]
    rfl
theorem joinL_nil : ∀ ps : List (List Nat), joinL [] ps = ps.flatten
  | [] => rfl
  | [p] => by simp [joinL]
  | p :: q :: r => by rw [joinL, joinL_nil (q :: r)]; simp
theorem splL_join (c0 : Nat) (y' : List Nat) : ∀ (p : List Nat) (ps : List (List Nat)) (cur : List Nat), c0 ∉ p → (∀ q ∈ ps, c0 ∉ q) → splL (c0 :: y') (joinL (c0 :: y') (p :: ps)) 0 cur = (cur ++ p) :: ps
  | p, [], cur, h, _ => splL_one c0 y' p cur h
  | p, q :: r, cur, h, hs => by
    rw [joinL, List.append_assoc, splL_free _ _ _ _ _ h, splL_sep, splL_join c0 y' q r [] (hs q List.mem_cons_self) fun z hz => hs z (List.mem_cons_of_mem _ hz)]
    rfl
theorem split_join (c0 : Nat) (y' : List Nat) (hk : PySem.Builtin.Str.strKind (S (c0 :: y')) = 1) {ps : List (List Nat)} (hne : ps ≠ []) (hs : ∀ q ∈ ps, c0 ∉ q) : Txt.split (Str.join (S (c0 :: y')) (ps.map S)) (S (c0 :: y')) = ps.map S := by
  rw [join_S, split_splL _ _ (by simp) hk]
  cases ps with
  | nil => exact absurd rfl hne
  | cons p r => rw [splL_join c0 y' p r [] (hs p List.mem_cons_self) fun q hq => hs q (List.mem_cons_of_mem _ hq)]; rfl
theorem sp_eq : Str.ofString " " = S [32] := by decide +kernel
theorem kind32 : PySem.Builtin.Str.strKind (S [32]) = 1 := by decide +kernel
theorem AB.ne32 {c : Nat} (h : AB c) : c ≠ 32 := by rcases h with rfl | rfl | rfl | rfl <;> decide
theorem mem_capL {m : List Nat} (h : ∀ c ∈ m, AB c) : ∀ c ∈ capL m, AB c := by
  cases m with
  | nil => exact h
  | cons d r =>
    intro c hc
    rcases List.mem_cons.mp hc with rfl | hc
    · rcases (h d List.mem_cons_self).up with e | e <;> rw [e] <;> simp [AB]
    · obtain ⟨e, he, rfl⟩ := List.mem_map.mp hc
      exact (h e (List.mem_cons_of_mem _ he)).lolo_ab
/-- the capped words of a line, joined by blanks -/
theorem capped {bs : List (List Nat × List Nat)} (h : ∀ b ∈ bs, Good b) : (Txt.words (S (flat bs))).map Txt.capitalize = (bs.map fun b => capL b.2).map S := by
  rw [Good.words h, List.map_map, List.map_map]
  refine List.map_congr_left fun b hb => ?_
  exact capitalize_ascii b.2 fun c hc => ((h b hb).2.2.2 c hc).lt
theorem name_eq {bs : List (List Nat × List Nat)} (h : ∀ b ∈ bs, Good b) (hne : bs ≠ []) :
    Txt.replace (Str.join (Str.ofString " ") ((Txt.words (S (flat bs))).map Txt.capitalize)) (Str.ofString " ") (Str.ofString "") = S ((bs.map fun b => capL b.2).flatten) := by
  rw [capped h, sp_eq, es_eq]
  show Txt.replace _ (S [32]) (S []) = _
  rw [show (S [32] : Str) = ⟨#[32]⟩ from rfl, replace_one]
  rw [show (⟨#[32]⟩ : Str) = S [32] from rfl, split_join 32 [] kind32 (by simpa using hne), join_S, joinL_nil]
  intro q hq
  obtain ⟨b, hb, rfl⟩ := List.mem_map.mp hq
  intro hm
  exact (mem_capL (h b hb).2.2.2 32 hm).ne32 rfl
theorem parts_eq {bs : List (List Nat × List Nat)} (h : ∀ b ∈ bs, Good b) (hne : bs ≠ []) :
    Txt.split (Str.join (Str.ofString " ") ((Txt.words (S (flat bs))).map Txt.capitalize)) (Str.ofString " ") = (bs.map fun b => capL b.2).map S := by
  rw [capped h, sp_eq]
  refine split_join 32 [] kind32 (by simpa using hne) fun q hq => ?_
  obtain ⟨b, hb, rfl⟩ := List.mem_map.mp hq
  intro hm
  exact (mem_capL (h b hb).2.2.2 32 hm).ne32 rfl
theorem flat_join : ∀ bs : List (List Nat × List Nat), (∀ b ∈ bs, b.1 = [32]) → flat bs = joinL [32] ([] :: bs.map (·.2))
  | [], _ => rfl
  | b :: bs, h => by
    have ih := flat_join bs fun b hb => h b (List.mem_cons_of_mem _ hb)
    have e : flat (b :: bs) = b.1 ++ (b.2 ++ flat bs) := by simp [flat]
    rw [e, h b List.mem_cons_self, ih, List.map_cons]
    cases bs with
    | nil => simp [joinL]
    | cons c r => simp [joinL]
theorem raw_eq {bs : List (List Nat × List Nat)} (h : ∀ b ∈ bs, Good b ∧ b.1 = [32]) : Txt.split (S (flat bs)) (Str.ofString " ") = S [] :: bs.map fun b => S b.2 := by
  rw [flat_join bs fun b hb => (h b hb).2, sp_eq, ← join_S, split_join 32 [] kind32 (by simp)]
  · simp [Function.comp_def]
  · intro q hq
    rcases List.mem_cons.mp hq with rfl | hq
    · simp
    · obtain ⟨b, hb, rfl⟩ := List.mem_map.mp hq
      exact fun hm => ((h b hb).1.2.2.2 32 hm).ne32 rfl
/-! the joined text -/
abbrev GG : List Nat := [40, 63, 62, 46, 42, 63]
theorem gg_eq : Str.ofString "(?>.*?" = S GG := by decide +kernel
theorem dd_eq : Str.ofString ".*" = S [46, 42] := by decide +kernel
theorem open_eq : Str.ofString "(?s:" = S [40, 63, 115, 58] := by decide +kernel
theorem close_eq : Str.ofString ")\\Z" = S [41, 92, 90] := by decide +kernel
theorem par_eq : Str.ofString ")" = S [41] := by decide +kernel
theorem kindGG : PySem.Builtin.Str.strKind (S GG) = 1 := by decide +kernel
theorem kindDD : PySem.Builtin.Str.strKind (S [46, 42]) = 1 := by decide +kernel
def grp (q : List Nat) : List Nat := GG ++ q ++ [41]
def resL (behind : Bool) : List (List Nat) → List (List Nat)
  | [] => if behind then [[46, 42]] else []
  | r :: [] => if behind then [grp r, [46, 42]] else [[46, 42], r]
  | r :: rs => grp r :: resL behind rs
theorem res_S (behind : Bool) : ∀ rs : List (List Nat), resOf behind (rs.map S) = (resL behind rs).map S
  | [] => by cases behind <;> simp [resOf, resL, dd_eq]
  | [r] => by cases behind <;> simp [resOf, resL, dd_eq, gg_eq, par_eq, grp, S_app]
  | r :: q :: rs => by
    have ih := res_S behind (q :: rs)
    have e : resL behind (r :: q :: rs) = grp r :: resL behind (q :: rs) := by
      rw [resL]
      intro h
      cases h
    have e2 : resOf behind (S r :: S q :: rs.map S) = (Str.ofString "(?>.*?" ++ S r ++ Str.ofString ")") :: resOf behind (S q :: rs.map S) := resOf_group (.inr (by simp))
    rw [List.map_cons] at ih
    rw [List.map_cons, List.map_cons, e2, ih, e, List.map_cons, gg_eq, par_eq, S_app, S_app]
    rfl
def qsOf (behind : Bool) (rs : List (List Nat)) : List (List Nat) := if behind then rs else rs.dropLast
def e1Of (behind : Bool) (rs : List (List Nat)) : List Nat := if behind then [] else rs.getLastD []
theorem res_flat (behind : Bool) : ∀ (r : List Nat) (rs : List (List Nat)), (resL behind (r :: rs)).flatten = (qsOf behind (r :: rs)).flatMap grp ++ [46, 42] ++ e1Of behind (r :: rs)
  | r, [] => by cases behind <;> simp [resL, qsOf, e1Of]
  | r, q :: rs => by
    have ih := res_flat behind q rs
    rw [resL, List.flatten_cons, ih]
    · cases behind
      · simp [qsOf, e1Of]
      · simp [qsOf, e1Of]
    · intro h; cases h
theorem splL_groups (t : List Nat) (ht : 40 ∉ t) : ∀ (qs : List (List Nat)) (cur : List Nat), (∀ q ∈ qs, 40 ∉ q) → ∃ ini e0, ini ++ [e0] = cur :: qs.map (· ++ [41]) ∧ splL GG (qs.flatMap grp ++ t) 0 cur = ini ++ [e0 ++ t]
  | [], cur, _ => ⟨[], cur, rfl, by simpa using splL_one 40 _ t cur ht⟩
  | q :: qs, cur, h => by
    obtain ⟨ini, e0, h1, h2⟩ := splL_groups t ht qs (q ++ [41]) fun z hz => h z (List.mem_cons_of_mem _ hz)
    refine ⟨cur :: ini, e0, by rw [List.cons_append, h1]; rfl, ?_⟩
    have e : (q :: qs).flatMap grp ++ t = GG ++ ((q ++ [41]) ++ (qs.flatMap grp ++ t)) := by simp [grp]
    rw [e, splL_sep, splL_free 40 _ (q ++ [41]) _ [] (by
      intro hm
      rcases List.mem_append.mp hm with hm | hm
      · exact h q List.mem_cons_self hm
      · simp at hm)]
    rw [List.nil_append, h2]
    rfl
/-- the text that the joining gives -/
def txt (pre : List Nat) (behind : Bool) (rs : List (List Nat)) : List Nat := [40, 63, 115, 58] ++ (pre ++ (resL behind rs).flatten) ++ [41, 92, 90]
theorem txt_eq (ps : List (List Nat)) (behind : Bool) (rs : List (List Nat)) :
    Str.ofString "(?s:" ++ Str.join ⟨#[]⟩ (ps.map S ++ resOf behind (rs.map S)) ++ Str.ofString ")\\Z" = S (txt ps.flatten behind rs) := by
  rw [res_S, ← List.map_append, show (⟨#[]⟩ : Str) = S [] from rfl, join_S, joinL_nil, open_eq, close_eq, S_app, S_app]
  simp [txt]
theorem text_facts (pre : List Nat) (behind : Bool) (r : List Nat) (rs : List (List Nat)) (hpre : ∀ c ∈ pre, AB c) (hrs : ∀ q ∈ r :: rs, ∀ c ∈ q, AB c) :
    Txt.slice (S (txt pre behind (r :: rs))) none (some 4) = Str.ofString "(?s:" ∧ Txt.slice (S (txt pre behind (r :: rs))) (some (-3)) none = Str.ofString ")\\Z" ∧
    ∃ ini e0, ini ++ [e0] = pre :: (qsOf behind (r :: rs)).map (· ++ [41]) ∧
      Txt.split (Txt.slice (S (txt pre behind (r :: rs))) (some 4) (some (-3))) (Str.ofString "(?>.*?") = ini.map S ++ [S (e0 ++ [46, 42] ++ e1Of behind (r :: rs))] ∧
      Txt.split (S (e0 ++ [46, 42] ++ e1Of behind (r :: rs))) (Str.ofString ".*") = [S e0, S (e1Of behind (r :: rs))] := by
  have no : ∀ {l : List Nat} {k : Nat}, (∀ c ∈ l, AB c) → (k = 40 ∨ k = 46) → k ∉ l := fun h hk hm => by
    have := h _ hm
    rcases hk with rfl | rfl <;> rcases this with e | e | e | e <;> cases e
  have hq : ∀ q ∈ qsOf behind (r :: rs), ∀ c ∈ q, AB c := fun q hq => hrs q (by
    unfold qsOf at hq
    cases behind
    · exact (List.dropLast_sublist _).subset (by simpa using hq)
    · simpa using hq)
  have he : ∀ c ∈ e1Of behind (r :: rs), AB c := by
    unfold e1Of
    cases behind
    · intro c hc
      have e : (if false = true then [] else (r :: rs).getLastD []) = (r :: rs).getLast (by simp) := by
        rw [if_neg (by decide), List.getLastD_eq_getLast?, List.getLast?_eq_some_getLast (by simp)]
        rfl
      rw [e] at hc
      exact hrs _ (List.getLast_mem (by simp)) c hc
    · intro c hc; simp at hc
  refine ⟨?_, ?_, ?_⟩
  · unfold txt
    rw [List.append_assoc, open_eq]
    exact (slice_to _ 4).trans (by simp)
  · unfold txt
    rw [close_eq]
    exact slice_last3 _ _ rfl
  · have hm : Txt.slice (S (txt pre behind (r :: rs))) (some 4) (some (-3)) = S (pre ++ (resL behind (r :: rs)).flatten) := slice_mid _ _ _ rfl rfl
    obtain ⟨ini, e0, h1, h2⟩ := splL_groups ([46, 42] ++ e1Of behind (r :: rs)) (by
      intro hm
      rcases List.mem_append.mp hm with hm | hm
      · simp at hm
      · exact no he (.inl rfl) hm) (qsOf behind (r :: rs)) pre fun q hq' => no (hq q hq') (.inl rfl)
    refine ⟨ini, e0, h1, ?_, ?_⟩
    · rw [hm, gg_eq, split_splL _ _ (by decide) kindGG, res_flat, splL_free 40 _ pre _ [] (no hpre (.inl rfl)), List.nil_append, List.append_assoc, h2, List.map_append]
      simp
    · have hne : 46 ∉ e0 := by
        have hmem : e0 ∈ pre :: (qsOf behind (r :: rs)).map (· ++ [41]) := by rw [← h1]; simp
        rcases List.mem_cons.mp hmem with rfl | hmem
        · exact no hpre (.inr rfl)
        · obtain ⟨q, hq', rfl⟩ := List.mem_map.mp hmem
          intro hm
          rcases List.mem_append.mp hm with hm | hm
          · exact no (hq q hq') (.inr rfl) hm
          · simp at hm
      rw [dd_eq, split_splL _ _ (by decide) kindDD, List.append_assoc, splL_free 46 [42] e0 _ [] hne, splL_sep, splL_one 46 [42] _ _ (no he (.inr rfl))]
      rfl
end Mine
end
section
open PySem PySem.W PyProof.Rows PySem.Builtin PySem.Builtin.Str PySem.StrLaws
namespace Mine
def lastApp (t : List Nat) : List Nat → List (List Nat) → List (List Nat)
  | cur, [] => [cur ++ t]
  | cur, q :: qs => cur :: lastApp t (q ++ [41]) qs
theorem lastApp_ne (t cur : List Nat) (qs : List (List Nat)) : ∃ a b, lastApp t cur qs = a :: b := by cases qs <;> exact ⟨_, _, rfl⟩
theorem splL_last (t : List Nat) (ht : 40 ∉ t) : ∀ (qs : List (List Nat)) (cur : List Nat), (∀ q ∈ qs, 40 ∉ q) → splL GG (qs.flatMap grp ++ t) 0 cur = lastApp t cur qs
  | [], cur, _ => by simpa [lastApp] using splL_one 40 _ t cur ht
  | q :: qs, cur, h => by
    have ih := splL_last t ht qs (q ++ [41]) fun z hz => h z (List.mem_cons_of_mem _ hz)
    have e : (q :: qs).flatMap grp ++ t = GG ++ ((q ++ [41]) ++ (qs.flatMap grp ++ t)) := by simp [grp]
    rw [e, splL_sep, splL_free 40 _ (q ++ [41]) _ [] (by
      intro hm
      rcases List.mem_append.mp hm with hm | hm
      · exact h q List.mem_cons_self hm
      · simp at hm), List.nil_append, ih]
    rfl
theorem capL_app {cur : List Nat} (t : List Nat) (h : cur ≠ []) : capL (cur ++ t) = capL cur ++ lows t := by
  cases cur with
  | nil => exact absurd rfl h
  | cons c r => simp [capL, lows]
theorem join_last (t : List Nat) : ∀ (qs : List (List Nat)) (cur : List Nat), cur ≠ [] → (∀ q ∈ qs, q ≠ []) → joinL GG ((lastApp t cur qs).map capL) = capL cur ++ (qs.map capL).flatMap grp ++ lows t
  | [], cur, h, _ => by
    show capL (cur ++ t) = _
    rw [capL_app t h]
    simp
  | q :: qs, cur, h, hq => by
    have ih := join_last t qs (q ++ [41]) (by simp) fun z hz => hq z (List.mem_cons_of_mem _ hz)
    obtain ⟨a, b, e⟩ := lastApp_ne t (q ++ [41]) qs
    rw [lastApp, List.map_cons]
    rw [e] at ih ⊢
    rw [List.map_cons] at ih ⊢
    rw [joinL, ih, capL_app [41] (hq q List.mem_cons_self)]
    simp [grp, lows, loA]
theorem splL_open (rest : List Nat) : splL GG ([40, 63, 115, 58] ++ rest) 0 [] = splL GG rest 0 [40, 63, 115, 58] := by
  show splL GG (40 :: 63 :: 115 :: 58 :: rest) 0 [] = _
  rw [splL, if_neg (by simp [List.isPrefixOf]), splL, if_neg (by simp [List.isPrefixOf]), splL, if_neg (by simp [List.isPrefixOf]), splL, if_neg (by simp [List.isPrefixOf])]
  rfl
theorem raw_final {q : List Nat} {qs : List (List Nat)} (hq : ∀ z ∈ q :: qs, z ≠ [] ∧ ∀ c ∈ z, AB c) :
    Txt.split (S (txt [] true (q :: qs))) (Str.ofString "(?>.*?") = (lastApp [46, 42, 41, 92, 90] [40, 63, 115, 58] (q :: qs)).map S ∧
    Str.join (Str.ofString "(?>.*?") (((lastApp [46, 42, 41, 92, 90] [40, 63, 115, 58] (q :: qs)).map S).map Txt.capitalize) = Txt.slice (S (txt [] true ((q :: qs).map capL))) none (some (-1)) ++ Str.ofString "z" := by
  have hz : Str.ofString "z" = S [122] := by decide +kernel
  have hno : ∀ z ∈ q :: qs, 40 ∉ z := fun z hz hm => by
    rcases (hq z hz).2 40 hm with e | e | e | e <;> cases e
  have e1 : txt [] true (q :: qs) = [40, 63, 115, 58] ++ ((q :: qs).flatMap grp ++ [46, 42, 41, 92, 90]) := by
    unfold txt
    rw [res_flat]
    simp [qsOf, e1Of]
  constructor
  · rw [e1, gg_eq, split_splL _ _ (by decide) kindGG, splL_open, splL_last _ (by decide) _ _ hno]
  · have hasc : ∀ (l : List (List Nat)) (cur : List Nat), (∀ z ∈ l, ∀ c ∈ z, c < 128) → (∀ c ∈ cur, c < 128) → ∀ y ∈ lastApp [46, 42, 41, 92, 90] cur l, ∀ c ∈ y, c < 128 := by
      intro l
      induction l with
      | nil =>
        intro cur _ hc y hy c hcy
        rw [lastApp, List.mem_singleton] at hy
        subst hy
        rcases List.mem_append.mp hcy with h | h
        · exact hc c h
        · simp at h
          omega
      | cons z l ih =>
        intro cur hl hc y hy
        rw [lastApp] at hy
        rcases List.mem_cons.mp hy with rfl | hy
        · exact hc
        · refine ih (z ++ [41]) (fun w hw => hl w (List.mem_cons_of_mem _ hw)) (fun c h => ?_) y hy
          rcases List.mem_append.mp h with h | h
          · exact hl z List.mem_cons_self c h
          · simp at h
            omega
    have e2 : ((lastApp [46, 42, 41, 92, 90] [40, 63, 115, 58] (q :: qs)).map S).map Txt.capitalize = ((lastApp [46, 42, 41, 92, 90] [40, 63, 115, 58] (q :: qs)).map capL).map S := by
      rw [List.map_map, List.map_map]
      exact List.map_congr_left fun y hy => capitalize_ascii y (hasc _ _ (fun z hz c hc => ((hq z hz).2 c hc).lt) (by decide) y hy)
    rw [e2, gg_eq, join_S, join_last _ _ _ (by decide) fun z hz => (hq z hz).1]
    have e3 : txt [] true ((q :: qs).map capL) = ([40, 63, 115, 58] ++ ((q :: qs).map capL).flatMap grp ++ [46, 42, 41, 92]) ++ [90] := by
      unfold txt
      rw [List.map_cons, res_flat]
      simp [qsOf, e1Of]
    rw [e3, slice_init, hz, S_app]
    refine congrArg S ?_
    have e4 : capL [40, 63, 115, 58] = [40, 63, 115, 58] := by decide
    have e5 : lows [46, 42, 41, 92, 90] = [46, 42, 41, 92] ++ [122] := by decide
    rw [e4, e5]
    simp
end Mine
end
section
open PySem PySem.W PyProof.Rows PySem.Builtin PySem.Builtin.Str PySem.StrLaws
namespace Mine
/-- a word of small letters -/
def LW (w : List Nat) : Prop := w ≠ [] ∧ ∀ c ∈ w, c = 97 ∨ c = 98
theorem low_id : ∀ {r : List Nat}, (∀ c ∈ r, c = 97 ∨ c = 98) → lows r = r
  | [], _ => rfl
  | c :: r, h => by
    have ih := low_id (r := r) fun d hd => h d (List.mem_cons_of_mem _ hd)
    show loA c :: lows r = _
    rw [ih]
    rcases h c List.mem_cons_self with rfl | rfl <;> rfl
theorem LW.cap {w : List Nat} (h : LW w) : ∃ c r, w = c :: r ∧ (c = 97 ∨ c = 98) ∧ (∀ d ∈ r, d = 97 ∨ d = 98) ∧ capL w = (c - 32) :: r := by
  obtain ⟨h1, h2⟩ := h
  cases w with
  | nil => exact absurd rfl h1
  | cons c r =>
    refine ⟨c, r, rfl, h2 c List.mem_cons_self, fun d hd => h2 d (List.mem_cons_of_mem _ hd), ?_⟩
    show upA c :: lows r = _
    rw [low_id fun d hd => h2 d (List.mem_cons_of_mem _ hd)]
    rcases h2 c List.mem_cons_self with rfl | rfl <;> rfl
theorem capL_len (w : List Nat) : (capL w).length = w.length := by cases w <;> simp [capL]
def nameL (W : List (List Nat)) : List Nat := (W.map capL).flatten
def st (W : List (List Nat)) (j : Nat) : Nat := (nameL (W.take j)).length
theorem st_succ {W : List (List Nat)} {j : Nat} (hj : j < W.length) : st W (j + 1) = st W j + (W.getD j []).length := by
  unfold st nameL
  rw [List.take_add_one, show W[j]? = some W[j] by simp [hj], Option.toList_some, List.map_append, List.flatten_append, List.length_append, List.getD_eq_getElem?_getD, show W[j]? = some W[j] by simp [hj]]
  simp [capL_len]
theorem st_all (W : List (List Nat)) : st W W.length = (nameL W).length := by unfold st; rw [List.take_length]
theorem st_mono {W : List (List Nat)} (hW : ∀ w ∈ W, LW w) : ∀ {i j : Nat}, i < j → j ≤ W.length → st W i < st W j := by
  intro i j hij
  induction j with
  | zero => omega
  | succ j ih =>
    intro hj
    have h1 := st_succ (W := W) (j := j) (by omega)
    have h2 : 0 < (W.getD j []).length := by
      rw [List.getD_eq_getElem?_getD, show W[j]? = some W[j] by simp]
      exact List.length_pos_iff.mpr (hW _ (List.getElem_mem _)).1
    rcases Nat.lt_or_ge i j with h | h
    · have := ih h (by omega); omega
    · have : i = j := by omega
      subst this
      omega
/-- small letters ahead of a great one -/
theorem small_pre : ∀ (p w N : List Nat), (∀ c ∈ p, c = 97 ∨ c = 98) → (∀ c ∈ N.head?, c = 65 ∨ c = 66) → (p <+: w ++ N ↔ p <+: w)
  | [], w, N, _, _ => by simp
  | c :: p, [], N, hp, hN => by
    simp only [List.nil_append]
    constructor
    · intro h
      obtain ⟨t, ht⟩ := h
      cases N with
      | nil => cases ht
      | cons d N =>
        have e : c = d := by simpa using congrArg List.head? ht
        subst e
        have h1 := hN c (by simp)
        have h2 := hp c List.mem_cons_self
        omega
    · intro h
      have := h.length_le
      simp at this
  | c :: p, d :: w, N, hp, hN => by
    rw [List.cons_append, List.cons_prefix_cons, List.cons_prefix_cons, small_pre p w N (fun e he => hp e (List.mem_cons_of_mem _ he)) hN]
theorem cap_pre {p w N : List Nat} (hp : LW p) (hw : LW w) (hN : ∀ c ∈ N.head?, c = 65 ∨ c = 66) : capL p <+: capL w ++ N ↔ p <+: w := by
  obtain ⟨c, r, rfl, h1, h2, e1⟩ := hp.cap
  obtain ⟨d, q, rfl, k1, k2, e2⟩ := hw.cap
  rw [e1, e2, List.cons_append, List.cons_prefix_cons, List.cons_prefix_cons, small_pre r q N h2 hN]
  constructor
  · rintro ⟨a, b⟩; exact ⟨by omega, b⟩
  · rintro ⟨a, b⟩; exact ⟨by omega, b⟩
theorem name_head {W : List (List Nat)} (hW : ∀ w ∈ W, LW w) : ∀ c ∈ (nameL W).head?, c = 65 ∨ c = 66 := by
  cases W with
  | nil => intro c hc; simp [nameL] at hc
  | cons w W =>
    obtain ⟨c, r, rfl, h1, h2, e⟩ := (hW w List.mem_cons_self).cap
    intro d hd
    unfold nameL at hd
    rw [List.map_cons, List.flatten_cons, e] at hd
    have : d = c - 32 := by simpa using hd.symm
    omega
/-- where a capped word lies in the name -/
theorem key {p : List Nat} (hp : LW p) : ∀ (W : List (List Nat)), (∀ w ∈ W, LW w) → ∀ i, (capL p <+: (nameL W).drop i ↔ ∃ j, j < W.length ∧ i = st W j ∧ p <+: W.getD j [])
  | [], _, i => by
    obtain ⟨c, r, rfl, h1, h2, e⟩ := hp.cap
    constructor
    · intro h
      have := h.length_le
      rw [e] at this
      simp [nameL] at this
    · rintro ⟨j, hj, _⟩; simp at hj
  | w :: W, hW, i => by
    have hw := hW w List.mem_cons_self
    have hW' : ∀ v ∈ W, LW v := fun v hv => hW v (List.mem_cons_of_mem _ hv)
    have hN : nameL (w :: W) = capL w ++ nameL W := by simp [nameL]
    have st0 : st (w :: W) 0 = 0 := by simp [st, nameL]
    have sts : ∀ j, st (w :: W) (j + 1) = w.length + st W j := fun j => by
      unfold st
      rw [List.take_succ_cons]
      simp [nameL, capL_len]
    have hwl : 0 < w.length := List.length_pos_iff.mpr hw.1
    rcases Nat.eq_zero_or_pos i with rfl | hi
    · rw [List.drop_zero, hN, cap_pre hp hw (name_head hW')]
      constructor
      · intro h; exact ⟨0, by simp, st0.symm, by simpa using h⟩
      · rintro ⟨j, hj, e, h⟩
        cases j with
        | zero => simpa using h
        | succ j => rw [sts] at e; omega
    · rcases Nat.lt_or_ge i w.length with hlt | hge
      · constructor
        · intro h
          exfalso
          obtain ⟨c, r, rfl, h1, h2, e⟩ := hp.cap
          obtain ⟨d, q, rfl, k1, k2, e2⟩ := hw.cap
          rw [hN, e, e2] at h
          obtain ⟨k, rfl⟩ : ∃ k, i = k + 1 := ⟨i - 1, by omega⟩
          rw [List.cons_append, List.drop_succ_cons] at h
          have hk : k < q.length := by simpa using hlt
          have hh : (q ++ nameL W).drop k = q[k] :: (q ++ nameL W).drop (k + 1) := by
            rw [List.drop_eq_getElem_cons (by simp; omega), List.getElem_append_left hk]
          rw [hh, List.cons_prefix_cons] at h
          have := k2 q[k] (List.getElem_mem hk)
          have := h.1
          omega
        · rintro ⟨j, hj, e, h⟩
          exfalso
          cases j with
          | zero => rw [st0] at e; omega
          | succ j => rw [sts] at e; omega
      · have hd : (nameL (w :: W)).drop i = (nameL W).drop (i - w.length) := by
          rw [hN, List.drop_append, List.drop_eq_nil_of_le (by rw [capL_len]; exact hge), List.nil_append, capL_len]
        rw [hd, key hp W hW']
        constructor
        · rintro ⟨j, hj, e, h⟩
          exact ⟨j + 1, by simpa using hj, by rw [sts]; omega, by simpa using h⟩
        · rintro ⟨j, hj, e, h⟩
          cases j with
          | zero => rw [st0] at e; omega
          | succ j => exact ⟨j, by simpa using hj, by rw [sts] at e; omega, by simpa using h⟩
end Mine
end
section
open PySem PySem.W PyProof.Rows PySem.Builtin PySem.Builtin.Str PySem.StrLaws
namespace Mine
def Rel (W : List (List Nat)) (spot J : Nat) : Prop := ∀ j, j < W.length → (spot ≤ st W j ↔ J ≤ j)
theorem wAt_S (W : List (List Nat)) (k : Nat) : wAt (W.map S) (k : Int) = S (W.getD k []) := by
  unfold wAt
  simp only [Int.toNat_natCast, List.getD_eq_getElem?_getD, List.getElem?_map]
  cases W[k]? <;> rfl
theorem pre_test (p w : List Nat) : (Txt.slice (S w) none (some ((S p).length : Int)) == S p) = true ↔ p <+: w := by
  rw [S_len, slice_to, S_beq, beq_iff_eq, List.prefix_iff_eq_take]
  exact ⟨fun h => h.symm, fun h => h.symm⟩
theorem mem_fw1 {W : List (List Nat)} {p : List Nat} {least j : Int} : j ∈ fw1 (W.map S) (S p) least ↔ ∃ k : Nat, k < W.length ∧ j = (k : Int) ∧ least < (k : Int) ∧ p <+: W.getD k [] := by
  unfold fw1
  rw [List.mem_filter, List.mem_map]
  constructor
  · rintro ⟨⟨k, hk, rfl⟩, h⟩
    rw [List.mem_range, List.length_map] at hk
    rw [Bool.and_eq_true, decide_eq_true_eq, Int.ofNat_eq_natCast, wAt_S, pre_test] at h
    exact ⟨k, hk, rfl, h.1, h.2⟩
  · rintro ⟨k, hk, rfl, h1, h2⟩
    refine ⟨⟨k, by rw [List.mem_range, List.length_map]; exact hk, rfl⟩, ?_⟩
    rw [Bool.and_eq_true, decide_eq_true_eq, wAt_S, pre_test]
    exact ⟨h1, h2⟩
theorem fw1_none {W : List (List Nat)} {p : List Nat} {least : Int} (h : ∀ k, k < W.length → least < (k : Int) → ¬ p <+: W.getD k []) : fw1 (W.map S) (S p) least = [] := by
  refine List.eq_nil_iff_forall_not_mem.mpr fun j hj => ?_
  obtain ⟨k, hk, _, h1, h2⟩ := mem_fw1.mp hj
  exact h k hk h1 h2
theorem least_is {ns : List Int} {n M : Int} (h1 : M ∈ ns) (h2 : ∀ a ∈ ns, M ≤ a) (h3 : M ≤ n) : leastOf ns n = M :=
  (least_eq (List.mem_append_left _ h1) fun a ha => by
    rcases List.mem_append.mp ha with h | h
    · exact h2 a h
    · rw [List.mem_singleton.mp h]; exact h3).symm
/-- one sought word: both searches -/
theorem one_step {W : List (List Nat)} (hW : ∀ w ∈ W, LW w) {p : List Nat} (hp : LW p) {spot J : Nat} (hR : Rel W spot J) :
    (Txt.find3 (S (nameL W)) (S (capL p)) (spot : Int) = -1 ∧ fw1 (W.map S) (S p) ((J : Int) - 1) = []) ∨
    ∃ j, j < W.length ∧ J ≤ j ∧ p <+: W.getD j [] ∧ Txt.find3 (S (nameL W)) (S (capL p)) (spot : Int) = (st W j : Int) ∧ fw1 (W.map S) (S p) ((J : Int) - 1) ≠ [] ∧ leastOf (fw1 (W.map S) (S p) ((J : Int) - 1)) (W.length : Int) = (j : Int) ∧ Rel W (st W j + p.length) (j + 1) := by
  have hcne : capL p ≠ [] := by
    obtain ⟨c, r, rfl, _, _, e⟩ := hp.cap
    rw [e]
    simp
  have hpl : 0 < p.length := List.length_pos_iff.mpr hp.1
  rcases find3_spec (nameL W) (capL p) spot hcne with ⟨e, h⟩ | ⟨i, e, h1, h2, h3⟩
  · refine .inl ⟨e, fw1_none fun k hk hl hpre => ?_⟩
    exact h (st W k) ((hR k hk).mpr (by omega)) ((key hp W hW _).mpr ⟨k, hk, rfl, hpre⟩)
  · obtain ⟨j, hj, rfl, hpre⟩ := (key hp W hW i).mp h2
    have hJ : J ≤ j := (hR j hj).mp h1
    have hmem : (j : Int) ∈ fw1 (W.map S) (S p) ((J : Int) - 1) := mem_fw1.mpr ⟨j, hj, rfl, by omega, hpre⟩
    have hnn : fw1 (W.map S) (S p) ((J : Int) - 1) ≠ [] := by
      intro h0
      rw [h0] at hmem
      cases hmem
    refine .inr ⟨j, hj, hJ, hpre, e, hnn, least_is hmem (fun a ha => ?_) (by omega), fun k hk => ?_⟩
    · obtain ⟨k, hk, rfl, hl, hpk⟩ := mem_fw1.mp ha
      rcases Nat.lt_or_ge k j with hkj | hkj
      · exact absurd ((key hp W hW _).mpr ⟨k, hk, rfl, hpk⟩) (h3 _ ((hR k hk).mpr (by omega)) (st_mono hW hkj (by omega)))
      · omega
    · constructor
      · intro h
        rcases Nat.lt_or_ge j k with hjk | hjk
        · exact hjk
        · have : st W k ≤ st W j := by
            rcases Nat.lt_or_ge k j with h' | h'
            · exact Nat.le_of_lt (st_mono hW h' (by omega))
            · have : k = j := by omega
              rw [this]; exact Nat.le_refl _
          omega
      · intro h
        have h4 := st_succ (W := W) hj
        have h5 := hpre.length_le
        have h6 : st W (j + 1) ≤ st W k := by
          rcases Nat.lt_or_ge (j + 1) k with h' | h'
          · exact Nat.le_of_lt (st_mono hW h' (by omega))
          · have : k = j + 1 := by omega
            rw [this]; exact Nat.le_refl _
        omega
theorem fGo_dead {W : List (List Nat)} {ahead behind : Bool} {n : Nat} : ∀ (rest : List Str) (k : Nat), fGo (W.map S) ahead behind n rest k [] = []
  | [], _ => rfl
  | one :: rest, k => by
    have e : fStep (W.map S) ahead behind n k one [] = [] := by
      unfold fStep
      have e1 : fw1 (W.map S) one (leastOf [] ((W.map S).length : Int)) = [] := by
        rw [← S_cs one]
        refine fw1_none fun k hk hl => ?_
        have : leastOf [] ((W.map S).length : Int) = (W.length : Int) := by simp [leastOf]
        omega
      rw [e1]
      unfold fw2 fw3
      simp
    rw [fGo, e]
    exact fGo_dead rest (k + 1)
def pst (p : List Nat) : Str := S (capL p ++ [41])
theorem tGo_cons (name : Str) (p : List Nat) (ps : List Str) (spot : Int) :
    tGo name (pst p :: ps) spot = if Txt.find3 name (S (capL p)) spot < 0 then none else tGo name ps (Txt.find3 name (S (capL p)) spot + p.length) := by
  have e : Txt.slice (pst p) none (some (-1)) = S (capL p) := slice_init _ _
  rw [tGo, e]
  have e2 : ((pst p).length : Int) = (p.length : Int) + 1 := by unfold pst; rw [S_len]; simp [capL_len]
  rw [e2]
  congr 2
  omega
theorem go_mid {W : List (List Nat)} (hW : ∀ w ∈ W, LW w) {ahead behind : Bool} {n : Nat} : ∀ (ps : List (List Nat)) (k : Nat) (ways : List Int) (spot J : Nat), (∀ p ∈ ps, LW p) →
    (∀ k', k ≤ k' → k' < k + ps.length → (k' ≠ 0 ∨ ahead = true) ∧ ((k' : Int) ≠ (n : Int) - 1 ∨ behind = true)) → Rel W spot J → leastOf ways (W.length : Int) = (J : Int) - 1 → spot ≤ (nameL W).length →
    (tGo (S (nameL W)) (ps.map pst) (spot : Int) = none ∧ ∀ rest, fGo (W.map S) ahead behind n (ps.map S ++ rest) k ways = []) ∨
    ∃ (spot' J' : Nat) (ways' : List Int), tGo (S (nameL W)) (ps.map pst) (spot : Int) = some (spot' : Int) ∧ (∀ rest, fGo (W.map S) ahead behind n (ps.map S ++ rest) k ways = fGo (W.map S) ahead behind n rest (k + ps.length) ways') ∧
      Rel W spot' J' ∧ leastOf ways' (W.length : Int) = (J' : Int) - 1 ∧ spot' ≤ (nameL W).length ∧ (ps ≠ [] ∨ ways ≠ [] → ways' ≠ [])
  | [], k, ways, spot, J, _, _, hR, hl, hs => .inr ⟨spot, J, ways, rfl, fun rest => rfl, hR, hl, hs, fun h => h.elim (fun h => absurd rfl h) id⟩
  | p :: ps, k, ways, spot, J, hps, hk, hR, hl, hs => by
    have hp := hps p List.mem_cons_self
    have hkk := hk k (Nat.le_refl _) (by simp)
    have estep : fStep (W.map S) ahead behind n k (S p) ways = fw1 (W.map S) (S p) ((J : Int) - 1) := by
      unfold fStep
      rw [List.length_map, hl]
      unfold fw2 fw3
      have c1 : ¬ (k = 0 ∧ ahead = false) := by
        rintro ⟨a, b⟩
        rcases hkk.1 with h | h
        · exact h a
        · rw [h] at b; cases b
      have c2 : ¬ ((k : Int) = (n : Int) - 1 ∧ behind = false) := by
        rintro ⟨a, b⟩
        rcases hkk.2 with h | h
        · exact h a
        · rw [h] at b; cases b
      rw [if_neg c2, if_neg c1]
    rcases one_step hW hp hR with ⟨h1, h2⟩ | ⟨j, hj, hJ, hpre, h1, h2, h3, h4⟩
    · refine .inl ⟨?_, fun rest => ?_⟩
      · rw [List.map_cons, tGo_cons, h1, if_pos (by decide)]
      · rw [List.map_cons, List.cons_append, fGo, estep, h2]
        exact fGo_dead _ _
    · have hsl : st W j + p.length ≤ (nameL W).length := by
        have h5 := st_succ (W := W) hj
        have h6 := hpre.length_le
        have h7 : st W (j + 1) ≤ st W W.length := by
          rcases Nat.lt_or_ge (j + 1) W.length with h | h
          · exact Nat.le_of_lt (st_mono hW h (Nat.le_refl _))
          · have : j + 1 = W.length := by omega
            rw [this]; exact Nat.le_refl _
        rw [st_all] at h7
        omega
      have e1 : tGo (S (nameL W)) ((p :: ps).map pst) (spot : Int) = tGo (S (nameL W)) (ps.map pst) ((st W j + p.length : Nat) : Int) := by
        rw [List.map_cons, tGo_cons, h1, if_neg (by omega)]
        rfl
      have e2 : ∀ rest, fGo (W.map S) ahead behind n ((p :: ps).map S ++ rest) k ways = fGo (W.map S) ahead behind n (ps.map S ++ rest) (k + 1) (fw1 (W.map S) (S p) ((J : Int) - 1)) := fun rest => by
        rw [List.map_cons, List.cons_append, fGo, estep]
      rcases go_mid hW ps (k + 1) _ (st W j + p.length) (j + 1) (fun q hq => hps q (List.mem_cons_of_mem _ hq)) (fun k' h5 h6 => hk k' (by omega) (by rw [List.length_cons]; omega)) h4 (by rw [h3]; omega) hsl with ⟨g1, g2⟩ | ⟨s', J', w', g1, g2, g3, g4, g5, g6⟩
      · exact .inl ⟨e1.trans g1, fun rest => (e2 rest).trans (g2 rest)⟩
      · refine .inr ⟨s', J', w', e1.trans g1, fun rest => ?_, g3, g4, g5, fun _ => g6 (.inr h2)⟩
        rw [e2, g2, List.length_cons, show k + 1 + ps.length = k + (ps.length + 1) by omega]
end Mine
end
section
open PySem PySem.W PyProof.Rows PySem.Builtin PySem.Builtin.Str PySem.StrLaws
namespace Mine
def tailB (name : Str) (mids : List Str) (e1 : Str) (spot : Int) : Bool :=
  match tGo name mids spot with
  | none => false
  | some spot => decide (spot ≤ (name.length : Int) - e1.length) && (Txt.slice name (some ((name.length : Int) - e1.length)) none == e1)
theorem fin_true {W : List (List Nat)} (hW : ∀ w ∈ W, LW w) {ahead : Bool} {n k : Nat} {ps : List (List Nat)} (hne : ps ≠ []) {ways : List Int} {spot J : Nat} (hps : ∀ p ∈ ps, LW p) (hk : k ≠ 0 ∨ ahead = true)
    (hR : Rel W spot J) (hl : leastOf ways (W.length : Int) = (J : Int) - 1) (hs : spot ≤ (nameL W).length) :
    tailB (S (nameL W)) (ps.map pst) (S []) (spot : Int) = !decide (fGo (W.map S) ahead true n (ps.map S) k ways = []) := by
  unfold tailB
  rcases go_mid hW (ahead := ahead) (behind := true) (n := n) ps k ways spot J hps (fun k' h1 h2 => ⟨by rcases hk with h | h; left; omega; exact .inr h, .inr rfl⟩) hR hl hs with ⟨g1, g2⟩ | ⟨s', J', w', g1, g2, g3, g4, g5, g6⟩
  · have := g2 []
    rw [List.append_nil] at this
    rw [g1, this]
    simp
  · have := g2 []
    rw [List.append_nil, fGo] at this
    rw [g1, this]
    have hn := g6 (.inl hne)
    simp only [S_len, List.length_nil]
    rw [show ((nameL W).length : Int) - ((0 : Nat) : Int) = ((nameL W).length : Int) by omega, slice_from _ _ (Nat.le_refl _), List.drop_length, S_beq, decide_eq_true (by omega : (s' : Int) ≤ ((nameL W).length : Int)), decide_eq_false hn]
    rfl
theorem fin_false {W : List (List Nat)} (hW : ∀ w ∈ W, LW w) (hWne : W ≠ []) {ahead : Bool} {n k : Nat} {qs : List (List Nat)} {pl : List Nat} {ways : List Int} {spot J : Nat} (hqs : ∀ p ∈ qs, LW p) (hpl : LW pl) (hk : k ≠ 0 ∨ ahead = true) (hn : k + qs.length + 1 = n) (hkq : k + qs.length ≠ 0)
    (hR : Rel W spot J) (hl : leastOf ways (W.length : Int) = (J : Int) - 1) (hs : spot ≤ (nameL W).length) :
    tailB (S (nameL W)) (qs.map pst) (S (capL pl)) (spot : Int) = !decide (fGo (W.map S) ahead false n (qs.map S ++ [S pl]) k ways = []) := by
  unfold tailB
  rcases go_mid hW (ahead := ahead) (behind := false) (n := n) qs k ways spot J hqs (fun k' h1 h2 => ⟨by rcases hk with h | h; left; omega; exact .inr h, .inl (by omega)⟩) hR hl hs with ⟨g1, g2⟩ | ⟨s', J', w', g1, g2, g3, g4, g5, g6⟩
  · rw [g1, g2 [S pl]]
    simp
  · rw [g1, g2 [S pl], fGo, fGo]
    have hWl : 0 < W.length := List.length_pos_iff.mpr hWne
    have estep : fStep (W.map S) ahead false n (k + qs.length) (S pl) w' = (fw1 (W.map S) (S pl) ((J' : Int) - 1)).filter (fun j => (j == (W.length : Int) - 1) && (wAt (W.map S) j == S pl)) := by
      unfold fStep
      rw [List.length_map, g4]
      unfold fw2 fw3
      rw [if_pos ⟨by omega, rfl⟩, if_neg (fun h => hkq h.1), List.length_map]
    rw [estep]
    have hiff : (fw1 (W.map S) (S pl) ((J' : Int) - 1)).filter (fun j => (j == (W.length : Int) - 1) && (wAt (W.map S) j == S pl)) = [] ↔ ¬ (J' ≤ W.length - 1 ∧ W.getD (W.length - 1) [] = pl) := by
      rw [List.filter_eq_nil_iff]
      constructor
      · rintro h ⟨h1, h2⟩
        refine h ((W.length - 1 : Nat) : Int) (mem_fw1.mpr ⟨W.length - 1, by omega, rfl, by omega, by rw [h2]; exact List.prefix_refl _⟩) ?_
        rw [Bool.and_eq_true, beq_iff_eq, wAt_S, h2]
        exact ⟨by omega, by simp⟩
      · intro h j hj hq
        obtain ⟨m, hm, rfl, h1, h2⟩ := mem_fw1.mp hj
        rw [Bool.and_eq_true, beq_iff_eq, wAt_S, S_beq, beq_iff_eq] at hq
        have : m = W.length - 1 := by omega
        subst this
        exact h ⟨by omega, hq.2⟩
    have hnl := st_all W
    have hsucc := st_succ (W := W) (j := W.length - 1) (by omega)
    rw [show W.length - 1 + 1 = W.length by omega, hnl] at hsucc
    simp only [S_len, capL_len]
    by_cases hlen : pl.length ≤ (nameL W).length
    · rw [show ((nameL W).length : Int) - (pl.length : Int) = (((nameL W).length - pl.length : Nat) : Int) by omega, slice_from _ _ (Nat.sub_le _ _), S_beq]
      have hiff2 : (s' ≤ (nameL W).length - pl.length ∧ (nameL W).drop ((nameL W).length - pl.length) = capL pl) ↔ (J' ≤ W.length - 1 ∧ W.getD (W.length - 1) [] = pl) := by
        constructor
        · rintro ⟨h1, h2⟩
          have hpre : capL pl <+: (nameL W).drop ((nameL W).length - pl.length) := by rw [h2]; exact List.prefix_refl _
          obtain ⟨j, hj, e, hp⟩ := (key hpl W hW _).mp hpre
          have h3 := st_succ (W := W) hj
          have h4 := hp.length_le
          have hjl : j = W.length - 1 := by
            rcases Nat.lt_or_ge (j + 1) W.length with h | h
            · have := st_mono hW h (Nat.le_refl _)
              omega
            · omega
          subst hjl
          refine ⟨(g3 _ hj).mp (by omega), ?_⟩
          exact (hp.eq_of_length (by omega)).symm
        · rintro ⟨h1, h2⟩
          have e : (nameL W).length - pl.length = st W (W.length - 1) := by rw [h2] at hsucc; omega
          refine ⟨by rw [e]; exact (g3 _ (by omega)).mpr h1, ?_⟩
          have hpre := (key hpl W hW (st W (W.length - 1))).mpr ⟨W.length - 1, by omega, rfl, by rw [h2]; exact List.prefix_refl _⟩
          rw [e]
          refine (hpre.eq_of_length ?_).symm
          rw [List.length_drop, capL_len]
          omega
      rw [Bool.eq_iff_iff, Bool.and_eq_true, decide_eq_true_eq, beq_iff_eq, Bool.not_eq_true', decide_eq_false_iff_not, hiff, Classical.not_not, ← hiff2]
      constructor
      · rintro ⟨a, b⟩; exact ⟨by omega, b⟩
      · rintro ⟨a, b⟩; exact ⟨by omega, b⟩
    · have h1 : decide ((s' : Int) ≤ ((nameL W).length : Int) - (pl.length : Int)) = false := decide_eq_false (by omega)
      rw [h1, Bool.false_and]
      have h2 : ¬ (J' ≤ W.length - 1 ∧ W.getD (W.length - 1) [] = pl) := by
        rintro ⟨_, h⟩
        rw [h] at hsucc
        omega
      rw [decide_eq_true (hiff.mpr h2)]
      rfl
theorem rel0 (W : List (List Nat)) : Rel W 0 0 := fun j _ => ⟨fun _ => Nat.zero_le _, fun _ => Nat.zero_le _⟩
theorem least0 (n : Nat) : leastOf [-1] (n : Int) = ((0 : Nat) : Int) - 1 := by
  show min (-1 : Int) (n : Int) = _
  omega
theorem takesB_tail {name front e1 : Str} {mids : List Str} (h : Txt.slice name none (some (front.length : Int)) = front) : takesB name front mids e1 = tailB name mids e1 (front.length : Int) := by
  unfold takesB tailB
  rw [h, if_neg (by simp)]
  all_goals rfl
theorem mids_map (l : List (List Nat)) : (l.map capL).map (fun q => S (q ++ [41])) = l.map pst := by rw [List.map_map]; rfl
/-- with a star ahead -/
theorem tf_ahead {W SL : List (List Nat)} (hW : ∀ w ∈ W, LW w) (hWne : W ≠ []) (hS : ∀ p ∈ SL, LW p) (h2 : 2 ≤ SL.length) (behind : Bool) :
    takesB (S (nameL W)) (S []) ((qsOf behind (SL.map capL)).map fun q => S (q ++ [41])) (S (e1Of behind (SL.map capL))) = foundB (SL.map S) (W.map S) true behind := by
  have h0 : Txt.slice (S (nameL W)) none (some ((S []).length : Int)) = S [] := (slice_to _ 0).trans (by simp)
  rw [takesB_tail h0]
  unfold foundB
  rw [List.length_map]
  cases behind with
  | true =>
    have := fin_true hW (ahead := true) (n := SL.length) (k := 0) (ps := SL) (ways := [-1]) (spot := 0) (J := 0) (by intro e; rw [e] at h2; simp at h2) hS (.inr rfl) (rel0 W) (least0 _) (Nat.zero_le _)
    simp only [qsOf, e1Of, if_true, mids_map]
    exact this
  | false =>
    obtain ⟨qs, pl, rfl⟩ : ∃ qs pl, SL = qs ++ [pl] := ⟨SL.dropLast, SL.getLast (by intro e; rw [e] at h2; simp at h2), (List.dropLast_concat_getLast _).symm⟩
    have := fin_false hW hWne (ahead := true) (n := (qs ++ [pl]).length) (k := 0) (qs := qs) (pl := pl) (ways := [-1]) (spot := 0) (J := 0) (fun p hp => hS p (List.mem_append_left _ hp)) (hS pl (by simp)) (.inr rfl) (by simp) (by simp at h2; omega) (rel0 W) (least0 _) (Nat.zero_le _)
    have e1 : qsOf false ((qs ++ [pl]).map capL) = qs.map capL := by simp [qsOf]
    have e2 : e1Of false ((qs ++ [pl]).map capL) = capL pl := by simp [e1Of]
    rw [e1, e2, mids_map, List.map_append]
    exact this
/-- with none ahead -/
theorem tf_none {W SL : List (List Nat)} {p0 : List Nat} (hW : ∀ w ∈ W, LW w) (hWne : W ≠ []) (hp0 : LW p0) (hS : ∀ p ∈ SL, LW p) (h2 : 1 ≤ SL.length) (behind : Bool) :
    takesB (S (nameL W)) (S (capL p0)) ((qsOf behind (SL.map capL)).map fun q => S (q ++ [41])) (S (e1Of behind (SL.map capL))) = foundB ((p0 :: SL).map S) (W.map S) false behind := by
  have hWl : 0 < W.length := List.length_pos_iff.mpr hWne
  have st0 : st W 0 = 0 := by simp [st, nameL]
  have hstep : fStep (W.map S) false behind (SL.length + 1) 0 (S p0) [-1] = (fw1 (W.map S) (S p0) (((0 : Nat) : Int) - 1)).filter (fun j => j == 0) := by
    unfold fStep
    rw [List.length_map, least0]
    unfold fw2 fw3
    rw [if_neg (by rintro ⟨a, _⟩; omega), if_pos ⟨rfl, rfl⟩]
  have hfound : foundB ((p0 :: SL).map S) (W.map S) false behind = !decide (fGo (W.map S) false behind (SL.length + 1) (SL.map S) 1 ((fw1 (W.map S) (S p0) (((0 : Nat) : Int) - 1)).filter (fun j => j == 0)) = []) := by
    unfold foundB
    rw [List.length_map, List.length_cons, List.map_cons, fGo, hstep]
  have hpre : capL p0 <+: nameL W ↔ p0 <+: W.getD 0 [] := by
    have := key hp0 W hW 0
    rw [List.drop_zero] at this
    rw [this]
    constructor
    · rintro ⟨j, hj, e, h⟩
      cases j with
      | zero => exact h
      | succ j => have := st_mono hW (i := 0) (j := j + 1) (by omega) (by omega); omega
    · intro h; exact ⟨0, hWl, st0.symm, h⟩
  have hslice : Txt.slice (S (nameL W)) none (some ((S (capL p0)).length : Int)) = S ((nameL W).take (capL p0).length) := by rw [S_len]; exact slice_to _ _
  by_cases hp : p0 <+: W.getD 0 []
  · have e0 : Txt.slice (S (nameL W)) none (some ((S (capL p0)).length : Int)) = S (capL p0) := by
      rw [hslice, ← List.prefix_iff_eq_take.mp (hpre.mpr hp)]
    have hw2 : (fw1 (W.map S) (S p0) (((0 : Nat) : Int) - 1)).filter (fun j => j == 0) ≠ [] ∧ leastOf ((fw1 (W.map S) (S p0) (((0 : Nat) : Int) - 1)).filter (fun j => j == 0)) (W.length : Int) = ((1 : Nat) : Int) - 1 := by
      have hm : (0 : Int) ∈ (fw1 (W.map S) (S p0) (((0 : Nat) : Int) - 1)).filter (fun j => j == 0) := List.mem_filter.mpr ⟨mem_fw1.mpr ⟨0, hWl, rfl, by omega, hp⟩, by simp⟩
      refine ⟨fun h => by (rw [h] at hm; cases hm), ?_⟩
      refine least_is hm (fun a ha => ?_) (by omega)
      have := (List.mem_filter.mp ha).2
      rw [beq_iff_eq] at this
      omega
    have h1 : st W 1 = st W 0 + (W.getD 0 []).length := st_succ (W := W) (j := 0) hWl
    rw [st0] at h1
    have h3 := hp.length_le
    have hpl : 0 < p0.length := List.length_pos_iff.mpr hp0.1
    have hR : Rel W p0.length 1 := fun j hj => by
      constructor
      · intro h
        rcases Nat.eq_zero_or_pos j with rfl | h'
        · rw [st0] at h; omega
        · exact h'
      · intro h
        have : st W 1 ≤ st W j := by
          rcases Nat.lt_or_ge 1 j with h' | h'
          · exact Nat.le_of_lt (st_mono hW h' (by omega))
          · have : j = 1 := by omega
            rw [this]; exact Nat.le_refl _
        omega
    have hsl : p0.length ≤ (nameL W).length := by
      have := (hpre.mpr hp).length_le
      rw [capL_len] at this
      exact this
    rw [takesB_tail e0, hfound, S_len, capL_len]
    cases behind with
    | true =>
      have := fin_true hW (ahead := false) (n := SL.length + 1) (k := 1) (ps := SL) (spot := p0.length) (J := 1) (by intro e; rw [e] at h2; simp at h2) hS (.inl (by decide)) hR hw2.2 hsl
      simp only [qsOf, e1Of, if_true, mids_map]
      exact this
    | false =>
      obtain ⟨qs, pl, rfl⟩ : ∃ qs pl, SL = qs ++ [pl] := ⟨SL.dropLast, SL.getLast (by intro e; rw [e] at h2; simp at h2), (List.dropLast_concat_getLast _).symm⟩
      have := fin_false hW hWne (ahead := false) (n := (qs ++ [pl]).length + 1) (k := 1) (qs := qs) (pl := pl) (spot := p0.length) (J := 1) (fun p hp => hS p (List.mem_append_left _ hp)) (hS pl (by simp)) (.inl (by decide)) (by simp; omega) (by omega) hR hw2.2 hsl
      have e1 : qsOf false ((qs ++ [pl]).map capL) = qs.map capL := by simp [qsOf]
      have e2 : e1Of false ((qs ++ [pl]).map capL) = capL pl := by simp [e1Of]
      rw [e1, e2, mids_map, List.map_append]
      exact this
  · have hne : (Txt.slice (S (nameL W)) none (some ((S (capL p0)).length : Int)) != S (capL p0)) = true := by
      rw [hslice, bne_iff_ne]
      intro h
      exact hp (hpre.mp (by rw [List.prefix_iff_eq_take]; exact (S_inj h).symm))
    have hw2 : (fw1 (W.map S) (S p0) (((0 : Nat) : Int) - 1)).filter (fun j => j == 0) = [] := by
      rw [List.filter_eq_nil_iff]
      intro j hj hq
      obtain ⟨m, hm, rfl, _, h⟩ := mem_fw1.mp hj
      rw [beq_iff_eq] at hq
      have : m = 0 := by omega
      subst this
      exact hp h
    rw [hfound, hw2, fGo_dead]
    unfold takesB
    rw [if_pos hne]
    rfl
end Mine
end
section
open PySem PySem.W PyProof.Rows
namespace Mine
theorem lfold_len : ∀ (ns : List Int) (σ : Str × List Str), (ns.foldl lstep σ).1.length ≤ σ.1.length + 4 * ns.length
  | [], σ => by simp
  | x :: ns, σ => by
    have ih := lfold_len ns (lstep σ x)
    have h : (lstep σ x).1.length ≤ σ.1.length + 4 := by
      obtain ⟨l, ws⟩ := σ
      have h1 : (if capOf x then greatOf x else smallOf x).length = 1 := by cases capOf x; exact small_len x; exact great_len x
      have h2 := ws_len x
      cases k1 : ([4, 5].any fun y => y == x.fmod 8) with
      | true => rw [lstep_same k1]; omega
      | false =>
        cases k2 : ([0, 2, 6].any fun y => y == x.fmod 8) with
        | true => rw [lstep_begin k1 k2]; simp only [Str.length_append, h1]; omega
        | false => rw [lstep_add k1 k2]; simp only [Str.length_append, h1]; omega
    rw [List.foldl_cons, List.length_cons]
    omega
theorem rfold_len : ∀ (ns : List Int) (σ : Str × List Str), (ns.foldl rstep σ).1.length ≤ σ.1.length + 4 * ns.length
  | [], σ => by simp
  | x :: ns, σ => by
    have ih := rfold_len ns (rstep σ x)
    have h : (rstep σ x).1.length ≤ σ.1.length + 4 := by
      obtain ⟨l, ws⟩ := σ
      have h1 : (if capOf x then smallOf x else greatOf x).length = 1 := by cases capOf x; exact great_len x; exact small_len x
      have h2 : (Str.ofString " ").length = 1 := by decide +kernel
      cases k1 : ([2, 3].any fun y => y == x.fmod 8) with
      | true => rw [rstep_same k1]; omega
      | false =>
        cases k2 : ([0, 4, 6].any fun y => y == x.fmod 8) with
        | true => rw [rstep_begin k1 k2]; simp only [Str.length_append, h1, h2]; omega
        | false => rw [rstep_add k1 k2]; simp only [Str.length_append, h1]; omega
    rw [List.foldl_cons, List.length_cons]
    omega
theorem flat_len {bs : List (List Nat × List Nat)} (h : ∀ b ∈ bs, Good b) : bs.length + (bs.map fun b => b.2.length).sum ≤ (flat bs).length := by
  induction bs with
  | nil => simp
  | cons b bs ih =>
    have h1 := ih fun c hc => h c (List.mem_cons_of_mem _ hc)
    have h2 : 0 < b.1.length := List.length_pos_iff.mpr (h b List.mem_cons_self).1
    have e : flat (b :: bs) = b.1 ++ (b.2 ++ flat bs) := by simp [flat]
    rw [e]
    simp only [List.length_cons, List.map_cons, List.sum_cons, List.length_append]
    omega
theorem sum_mem : ∀ {bs : List (List Nat × List Nat)} {b : List Nat × List Nat}, b ∈ bs → b.2.length ≤ (bs.map fun b => b.2.length).sum
  | c :: bs, b, h => by
    rw [List.map_cons, List.sum_cons]
    rcases List.mem_cons.mp h with rfl | h
    · exact Nat.le_add_right _ _
    · exact Nat.le_trans (sum_mem h) (Nat.le_add_left _ _)
/-- the words, as the searches take them -/
def lowB (bs : List (List Nat × List Nat)) : List (List Nat) := bs.map fun b => lows b.2
theorem lowB_lw {bs : List (List Nat × List Nat)} (h : ∀ b ∈ bs, Good b) : ∀ w ∈ lowB bs, LW w := by
  intro w hw
  obtain ⟨b, hb, rfl⟩ := List.mem_map.mp hw
  obtain ⟨_, _, h3, h4⟩ := h b hb
  refine ⟨by simpa [lows] using h3, fun c hc => ?_⟩
  obtain ⟨d, hd, rfl⟩ := List.mem_map.mp hc
  exact (h4 d hd).lo
theorem wordsB_eq (bs : List (List Nat × List Nat)) : wordsB bs = (lowB bs).map S := by unfold wordsB lowB; rw [List.map_map]; rfl
theorem caps_eq {bs : List (List Nat × List Nat)} (h : ∀ b ∈ bs, Good b) : (bs.map fun b => capL b.2) = (lowB bs).map capL := by
  unfold lowB
  rw [List.map_map]
  exact List.map_congr_left fun b hb => (capL_lows (h b hb).2.2.2).symm
/-- the one great letter, the rest as it is -/
def headUp (x : Str) : Str := S (capL (cs x))
theorem name_words {bs : List (List Nat × List Nat)} (h : ∀ b ∈ bs, Good b) : Str.join ⟨#[]⟩ ((wordsB bs).map headUp) = S (nameL (lowB bs)) := by
  rw [wordsB_eq, List.map_map, show (headUp ∘ S) = (S ∘ capL) from rfl, ← List.map_map, show (⟨#[]⟩ : Str) = S [] from rfl, join_S, joinL_nil]
  rfl
theorem item0 (d : Nat) (r : List Nat) : Txt.item (S (d :: r)) 0 = S [d] := by
  unfold Txt.item Txt.charAt
  rw [StrLaws.at_nonneg (x := S (d :: r)) (i := 0) (n := d) (by decide) (by simp)]
  rfl
theorem tail1 (d : Nat) (r : List Nat) : Txt.slice (S (d :: r)) (some 1) none = S r := (slice_from (d :: r) 1 (by simp)).trans rfl
def CapRel (v y : Value) : Prop := ∀ (x : Str) (t : Tok), v = Value.str x t → ∃ t', y = Value.str (headUp x) t'
theorem ab_index (c : Nat) (h : c = 97 ∨ c = 98) : ∃ i : Nat, i < 2 ∧ PySem.Builtin.Str.occurrences (Str.ofString "ab") (S [c]) 0 (Str.ofString "ab").length 1 = [i] ∧ Txt.item (Str.ofString "AB") (i : Int) = S [c - 32] := by
  rcases h with rfl | rfl
  · exact ⟨0, by decide, by decide +kernel, by decide +kernel⟩
  · exact ⟨1, by decide, by decide +kernel, by decide +kernel⟩
theorem capRel_of {c : Nat} {r : List Nat} {t t' : Tok} {y z : Str} (h : c = 97 ∨ c = 98) (hr : ∀ d ∈ r, d = 97 ∨ d = 98) (hy : y = S [c - 32]) (hz : z = S r) : CapRel (.str (S (c :: r)) t) (.str (y ++ z) t') := by
  intro x u e
  cases e
  refine ⟨t', ?_⟩
  rw [hy, hz, S_app]
  congr 1
  show S _ = S (capL (c :: r))
  refine congrArg S ?_
  show (c - 32) :: r = upA c :: lows r
  rw [low_id hr]
  rcases h with rfl | rfl <;> rfl
theorem caps_sum {bs : List (List Nat × List Nat)} : (((wordsB bs).map headUp).map (·.length)).sum = (bs.map fun b => b.2.length).sum := by
  unfold wordsB
  rw [List.map_map, List.map_map]
  congr 1
  refine List.map_congr_left fun b _ => ?_
  show (S (capL (lows b.2))).length = _
  rw [S_len, capL_len]
  simp [lows]
end Mine
end
section
open PySem PySem.W PyProof.Rows PySem.Builtin PySem.Builtin.Str PySem.StrLaws
namespace Mine
def preL (ahead : Bool) (C : List (List Nat)) : List (List Nat) := if ahead then [] else C.take 1
def restL (ahead : Bool) (C : List (List Nat)) : List (List Nat) := if ahead then C else C.tail
def TT (ahead behind : Bool) (C : List (List Nat)) : Str := S (txt (preL ahead C).flatten behind (restL ahead C))
theorem row_shape (st : Value) (ahead behind : Bool) {vs : List Value} (hne : vs ≠ []) :
    rowV st ahead behind vs = (if ahead then [] else vs.take 1) ++ ((if ahead then vs else vs.tail).flatMap fun v => [st, v]) ++ (if behind then [st] else []) := by
  cases vs with
  | nil => exact absurd rfl hne
  | cons v r => cases ahead <;> simp [rowV, inter]
theorem strs_take1 {vs : List Value} {ss : List Str} (h : StrsAre vs ss) : StrsAre (vs.take 1) (ss.take 1) := by
  cases h with
  | nil => exact .nil
  | cons y t r => exact .cons y t .nil
theorem strs_tail {vs : List Value} {ss : List Str} (h : StrsAre vs ss) : StrsAre vs.tail ss.tail := by
  cases h with
  | nil => exact .nil
  | cons y t r => exact r
theorem pre_strs {vs : List Value} {C : List (List Nat)} (h : StrsAre vs (C.map S)) (ahead : Bool) : StrsAre (if ahead then [] else vs.take 1) ((preL ahead C).map S) := by
  cases ahead
  · simpa [preL, List.map_take] using strs_take1 h
  · exact .nil
theorem rest_strs {vs : List Value} {C : List (List Nat)} (h : StrsAre vs (C.map S)) (ahead : Bool) : StrsAre (if ahead then vs else vs.tail) ((restL ahead C).map S) := by
  cases ahead
  · have := strs_tail h
    rw [← List.map_tail] at this
    simpa [restL] using this
  · simpa [restL] using h
theorem len_flatten (l : List (List Nat)) : ((l.map S).map (·.length)).sum = l.flatten.length := by
  rw [List.map_map, List.length_flatten]
  congr 1
theorem flatMap_grp_len (l : List (List Nat)) : (l.flatMap grp).length = l.flatten.length + 7 * l.length := by
  induction l with
  | nil => rfl
  | cons q l ih =>
    rw [List.flatMap_cons, List.length_append, ih]
    simp [grp]
    omega
theorem mem_flat_len {l : List (List Nat)} {q : List Nat} (h : q ∈ l) : q.length ≤ l.flatten.length := by
  induction l with
  | nil => cases h
  | cons a l ih =>
    rw [List.flatten_cons, List.length_append]
    rcases List.mem_cons.mp h with rfl | h
    · exact Nat.le_add_right _ _
    · exact Nat.le_trans (ih h) (Nat.le_add_left _ _)
/-- a text's sizes -/
theorem res_len (behind : Bool) (r : List Nat) (rs : List (List Nat)) : ((resL behind (r :: rs)).flatten).length ≤ 2 * (r :: rs).flatten.length + 7 * (r :: rs).length + 2 := by
  rw [res_flat, List.length_append, List.length_append, flatMap_grp_len]
  have h1 : (qsOf behind (r :: rs)).flatten.length ≤ (r :: rs).flatten.length ∧ (qsOf behind (r :: rs)).length ≤ (r :: rs).length := by
    unfold qsOf
    cases behind
    · simp only [Bool.false_eq_true, if_false]
      refine ⟨?_, by simp⟩
      have e := List.dropLast_concat_getLast (l := r :: rs) (by simp)
      have e2 : (r :: rs).flatten.length = (r :: rs).dropLast.flatten.length + ((r :: rs).getLast (by simp)).length := by
        conv => lhs; rw [← e]
        simp
      omega
    · simp
  have h2 : (e1Of behind (r :: rs)).length ≤ (r :: rs).flatten.length := by
    unfold e1Of
    cases behind
    · simp only [Bool.false_eq_true, if_false]
      rw [List.getLastD_eq_getLast?, List.getLast?_eq_some_getLast (by simp)]
      exact mem_flat_len (List.getLast_mem (by simp))
    · simp
  simp only [List.length_cons, List.length_nil]
  have := h1.1
  have := h1.2
  simp only [List.length_cons] at this
  omega
/-- all that the reading of one text asks -/
theorem pack {W SL : List (List Nat)} (hW : ∀ w ∈ W, LW w) (hWne : W ≠ []) (hS : ∀ p ∈ SL, LW p) (h2 : 2 ≤ SL.length) (hz : SL.flatten.length + SL.length ≤ 200) (ahead behind : Bool) :
    ∃ (ini mids : List Str) (last e0 e1 front : Str), (TT ahead behind (SL.map capL)).length ≤ 10000 ∧ last.length ≤ 10000 ∧ ini.length ≤ 10000 ∧ front.length ≤ 10000 ∧ (∀ p ∈ mids, p.length ≤ 10000) ∧ e1.length ≤ 10000 ∧
      Txt.slice (TT ahead behind (SL.map capL)) none (some 4) = Str.ofString "(?s:" ∧ Txt.slice (TT ahead behind (SL.map capL)) (some (-3)) none = Str.ofString ")\\Z" ∧
      Txt.split (Txt.slice (TT ahead behind (SL.map capL)) (some 4) (some (-3))) (Str.ofString "(?>.*?") = ini ++ [last] ∧ Txt.split last (Str.ofString ".*") = [e0, e1] ∧ ini ++ [e0] = front :: mids ∧
      (∀ p ∈ mids, Txt.slice p (some (-1)) none = Str.ofString ")") ∧ takesB (S (nameL W)) front mids e1 = foundB (SL.map S) (W.map S) ahead behind := by
  obtain ⟨p0, SL', rfl⟩ : ∃ p0 SL', SL = p0 :: SL' := by
    cases SL with
    | nil => simp at h2
    | cons a b => exact ⟨a, b, rfl⟩
  obtain ⟨p1, SL'', rfl⟩ : ∃ p1 SL'', SL' = p1 :: SL'' := by
    cases SL' with
    | nil => simp at h2
    | cons a b => exact ⟨a, b, rfl⟩
  have hab : ∀ q ∈ (p0 :: p1 :: SL'').map capL, ∀ c ∈ q, AB c := by
    intro q hq
    obtain ⟨p, hp, rfl⟩ := List.mem_map.mp hq
    refine mem_capL fun c hc => ?_
    rcases (hS p hp).2 c hc with rfl | rfl <;> simp [AB]
  have hcf : ∀ l : List (List Nat), (l.map capL).flatten.length = l.flatten.length := by
    intro l
    rw [List.length_flatten, List.length_flatten, List.map_map]
    congr 1
    exact List.map_congr_left fun q _ => capL_len q
  have hrest : ∃ r rs, restL ahead ((p0 :: p1 :: SL'').map capL) = r :: rs ∧ (r :: rs).flatten.length ≤ 200 ∧ (r :: rs).length ≤ 200 ∧ ∀ q ∈ r :: rs, ∀ c ∈ q, AB c := by
    cases ahead
    · refine ⟨capL p1, SL''.map capL, by simp [restL], ?_, ?_, fun q hq => hab q (List.mem_cons_of_mem _ hq)⟩
      · have := hcf (p1 :: SL'')
        rw [List.map_cons] at this
        rw [this]
        simp only [List.flatten_cons, List.length_append, List.length_cons] at hz ⊢
        omega
      · simp only [List.length_cons, List.length_map] at hz ⊢
        omega
    · refine ⟨capL p0, (p1 :: SL'').map capL, by simp [restL], ?_, ?_, hab⟩
      · have := hcf (p0 :: p1 :: SL'')
        rw [List.map_cons] at this
        rw [this]
        omega
      · simp only [List.length_cons, List.length_map] at hz ⊢
        omega
  have hpre : (∀ c ∈ (preL ahead ((p0 :: p1 :: SL'').map capL)).flatten, AB c) ∧ ((preL ahead ((p0 :: p1 :: SL'').map capL)).flatten).length ≤ 200 := by
    cases ahead
    · refine ⟨fun c hc => hab (capL p0) (by simp) c (by simpa [preL] using hc), ?_⟩
      simp [preL, capL_len] at hz ⊢
      omega
    · exact ⟨fun c hc => by simp [preL] at hc, by simp [preL]⟩
  obtain ⟨r, rs, er, hrl, hrc, hrab⟩ := hrest
  obtain ⟨t1, t2, ini, e0, h1, h4, h5⟩ := text_facts (preL ahead ((p0 :: p1 :: SL'').map capL)).flatten behind r rs hpre.1 hrab
  have htl : (TT ahead behind ((p0 :: p1 :: SL'').map capL)).length ≤ 3000 := by
    unfold TT
    rw [er, S_len]
    unfold txt
    have := res_len behind r rs
    have := hpre.2
    simp only [List.length_append, List.length_cons, List.length_nil] at *
    omega
  have e1 : TT ahead behind ((p0 :: p1 :: SL'').map capL) = S (txt (preL ahead ((p0 :: p1 :: SL'').map capL)).flatten behind (r :: rs)) := by unfold TT; rw [er]
  have hlast : (S (e0 ++ [46, 42] ++ e1Of behind (r :: rs))).length ≤ 10000 := by
    have hm : S (e0 ++ [46, 42] ++ e1Of behind (r :: rs)) ∈ Txt.split (Txt.slice (TT ahead behind ((p0 :: p1 :: SL'').map capL)) (some 4) (some (-3))) (Str.ofString "(?>.*?") := by
      rw [e1, h4]
      simp
    have h6 := part_short hm
    have h7 := Txt.slice_le (TT ahead behind ((p0 :: p1 :: SL'').map capL)) (some 4) (some (-3))
    omega
  have hqs : ∀ q ∈ qsOf behind (r :: rs), q.length ≤ 200 := fun q hq => by
    have hq' : q ∈ r :: rs := by
      unfold qsOf at hq
      cases behind
      · exact (List.dropLast_sublist _).subset (by simpa using hq)
      · simpa using hq
    exact Nat.le_trans (mem_flat_len hq') hrl
  have hinil : ini.length ≤ 10000 := by
    have h6 := congrArg List.length h1
    simp only [List.length_append, List.length_cons, List.length_nil, List.length_map] at h6
    have h7 : (qsOf behind (r :: rs)).length ≤ (r :: rs).length := by
      unfold qsOf
      cases behind <;> simp
    omega
  refine ⟨ini.map S, (qsOf behind (r :: rs)).map (fun q => S (q ++ [41])), _, S e0, S (e1Of behind (r :: rs)), S (preL ahead ((p0 :: p1 :: SL'').map capL)).flatten, by omega, hlast, by simpa using hinil, by rw [S_len]; have := hpre.2; omega, ?_, ?_, by rw [e1]; exact t1, by rw [e1]; exact t2, by rw [e1]; exact h4, h5, ?_, ?_, ?_⟩
  · intro p hp
    obtain ⟨q, hq, rfl⟩ := List.mem_map.mp hp
    rw [S_len, List.length_append]
    have := hqs q hq
    simp only [List.length_cons, List.length_nil]
    omega
  · rw [S_len] at hlast
    rw [S_len]
    simp only [List.length_append, List.length_cons, List.length_nil] at hlast
    omega
  · have h6 := congrArg (List.map S) h1
    simpa [Function.comp_def] using h6
  · intro p hp
    obtain ⟨q, hq, rfl⟩ := List.mem_map.mp hp
    rw [slice_last, par_eq]
  · cases ahead
    · have h6 := tf_none (SL := p1 :: SL'') hW hWne (hS p0 (by simp)) (fun p hp => hS p (List.mem_cons_of_mem _ hp)) (by simp) behind
      have e2 : restL false ((p0 :: p1 :: SL'').map capL) = (p1 :: SL'').map capL := by simp [restL]
      have e3 : (preL false ((p0 :: p1 :: SL'').map capL)).flatten = capL p0 := by simp [preL]
      rw [e2] at er
      rw [← er, e3]
      exact h6
    · have h6 := tf_ahead hW hWne hS h2 behind
      have e2 : restL true ((p0 :: p1 :: SL'').map capL) = (p0 :: p1 :: SL'').map capL := by simp [restL]
      have e3 : (preL true ((p0 :: p1 :: SL'').map capL)).flatten = [] := by simp [preL]
      rw [e2] at er
      rw [← er, e3]
      exact h6
theorem lowB_flat {bs : List (List Nat × List Nat)} (h : ∀ b ∈ bs, Good b) : (lowB bs).flatten.length + (lowB bs).length ≤ (flat bs).length := by
  have h1 := flat_len h
  have h2 : (lowB bs).flatten.length = (bs.map fun b => b.2.length).sum := by
    unfold lowB
    rw [List.length_flatten, List.map_map]
    congr 1
    exact List.map_congr_left fun b _ => by simp [lows]
  have h3 : (lowB bs).length = bs.length := by simp [lowB]
  omega
/-- what _join_translated_parts' contract asks of the row -/
theorem join_ready {st : Value} {vs : List Value} {C : List (List Nat)} (hv : StrsAre vs (C.map S)) (h2 : 2 ≤ C.length) (hz : C.flatten.length + C.length ≤ 200) (ahead behind : Bool) :
    (rowV st ahead behind vs).length < 1000 ∧ (if ahead then vs else vs.tail) ≠ [] ∧ (∀ r ∈ (restL ahead C).map S, r.length ≤ 1000) ∧ (((preL ahead C).map S ++ resOf behind ((restL ahead C).map S)).map (·.length)).sum ≤ 1000000 := by
  have hl := hv.length
  rw [List.length_map] at hl
  have hne : vs ≠ [] := by intro e; rw [e] at hl; simp at hl; omega
  have hsub : ∀ q ∈ restL ahead C, q ∈ C := by
    intro q hq
    cases ahead
    · exact List.mem_of_mem_tail (by simpa [restL] using hq)
    · simpa [restL] using hq
  refine ⟨?_, ?_, ?_, ?_⟩
  · unfold rowV
    have := inter_length st vs
    rw [List.length_append, List.length_append]
    have a1 : (if ahead = true then [st] else []).length ≤ 1 := by cases ahead <;> simp
    have a2 : (if behind = true then [st] else []).length ≤ 1 := by cases behind <;> simp
    omega
  · cases ahead
    · intro e
      have := congrArg List.length e
      simp at this
      omega
    · exact hne
  · intro r hr
    obtain ⟨q, hq, rfl⟩ := List.mem_map.mp hr
    rw [S_len]
    have := mem_flat_len (hsub q hq)
    omega
  · rw [res_S, ← List.map_append, len_flatten, List.flatten_append, List.length_append]
    have h1 : (preL ahead C).flatten.length ≤ C.flatten.length := by
      cases ahead
      · cases C with
        | nil => simp [preL]
        | cons a b => simp [preL]
      · simp [preL]
    obtain ⟨r, rs, e⟩ : ∃ r rs, restL ahead C = r :: rs := by
      match C, h2 with
      | a :: b :: c, _ => cases ahead <;> simp [restL]
    have h3 : (r :: rs).flatten.length ≤ C.flatten.length ∧ (r :: rs).length ≤ C.length := by
      rw [← e]
      cases ahead
      · cases C with
        | nil => simp [restL]
        | cons a b => simp [restL]
      · simp [restL]
    have h4 := res_len behind r rs
    rw [e]
    omega
theorem strs_ne {vs : List Value} {ss : List Str} (h : StrsAre vs ss) (hl : 2 ≤ ss.length) : vs ≠ [] := by
  intro e
  have := h.length
  rw [e] at this
  simp at this
  omega
theorem bools_at {i : Nat} {v : Value} (h : [Value.bool false, Value.bool true][i]? = some v) : i < 2 ∧ v = .bool (decide (i = 1)) := by
  match i, h with
  | 0, h => cases h; exact ⟨by decide, rfl⟩
  | 1, h => cases h; exact ⟨by decide, rfl⟩
end Mine
end
section
open PySem PySem.W PyProof.Rows PySem.Builtin PySem.Builtin.Str PySem.StrLaws
namespace Mine
theorem lastApp_len (t : List Nat) : ∀ (qs : List (List Nat)) (cur : List Nat), (lastApp t cur qs).length = qs.length + 1 ∧ ((lastApp t cur qs).map List.length).sum = cur.length + qs.flatten.length + qs.length + t.length
  | [], cur => by simp [lastApp]
  | q :: qs, cur => by
    have ih := lastApp_len t qs (q ++ [41])
    have e2 : (q :: qs).flatten.length = q.length + qs.flatten.length := by rw [List.flatten_cons, List.length_append]
    have e3 : (q ++ [41]).length = q.length + 1 := by simp
    constructor
    · show (lastApp t (q ++ [41]) qs).length + 1 = qs.length + 1 + 1
      rw [ih.1]
    · show cur.length + ((lastApp t (q ++ [41]) qs).map List.length).sum = cur.length + (q :: qs).flatten.length + (qs.length + 1) + t.length
      rw [ih.2, e2, e3]
      omega
theorem raw_pack {rs : List (List Nat × List Nat)} (hgr : ∀ b ∈ rs, Good b ∧ b.1 = [32]) (hr2 : 2 ≤ rs.length) (hz : (rs.map fun b => b.2).flatten.length + (rs.map fun b => b.2).length ≤ 200) :
    ∃ ys : List Str, (S (txt (preL true (rs.map fun b => b.2)).flatten true (restL true (rs.map fun b => b.2)))).length ≤ 10000 ∧ Txt.split (S (txt (preL true (rs.map fun b => b.2)).flatten true (restL true (rs.map fun b => b.2)))) (Str.ofString "(?>.*?") = ys ∧
      (ys.map (·.length)).sum ≤ 100000 ∧ ys.length ≤ 100000 ∧ (TT true true ((lowB rs).map capL)).length ≤ 10000 ∧
      Str.join (Str.ofString "(?>.*?") (ys.map Txt.capitalize) = Txt.slice (TT true true ((lowB rs).map capL)) none (some (-1)) ++ Str.ofString "z" := by
  have hq : ∀ z ∈ rs.map (fun b => b.2), z ≠ [] ∧ ∀ c ∈ z, AB c := by
    intro z hzm
    obtain ⟨b, hb, rfl⟩ := List.mem_map.mp hzm
    obtain ⟨⟨_, _, h3, h4⟩, _⟩ := hgr b hb
    exact ⟨h3, h4⟩
  have ec : (lowB rs).map capL = (rs.map fun b => b.2).map capL := by
    rw [← caps_eq fun b hb => (hgr b hb).1, List.map_map]
    rfl
  rw [ec]
  have hl : 2 ≤ (rs.map fun b => b.2).length := by rw [List.length_map]; exact hr2
  generalize rs.map (fun b => b.2) = C at hq hz hl
  cases C with
  | nil => simp at hl
  | cons q qs =>
    have h1 := raw_final hq
    have hll := lastApp_len [46, 42, 41, 92, 90] (q :: qs) [40, 63, 115, 58]
    have hlen : ∀ r rs', (S (txt [] true (r :: rs'))).length ≤ 2 * (r :: rs').flatten.length + 7 * (r :: rs').length + 20 := by
      intro r rs'
      rw [S_len]
      unfold txt
      have := res_len true r rs'
      simp only [List.length_append, List.length_cons, List.length_nil] at *
      omega
    have hA := hlen q qs
    have hcf : ((q :: qs).map capL).flatten.length = (q :: qs).flatten.length := by
      rw [List.length_flatten, List.length_flatten, List.map_map]
      congr 1
      exact List.map_congr_left fun q _ => capL_len q
    have hB := hlen (capL q) (qs.map capL)
    rw [← List.map_cons, hcf, List.length_map] at hB
    refine ⟨_, ?_, h1.1, ?_, ?_, ?_, h1.2⟩
    · show (S (txt [] true (q :: qs))).length ≤ _
      omega
    · rw [List.map_map, show ((fun x : Str => x.length) ∘ S) = List.length from funext fun l => S_len l, hll.2]
      simp only [List.length_cons, List.length_nil] at *
      omega
    · rw [List.length_map, hll.1]
      omega
    · show (S (txt [] true ((q :: qs).map capL))).length ≤ _
      omega
end Mine
end
section
open PySem PySem.W PyProof.Rows PySem.Calls PySem.Spec
namespace Mine
/-! the law's own text, by its places -/
def inB : Stmt → List Stmt
  | .FunctionDef _ _ b _ _ _ _ _ _ _ => b
  | .For _ _ b _ _ => b
  | _ => []
def inS : Stmt → Scope
  | .FunctionDef _ _ _ _ _ _ s _ _ _ => s
  | _ => { kind := .function, names := [], isGenerator := false, isCoroutine := false, more := [] }
def stAt (l : List Stmt) (i : Nat) : Stmt := l.getD i (.Pass ⟨0, 0, 0, 0⟩)
def builtD : Stmt := stAt PySem.Challenge.pw_mr0048_01.main.body 5
def builtS : Scope := inS builtD
def builtFor : Stmt := stAt (inB builtD) 4
def builtIf1 : Stmt := stAt (inB builtFor) 4
def builtIf2 : Stmt := stAt (inB builtFor) 5
def lawD : Stmt := stAt PySem.Challenge.pw_mr0048_01.main.body 9
def lawS : Scope := inS lawD
def lawFor : Stmt := stAt (inB lawD) 7
def lawFor2 : Stmt := stAt (inB lawFor) 0
def lawTurn : List Stmt := inB lawFor2
def lawEnd : List Stmt := (inB lawD).drop 8
def lawMid : List Stmt := (inB lawD).drop 3
end Mine
end
section
open PySem PySem.W PyProof.Rows PySem.Calls PySem.Spec
namespace Mine

section
variable {prog : Program} {w : World} {A : Around} {E : Value → Shared → Prop} {s : Shared} {env : Env} {h₀ : Heap} {x : Str} {body : List Stmt} {Q : Flow → Shared → Prop}

theorem forConst {σ : Type} {l : Addr} {vs : List Value} {nn : Nat} {m₀ : Str → Option Value}
    (news : List (Addr × Obj)) (ps : σ → List (Str × Value)) (stored : List Str) (P : Nat → σ → Prop) (c₀ : σ)
    (hh : A.handled = none) (hl : (l, W.listOf vs.toArray nn) ∈ news)
    (F : Fr h₀ env.locals s.heap m₀) (N : News h₀ env.locals s.heap news) (hk : ∀ p ∈ ps c₀, m₀ p.1 = some p.2) (hp : P 0 c₀)
    (turn : ∀ (c : σ) i v (u : Str → Option Value) h tk I oI, vs[i]? = some v → P i c → (∀ p ∈ news, p.1 ≠ I) →
      Fr h₀ env.locals h (fun y => if y = x then some v else kstB (fun z => if stored.contains z then u z else m₀ z) (ps c) y) → News h₀ env.locals h ((I, oI) :: news) →
      wpAny (model prog w) A (execs body env) (TPost h₀ env.locals s x (fun _ => news) ps stored m₀ (P (i + 1)) Q (I, oI)) E { s with heap := h, toks := tk })
    (done : ∀ (c : σ) (u : Str → Option Value) h tk, P vs.length c → Fr h₀ env.locals h (fun y => if y = x then u y else kstB (fun z => if stored.contains z then u z else m₀ z) (ps c) y) → News h₀ env.locals h news → Q .next { s with heap := h, toks := tk }) :
    wpAny (model prog w) A (pyIter (.ref l)) (fun it s₂ => LoopAtV prog w A h₀ env x body Q E it s₂) E s := by
  have hol := (N _ hl).1
  have hls : s.heap.IsList l vs.toArray := ⟨_, hol, rfl, _, rfl⟩
  have hne : l ≠ s.heap.objs.size := Nat.ne_of_lt (Heap.lt_size hol)
  refine wpAny_pyIter_list hls ?_
  have W := Walks.list (prog := prog) (w := w) hh s.heap.objs.size l hne vs.toArray
  have hlen : vs.toArray.size = vs.length := by simp
  rw [hlen] at W
  refine loopG (T := "list_iterator") (fun _ => news) ps stored P c₀ W rfl (by simp) ?_ ?_ (next_is_new F) ?_ (fun _ _ _ _ _ _ p hp => Nat.ne_of_lt (Heap.lt_size (N p hp).1)) ⟨⟨_, Heap.get?_push_size _ rfl, rfl, rfl⟩, hls.at fun o e => Heap.get?_push_of_some _ e⟩ (F.push _) (fun p hp => ⟨Heap.get?_push_of_some _ (N p hp).1, (N p hp).2⟩) hk hp ?_ ?_
  · intro b hb
    rcases List.mem_cons.mp hb with e | hb
    · exact .inl e
    · rw [List.mem_singleton.mp hb]; exact .inr (.inr ⟨_, fun _ => hl⟩)
  · intro hm
    rcases List.mem_cons.mp hm with e | hm
    · exact absurd F.ns.lt (e ▸ Nat.lt_irrefl _)
    · exact (N _ hl).2.1 (List.mem_singleton.mp hm).symm
  · rintro i h ⟨⟨o, ho, hc, hdt⟩, _⟩
    exact ⟨o, ho, hc, _, hdt⟩
  · intro c i v u h tk oI hi hv hP hne F₁ N₁
    exact turn c i v u h tk _ oI (by simpa using hv) hP hne F₁ N₁
  · intro c u h tk hP F₁ N₁
    exact done c u h tk hP F₁ N₁

end
end Mine
end
section
open PySem PySem.W PyProof.Rows PySem.Calls PySem.Spec
namespace Mine
local macro_rules | `(tactic| lcg_sub) => `(tactic| first | with_reducible assumption | exact rfl | (refine' upd_ne ?ua ?ub; (case ua => decide +kernel); (case ub => lcg_sub)) | assumption)
local macro_rules | `(tactic| tb_rel) => `(tactic| first | with_reducible assumption | assumption)
local macro_rules | `(tactic| tb_start) => `(tactic| with_unfolding_all rfl)
local macro_rules | `(tactic| walk_at "eval Name") => `(tactic| (refine nameB (by tb_rel) (by tb_rel) (by first | with_reducible exact ns_len _ | with_reducible exact ns_range _ | with_reducible exact ns_min _ | with_reducible exact ns_map _ | with_reducible exact ns_str _) (by boot_by_name) (by decide) ?_ rfl rfl (by decide)))
local macro_rules | `(tactic| kct_strs) => `(tactic| first | (refine' isl ?F ?hl; (case F | hl => tb_rel)) | (refine' isn ?N ?m; (case N => tb_rel); (case m => k_mem)) | (refine' Cf.isl ?K ?hl; (case K | hl => tb_rel)))
local macro_rules | `(tactic| kbo_bools) => `(tactic| ((try simp only [PySem.Str.length_append]); omega))
local macro_rules | `(tactic| kbt_split) => `(tactic| ((try simp only [List.size_toArray, Array.length_toList, List.length_dropLast, List.length_take, List.length_append, List.length_cons, List.length_nil, Array.size_push, List.push_toArray]); omega))
local macro_rules | `(tactic| lsm_bools) => `(tactic| first
  | ((with_reducible show (if _ then wpAny _ _ (eval (Expr.Name _ _) _) _ _ _ else wpAny _ _ (eval (Expr.Name _ _) _) _ _ _)); refine' ite_names ?F ?hx ?hy ?lu ?lv ?_ rfl rfl rfl rfl rfl; (case F => tb_rel); (case hx | hy => lcg_sub); (case lu | lv => tb_rel); intro z t' ez lz)
  | ((with_reducible show (if _ then _ else _)); first | (refine' ite_nf ?c ?_; (case c => with_reducible assumption)) | (refine' ite_nt ?c ?_; (case c => with_reducible assumption)) | (refine' ite_bt ?c ?_; (case c => with_reducible assumption)) | (refine' ite_bf ?c ?_; (case c => with_reducible assumption)) | (refine' ite_dt ?c ?_; (case c => with_reducible assumption)) | (refine' ite_df ?c ?_; (case c => with_reducible assumption)) | (refine' ite_pt ?c ?_; (case c => with_reducible assumption)) | (refine' ite_pf ?c ?_; (case c => with_reducible assumption)))
  | ((with_reducible show (Frag.In _ _) ∧ _); refine' ⟨Frag.In.keeps ?X (Fr.keep ?F), ?_⟩; (case X => exact Here.X (by tb_rel)); (case F => tb_rel); (try dsimp only [List.nil_append]))
  | ((with_reducible show (Heap.get? _ _ = some (boundAppend _)) ∧ _); refine' ⟨News.get ?N ?m, ?_⟩; (case N => tb_rel); (case m => k_mem); (try dsimp only [List.nil_append]))
  | ((with_reducible show wpAny _ _ (getAttr _ _ _) _ _ _); first
    | ((with_reducible show wpAny _ _ (getAttr (Value.type "str") (PySem.Str.ofString "capitalize") _) _ _ _); refine strcap_attr ?_)
    | ((with_reducible show wpAny _ _ (getAttr (Value.ref _) (PySem.Str.ofString "append") _) _ _ _); refine' ba_getAttr ?F ?N ?m ?_; (case F | N => tb_rel); (case m => k_mem); intro l' h' F' N' l1; (try k_lt l1)))
  | ((with_reducible show wpAny _ _ (call _ _) _ _ _); first
    | ((with_reducible show wpAny _ _ (call (Value.type "map") [_, Value.ref _]) _ _ _); refine' callMapK ?F ?N ?hl ?_; (case F | N => tb_rel); (case hl => kct_strs); intro I' T' J' h' F' N' n1 n2)
    | ((with_reducible show wpAny _ _ (call (Value.builtin "str.split") [Value.str _ _, Value.none]) _ _ _); refine' splitW2 ?F ?N ?z ?_; (case F | N => tb_rel); (case z => omega); intro D' vs' h' k' hs' F' N' l1 hk'; (try k_lt l1))
    | ((with_reducible show wpAny _ _ (call (Value.builtin "str.split") [Value.str _ _, Value.str _ _]) _ _ _); refine' split2 ?F ?N ?y ?e ?z ?_; (case F | N => tb_rel); (case e => with_reducible assumption); (case y => first | tb_rel | decide +kernel); (case z => kbo_bools); intro D' t1' t2' h' k' F' N' l1; (try k_lt l1))
    | ((with_reducible show wpAny _ _ (call (Value.builtin "str.split") [Value.str _ _, Value.str _ _]) _ _ _); refine' splitSn ?F ?N ?y ?e ?z ?_; (case F | N => tb_rel); (case e => with_reducible assumption); (case y => first | tb_rel | decide +kernel); (case z => kbo_bools); intro D' vi' tl' h' k' hs' F' N' l1; (try (have ll' := StrsAre.length hs')); (try k_lt l1))
    | ((with_reducible show wpAny _ _ (call (Value.builtin "str.split") [Value.str _ _, Value.str _ _]) _ _ _); refine' splitS ?F ?N ?y ?e ?z ?_; (case F | N | e => tb_rel); (case y => first | tb_rel | decide +kernel); (case z => kbo_bools); intro D' vs' h' k' hs' F' N' l1; (try k_lt l1))
    | ((with_reducible show wpAny _ _ (call (Value.builtin "str.join") [Value.str _ _, Value.ref _]) _ _ _); refine' joinMapK2 rfl ?F ?N ?hl ?n1 ?n2 ?hi ?z1 ?z2 ?z3 ?_; (case F | N => tb_rel); (case hl => kct_strs); (case n1 | n2 | hi | z1 | z2 => tb_rel); (case z3 => first | tb_rel | decide +kernel); intro h' t' k' k9 hk')
    | ((with_reducible show wpAny _ _ (call (Value.builtin "str.join") [Value.str (PySem.Str.ofString "") _, Value.ref _]) _ _ _); refine' joinE1 ?hl ?hi ?z ?_; (case hl => kct_strs); (case hi => exact StrsAre.cons _ _ StrsAre.nil); (case z => omega); intro t' k')
    | ((with_reducible show wpAny _ _ (call (Value.builtin "str.join") [Value.str (PySem.Str.ofString "") _, Value.ref _]) _ _ _); refine' joinY ?hl ?hi ?z ?_; (case hl => kct_strs); (case hi => first | tb_rel | exact TailStr.use (by tb_rel)); (case z => first | tb_rel | omega); intro y' t' k' e' z')
    | ((with_reducible show wpAny _ _ (call (Value.ref _) [_]) _ _ _); refine' ba_callK ?F ?N ?q ?U ?z ?_; (case F | N => tb_rel); (case q => k_mem); (case U => k_upd); (case z => kbt_split); intro h' F' N')
    | ((with_reducible show wpAny _ _ (call (Value.builtin "min") [Value.ref _]) _ _ _); refine' minK rfl ?F ?N ?hl ?hi ?_; (case F | N => tb_rel); (case hl => kct_strs); (case hi => tb_rel); intro h' t' k' F' N')
    | ((with_reducible show wpAny _ _ (call (Value.builtin "len") [Value.ref _]) _ _ _); refine' len2 ?hl ?_; (case hl => (refine' isn ?N ?m; (case N => tb_rel); (case m => k_mem))))
    | ((with_reducible show wpAny _ _ (call (Value.builtin "len") [Value.ref _]) _ _ _); refine' lenT ?hl ?z ?_; (case hl => kct_strs); (case z => kbt_split))
    | ((with_reducible show wpAny _ _ (call (Value.builtin "len") [Value.ref _]) _ _ _); refine' kun_lenL ?hl rfl ?z ?_; (case hl => kct_strs); (case z => kbt_split))
    | ((with_reducible show wpAny _ _ (call (Value.builtin "list.append") [Value.ref _, _]) _ _ _); (refine' append_K ?F ?N ?U ?_ (szl ?z)); (case F | N => tb_rel); (case U => k_upd); (case z => kbt_split); intro h' F' N'))
  | ((with_reducible show wpAny _ _ (eval _ _) _ _ _); first
    | ((with_reducible show wpAny _ _ (eval (Expr.Name _ _) (envOf _ _ _ _ _)) _ _ _); refine nameG (by tb_rel) (by tb_rel) (by first | with_reducible exact ng_built _ | with_reducible exact ng_cap _ | with_reducible exact ng_join _ | with_reducible exact ng_row _ | with_reducible exact ng_takes _ | with_reducible exact ng_found _) ?_ rfl rfl rfl)
    | ((with_reducible show wpAny _ _ (eval (Expr.Name _ _) (envOfC _ _ _ _ _)) _ _ _); first | (refine' ldLoc ?F ?hv ?_ rfl rfl rfl; (case F => tb_rel); (case hv => lcg_sub)) | (refine' nameCC ?N rfl ?hm ?hd ?_ rfl rfl rfl; (case N => tb_rel); (case hm => k_mem); (case hd => tb_rel)) | (refine nameBC (by tb_rel) (by tb_rel) (by first | with_reducible exact ns_len _ | with_reducible exact ns_range _ | with_reducible exact ns_min _) (by boot_by_name) (by decide) ?_ rfl rfl (by decide)))
    | ((with_reducible show wpAny _ _ (eval (Expr.Name _ _) (compEnvC _ _ _ _)) _ _ _); refine cfB (by tb_rel) (by tb_rel) (by first | with_reducible exact ns_len _ | with_reducible exact ns_range _ | with_reducible exact ns_min _) (by boot_by_name) (by decide) ?_ rfl rfl rfl rfl (by decide))
    | ((with_reducible show wpAny _ _ (eval (Expr.Name _ _) (compEnvC _ _ _ _)) _ _ _); refine' cfL ?K ?hv ?_ rfl rfl rfl; (case K => tb_rel); (case hv => first | with_reducible assumption | exact rfl | assumption))
    | ((with_reducible show wpAny _ _ (eval (Expr.Name _ _) (compEnvC _ _ _ _)) _ _ _); refine' cfC ?K rfl ?ho ?hd ?_ rfl rfl rfl; (case K | ho | hd => tb_rel))
    | ((with_reducible show wpAny _ _ (eval (Expr.Name _ _) _) _ _ _); refine' ld ?F ?hv ?_ rfl rfl rfl; (case F => tb_rel); (case hv => lcg_sub)))
  | ((with_reducible show wpAny _ _ (subscriptTail _ _ _ _) _ _ _); first
    | ((with_reducible show wpAny _ _ (subscriptTail _ (Expr.Slice none (some _) none _) (Value.str _ _) (Value.ref _)) _ _ _); refine' cf_ns ?K ?z ?_ ?z4 ?z5; (case K => tb_rel); (case z => omega); (case z4 => tb_start); (case z5 => (intro _; tb_start)); intro h' t' k' K')
    | ((with_reducible show wpAny _ _ (subscriptTail _ (Expr.Slice (some _) none none _) (Value.str _ _) (Value.ref _)) _ _ _); refine' cf_sn ?K ?z ?_ ?z4 ?z5; (case K => tb_rel); (case z => omega); (case z4 => tb_start); (case z5 => (intro _; tb_start)); intro h' t' k' K')
    | ((with_reducible show wpAny _ _ (subscriptTail _ _ (Value.ref _) (Value.int 0 _)) _ _ _); refine' itemHd ?hl ?_ ?z4; (case hl => kct_strs); (case z4 => tb_start))
    | ((with_reducible show wpAny _ _ (subscriptTail _ _ (Value.ref _) (Value.int 1 _)) _ _ _); refine' itemSnd ?hl ?_ ?z4; (case hl => kct_strs); (case z4 => tb_start))
    | ((with_reducible show wpAny _ _ (subscriptTail _ (Expr.Slice _ _ (some _) _) (Value.ref _) (Value.ref _)) _ _ _); refine' sliceI ?F ?N ?hl ?hi ?p1 ?p2 ?p3 ?p4 ?z ?_ ?z4; (case F | N => tb_rel); (case hl => kct_strs); (case hi => tb_rel); (case p1 | p2 | p3 => kmk_part); (case p4 => decide); (case z => omega); (case z4 => tb_start); intro l' zs' ms' h' hi' hz' F' N' l1; (try k_lt l1))
    | ((with_reducible show wpAny _ _ (subscriptTail _ (Expr.Slice _ _ none _) (Value.ref _) (Value.ref _)) _ _ _); refine' sliceL ?F ?N ?hl ?p1 ?p2 ?pk ?z ?_ ?z4; (case F | N => tb_rel); (case hl => kct_strs); (case p1 | p2 => kmk_part); (case pk => first | exact pick_takeA _ | exact pick_initP _ _ | exact pick_initA _ _ | exact pick_init _ | exact pick_tailC _ _ | exact pick_tail _); (case z => kbt_split); (case z4 => tb_start); intro l' h' F' N' l1; (try k_lt l1))
    | ((with_reducible show wpAny _ _ (subscriptTail _ _ (Value.ref _) (Value.int (-1) _)) _ _ _); refine' itemLast ?hl ?z ?_ ?z4; (case hl => kct_strs); (case z => kbt_split); (case z4 => tb_start))
    | ((with_reducible show wpAny _ _ (subscriptTail _ _ (Value.ref _) (Value.int (-1) _)) _ _ _); refine' itemLastP ?hl ?z ?_ ?z4; (case hl => kct_strs); (case z => kbt_split); (case z4 => tb_start))
    | ((with_reducible show wpAny _ _ (subscriptTail _ _ (Value.ref _) (Value.int _ _)) _ _ _); refine' itemTab3 ?hl ?z1 ?z2 ?_ ?z4; (case hl => kct_strs); (case z1 | z2 => omega); (case z4 => tb_start); intro t')
    | ((with_reducible show wpAny _ _ (subscriptTail _ _ (Value.ref _) (Value.int _ _)) _ _ _); refine' itemL ?hl ?z1 ?z2 ?z3 ?_ ?z4; (case hl => kct_strs); (case z1 | z2 => omega); (case z3 => first | tb_rel | exact rfl | (simp; assumption)); (case z4 => tb_start)))
  | ((with_reducible show wpAny _ _ (compareOp _ _ _) _ _ _); first
    | ((with_reducible show wpAny _ _ (compareOp CmpOp.NotEq (Value.ref _) (Value.ref _)) _ _ _); refine' ne_intsK ?hl ?hi ?hb ?hj ?u ?_; (case hl => kct_strs); (case hi => first | exact IntsAre.nil | assumption); (case hb => kct_strs); (case hj => first | exact IntsAre.nil | assumption); (case u => (simp only [cLine, Around.deeper]; omega)))
    | ((with_reducible show wpAny _ _ (compareOp CmpOp.IsNot (Value.str _ _) (Value.ref _)) _ _ _); refine wpAny_isNot_other rfl (fun e => nomatch e) ?_))
  | ((with_reducible show wpAny _ _ (callWith _ _ _ _ _) _ _ _); first
    | ((with_reducible show wpAny _ _ (callWith _ (Value.ref _) [] _ _) _ _ _); refine' callG ?H ?k ?_ rfl rfl; (case H => tb_rel); (case k => first | with_reducible exact kp_21 _ | with_reducible exact kp_29 _ | with_reducible exact kp_36 _ | with_reducible exact kp_41 _ | with_reducible exact kp_46 _ | with_reducible exact kp_53 _))
    | ((with_reducible show wpAny _ _ (callWith _ (Value.ref _) [] _ _) _ _ _); refine' ba_callWith ?_ rfl))
  | ((with_reducible show wpAny _ _ (loadName _ _) _ _ _); refine' ldn ?F ?hv ?_; (case F => tb_rel); (case hv => lcg_sub))
  | ((with_reducible show wpAny _ _ (newList _) _ _ _); refine' newList_K ?F ?N ?_ (szl ?z); (case F | N => tb_rel); (case z => kbt_split); intro l' h' F' N' l1; (try k_lt l1))
  | ((with_reducible show wpAny _ _ (inplaceOp Operator.Add (Value.str _ _) (Value.str _ _)) _ _ _); refine' iaddS ?z ?_; (case z => kbo_bools); intro t' k')
  | ((with_reducible show wpAny _ _ (binaryOp _ _ _) _ _ _); first
    | ((with_reducible show wpAny _ _ (binaryOp Operator.Add (Value.str _ _) (Value.str _ _)) _ _ _); refine' addS ?z ?_; (case z => kbo_bools); intro t' k')
    | ((with_reducible show wpAny _ _ (binaryOp Operator.Add (Value.ref _) (Value.ref _)) _ _ _); (refine' addFM ?F ?N ?hl ?hb ?hv ?e ?z ?_); (case F | N => tb_rel); (case hl | hb => kct_strs); (case hv => tb_rel); (case e => with_reducible assumption); (case z => omega); intro l' tf' mv' h' hm' F' N' l1; (try (have ll' := StrsAre.length hm')); (try k_lt l1))
    | ((with_reducible show wpAny _ _ (binaryOp Operator.Add (Value.ref _) (Value.ref _)) _ _ _); (refine' addL ?F ?N ?hl ?hb ?z ?_); (case F | N => tb_rel); (case hl | hb => kct_strs); (case z => kbt_split); intro l' h' F' N' l1; (try k_lt l1)))
  | ((with_reducible show wpAny _ _ (exec (Stmt.For (Expr.Name _ _) _ _ [] _) _) _ _ _); refine' For_invVF ?F rfl rfl ?_; (case F => tb_rel))
  | ((with_reducible show wpAny _ _ (getMethod (Value.ref _) (PySem.Str.ofString "append") _) _ _ _); refine' listMethod_K ?N ?m PySem.F.slot_list_append PySem.F.type_list_append ?_; (case N => tb_rel); (case m => k_mem)))
local macro_rules | `(tactic| kat_tups) => `(tactic| first | lsm_bools | (k_unfold; (try dsimp only)) | ((with_reducible show wpAny _ _ (call _ (_ ++ _)) _ _ _); (dsimp only [List.cons_append, List.nil_append])) | ((fail_if_success (first | (with_reducible show wpAny _ _ (pyIter _) _ _ _) | (with_reducible show wpAny _ _ (compareOp CmpOp.NotEq (Value.ref _) (Value.ref _)) _ _ _) | (with_reducible show wpAny _ _ (eval (Expr.ListComp _ _ _ _) _) _ _ _) | (with_reducible show wpAny _ _ (exec (Stmt.Assign _ (Expr.ListComp _ _ _ _) _) _) _ _ _) | (with_reducible show wpAny _ _ (call (Value.builtin _) (Value.ref _ :: _)) _ _ _) | (with_reducible show wpAny _ _ (call (Value.ref _) _) _ _ _) | (with_reducible show wpAny _ _ (binaryOp Operator.Add (Value.ref _) (Value.ref _)) _ _ _) | (with_reducible show wpAny _ _ (exec (Stmt.While _ _ _ _) _) _ _ _) | (with_reducible show wpAny _ _ (subscriptTail _ _ (Value.ref _) (Value.int _ _)) _ _ _))); first | walk1 | (dsimp only; walk1)))
local macro_rules | `(tactic| kas_types) => `(tactic| repeat' (first | exact List.forall_mem_nil _ | refine List.forall_mem_cons.mpr ⟨by rfl, ?_⟩))
local macro_rules | `(tactic| krn_off) => `(tactic| (intro z h1 h2 h3; simp only [List.forall_mem_cons, List.not_mem_nil, false_implies, implies_true, and_true, ne_eq] at h2; simp only [List.contains_cons, List.contains_nil, Bool.or_false, Bool.or_eq_false_iff, beq_eq_false_iff_ne, ne_eq] at h3; simp [kstB, h1, h2, h3]))
set_option maxHeartbeats 4000000 in
theorem c_row {w : World} {mean : ExcName → Option Value} {mg mb : Str → Option Value} {dp un : Nat} {fr : Option (List Env)} {gd : Option (List Code)} {s : Shared} {Q E : Value → Shared → Prop} {prog : Program}
    (H : Here w mean mg mb s.heap) (hd : dp < 900)
    {lp lst : Addr} {vs : List Value} {ahead behind : Bool} (hp : s.heap.IsList lp vs.toArray) (hlen : vs.length < 1000)
    (hret : ∀ a h' tk n, (∀ b o, s.heap.get? b = some o → h'.get? b = some o) → s.heap.get? a = none → h'.get? a = some (W.listOf (rowV (.ref lst) ahead behind vs).toArray n) → Q (.ref a) { s with heap := h', toks := tk }) :
    wpAny (model prog w) (AA dp un fr gd) (call (.ref 53) [.ref lp, .ref lst, .bool ahead, .bool behind]) Q E s := by
  have X := H.X
  have T := H.T
  cases ahead
  all_goals refine enter (binds := [(Str.ofString "parts", .ref lp), (Str.ofString "star", .ref lst), (Str.ofString "ahead", .bool _), (Str.ofString "behind", .bool behind)]) X T rfl rfl (by show dp < recursionLimit; simp only [recursionLimit]; omega) (BindsTo.of_eq rfl) (locs rfl) (by decide) (fun L h₁ F N => ?_)
  · repeat' kat_tups
    refine forRange (σ := List Value × Addr × Nat) (fun c => [(c.2.1, W.listOf c.1.toArray c.2.2)]) (fun c => [(Str.ofString "row", .ref c.2.1)]) [] (fun i c => c.1 = ([] : List Value) ++ inter (.ref lst) (vs.take i)) (([] : List Value), _, _) rfl (by assumption) (small_one (by decide) (by decide) (by first | omega | (simp only [List.size_toArray]; omega)) (by first | omega | (simp only [List.size_toArray]; omega))) (n := vs.length) (by rw [rangeSize_nat]; simp) (by intro c p hp; simp only [List.mem_singleton] at hp; subst hp; exact not_it_seq) (by assumption) (by assumption) (by kas_types) (by simp [inter]) ?_ ?_
    · rintro ⟨xs, a, n⟩ i t u h tk I oI hi hP hne F₁ N₁
      dsimp only at hP F₁ N₁
      simp only [List.mem_singleton, forall_eq] at hne
      replace hne := neN hne
      have hxl : xs.length ≤ 4000 := by rw [hP]; have := inter_length (.ref lst) (vs.take i); simp only [List.length_append, List.length_take, List.length_cons, List.length_nil] at this ⊢; omega
      obtain ⟨v, hv⟩ : ∃ v, vs[i]? = some v := ⟨vs[i], by simp [hi]⟩
      repeat' kat_tups
      all_goals (rename Fr _ _ _ _ => F9; rename News _ _ _ _ => N9; simp only [List.push_toArray] at N9)
      · refine tEnd (xs ++ [.ref lst] ++ [v], a, n + 1 + 1) F9 N9 (.head _) (by simp) (by kas_types) (by krn_off) ?_
        rw [show List.take (i + 1) vs = List.take i vs ++ [v] by simp [List.take_add_one, hv], inter_snoc, if_neg (by rw [List.length_take]; omega), hP]
        simp
      · refine tEnd (xs ++ [v], a, n + 1) F9 N9 (.head _) (by simp) (by kas_types) (by krn_off) ?_
        rw [show List.take (i + 1) vs = List.take i vs ++ [v] by simp [List.take_add_one, hv], inter_snoc, if_pos (by rw [List.length_take]; omega), hP]
        rw [show i = 0 by omega]
        simp [inter]
    · rintro ⟨xs, a, n⟩ u h tk hP F₁ N₁
      dsimp only at hP F₁ N₁
      rw [List.take_length] at hP
      have hxl : xs.length ≤ 4000 := by rw [hP]; have := inter_length (.ref lst) vs; simp only [List.length_append, List.length_cons, List.length_nil] at this ⊢; omega
      repeat' kat_tups
      all_goals (rename Fr _ _ _ _ => F9; rename News _ _ _ _ => N9; refine hret _ _ _ _ F9.keep (N9 _ (.head _)).2.2 ((N9 _ (.head _)).1.trans (congrArg (fun q => some (W.listOf q _)) ?_)); rename (behind = _) => hb; subst hb; subst hP; simp [rowV])
  · repeat' kat_tups
    refine forRange (σ := List Value × Addr × Nat) (fun c => [(c.2.1, W.listOf c.1.toArray c.2.2)]) (fun c => [(Str.ofString "row", .ref c.2.1)]) [] (fun i c => c.1 = [Value.ref lst] ++ inter (.ref lst) (vs.take i)) ([Value.ref lst], _, _) rfl (by assumption) (small_one (by decide) (by decide) (by first | omega | (simp only [List.size_toArray]; omega)) (by first | omega | (simp only [List.size_toArray]; omega))) (n := vs.length) (by rw [rangeSize_nat]; simp) (by intro c p hp; simp only [List.mem_singleton] at hp; subst hp; exact not_it_seq) (by assumption) (by assumption) (by kas_types) (by simp [inter]) ?_ ?_
    · rintro ⟨xs, a, n⟩ i t u h tk I oI hi hP hne F₁ N₁
      dsimp only at hP F₁ N₁
      simp only [List.mem_singleton, forall_eq] at hne
      replace hne := neN hne
      have hxl : xs.length ≤ 4000 := by rw [hP]; have := inter_length (.ref lst) (vs.take i); simp only [List.length_append, List.length_take, List.length_cons, List.length_nil] at this ⊢; omega
      obtain ⟨v, hv⟩ : ∃ v, vs[i]? = some v := ⟨vs[i], by simp [hi]⟩
      repeat' kat_tups
      all_goals (rename Fr _ _ _ _ => F9; rename News _ _ _ _ => N9; simp only [List.push_toArray] at N9)
      · refine tEnd (xs ++ [.ref lst] ++ [v], a, n + 1 + 1) F9 N9 (.head _) (by simp) (by kas_types) (by krn_off) ?_
        rw [show List.take (i + 1) vs = List.take i vs ++ [v] by simp [List.take_add_one, hv], inter_snoc, if_neg (by rw [List.length_take]; omega), hP]
        simp
      · refine tEnd (xs ++ [v], a, n + 1) F9 N9 (.head _) (by simp) (by kas_types) (by krn_off) ?_
        rw [show List.take (i + 1) vs = List.take i vs ++ [v] by simp [List.take_add_one, hv], inter_snoc, if_pos (by rw [List.length_take]; omega), hP]
        rw [show i = 0 by omega]
        simp [inter]
    · rintro ⟨xs, a, n⟩ u h tk hP F₁ N₁
      dsimp only at hP F₁ N₁
      rw [List.take_length] at hP
      have hxl : xs.length ≤ 4000 := by rw [hP]; have := inter_length (.ref lst) vs; simp only [List.length_append, List.length_cons, List.length_nil] at this ⊢; omega
      repeat' kat_tups
      all_goals (rename Fr _ _ _ _ => F9; rename News _ _ _ _ => N9; refine hret _ _ _ _ F9.keep (N9 _ (.head _)).2.2 ((N9 _ (.head _)).1.trans (congrArg (fun q => some (W.listOf q _)) ?_)); rename (behind = _) => hb; subst hb; subst hP; simp [rowV])
set_option maxHeartbeats 4000000 in
theorem c_join {w : World} {mean : ExcName → Option Value} {mg mb : Str → Option Value} {dp un : Nat} {fr : Option (List Env)} {gd : Option (List Code)} {s : Shared} {Q E : Value → Shared → Prop} {prog : Program}
    (H : Here w mean mg mb s.heap) (hd : dp < 900)
    {li lst : Addr} {pre rest : List Value} {ps rs : List Str} {behind : Bool} (hsp : StrsAre pre ps) (hsr : StrsAre rest rs)
    {xs : List Value} (hx : xs = pre ++ (rest.flatMap fun v => [.ref lst, v]) ++ (if behind then [.ref lst] else []))
    (hp : s.heap.IsList li xs.toArray) (hlen : xs.length < 1000) (hne : rest ≠ []) (hsz : ∀ r ∈ rs, r.length ≤ 1000) (hsum : ((ps ++ resOf behind rs).map (·.length)).sum ≤ 1000000)
    (hret : ∀ h' tk t', (∀ b o, s.heap.get? b = some o → h'.get? b = some o) → Q (.str (Str.ofString "(?s:" ++ Str.join ⟨#[]⟩ (ps ++ resOf behind rs) ++ Str.ofString ")\\Z") t') { s with heap := h', toks := tk }) :
    wpAny (model prog w) (AA dp un fr gd) (call (.ref 21) [.ref li, .ref lst]) Q E s := by
  have X := H.X
  have T := H.T
  obtain ⟨b, hb, hxl⟩ : ∃ b, b = (if behind then 1 else 0) ∧ xs.length = pre.length + 2 * rest.length + b := ⟨_, rfl, jx_len hx⟩
  have hrl : 0 < rest.length := List.length_pos_iff.mpr hne
  refine enter (binds := [(Str.ofString "inp", .ref li), (Str.ofString "STAR", .ref lst)]) X T rfl rfl (by show dp < recursionLimit; simp only [recursionLimit]; omega) (BindsTo.of_eq rfl) (locs rfl) (by decide) (fun L h₁ F N => ?_)
  repeat' kat_tups
  rename News _ _ _ _ => N1
  replace N1 : News _ _ _ [_, _] := fun p hp => N1 p (.tail _ hp)
  refine ksw_while (σ := Addr × Addr × Nat × Nat × Nat) (fun c => [(c.1, boundAppend c.2.1), (c.2.1, W.listOf (pre.take c.2.2.1).toArray c.2.2.2.1)]) (fun c => [(Str.ofString "i", .int c.2.2.1 c.2.2.2.2), (Str.ofString "add", .ref c.1), (Str.ofString "res", .ref c.2.1)]) (fun c => c.1 ≠ c.2.1) [] (fun c => c.2.2.1 ≤ pre.length) (fun c => pre.length - c.2.2.1) (_, _, 0, _, _) (by assumption) N1 ?_ (by kas_types) (Nat.zero_le _) ?_
  · k_ne
  · rintro ⟨q, r, k, n, tk0⟩ u h tk hqr hk F₁ N₁
    dsimp only at hqr hk F₁ N₁
    replace hqr := neN hqr
    (with_reducible show wpAny _ _ _ _ _ _)
    k_fold
    rcases Nat.lt_or_eq_of_le hk with hlt | heq
    · obtain ⟨t, ht⟩ := hsp.get k (ps[k]'(by rw [← hsp.length]; exact hlt)) (by simp)
      have hv := (jx_pre hx hlt).trans ht
      generalize ps[k]'(by rw [← hsp.length]; exact hlt) = pk at ht hv
      repeat' kat_tups
      rename Fr _ _ _ _ => F9
      rename News _ _ _ _ => N9
      simp only [List.push_toArray] at N9
      refine ksw_end (q, r, k + 1, n + 1, _) F9 N9 ?_ hqr (by kas_types) ?_ ?_ ?_
      · have e : pre.take (k + 1) = pre.take k ++ [.str pk t] := by simp [List.take_add_one, ht]
        simp only [e]
        exact fun p hp => hp
      · intro z h2 h3
        simp only [List.forall_mem_cons, List.not_mem_nil, false_implies, implies_true, and_true, ne_eq] at h2
        simp [kstB, h2]
      · exact hlt
      · dsimp only
        omega
    · have hv : xs[k]? = some (.ref lst) := by rw [heq]; exact jx_star (j := 0) hx hrl
      repeat' kat_tups
      subst heq
      rw [List.take_length] at N₁
      refine ksw_while (σ := Addr × Addr × Nat × List Value × Nat × Nat) (fun c => [(c.1, boundAppend c.2.1), (c.2.1, W.listOf c.2.2.2.1.toArray c.2.2.2.2.1)]) (fun c => [(Str.ofString "i", .int ((pre.length + 2 * c.2.2.1 : Nat) : Int) c.2.2.2.2.2), (Str.ofString "add", .ref c.1), (Str.ofString "res", .ref c.2.1)]) (fun c => c.1 ≠ c.2.1) [Str.ofString "fixed"] (fun c => c.2.2.1 ≤ rest.length ∧ c.2.2.2.1.length ≤ 3 * c.2.2.1 + pre.length ∧ ∃ as, StrsAre c.2.2.2.1 as ∧ as ++ resOf behind (rs.drop c.2.2.1) = ps ++ resOf behind rs) (fun c => rest.length - c.2.2.1) (_, _, 0, _, _, _) (by assumption) N₁ hqr (by kas_types) ⟨Nat.zero_le _, by simp, ps, hsp, rfl⟩ ?_
      rintro ⟨q, r, j, acc, n, tk0⟩ u' h tk hqr ⟨hj, hal, as, has, hres⟩ F₁ N₁
      dsimp only at hqr hj hal has hres F₁ N₁
      replace hqr := neN hqr
      (with_reducible show wpAny _ _ _ _ _ _)
      k_fold
      rcases Nat.lt_or_eq_of_le hj with hlt | heq
      · have hv := jx_star hx hlt
        obtain ⟨t, ht⟩ := hsr.get j (rs[j]'(by rw [← hsr.length]; exact hlt)) (by simp)
        have hv2 := (jx_item hx hlt).trans ht
        have hrz := hsz (rs[j]'(by rw [← hsr.length]; exact hlt)) (List.getElem_mem _)
        have hrd : rs.drop j = rs[j]'(by rw [← hsr.length]; exact hlt) :: rs.drop (j + 1) := List.drop_eq_getElem_cons _
        rw [hrd] at hres
        generalize rs[j]'(by rw [← hsr.length]; exact hlt) = rj at ht hv2 hrz hres
        repeat' kat_tups
        · exfalso
          omega
        rename News _ _ _ _ => N1
        refine ksw_while (σ := Addr × Nat × Nat × Nat) (fun c => [(c.1, W.listOf ([Value.str rj t].take c.2.1).toArray c.2.2.1), (q, boundAppend r), (r, W.listOf acc.toArray n)]) (fun c => [(Str.ofString "i", .int ((pre.length + 2 * j + 1 + c.2.1 : Nat) : Int) c.2.2.2), (Str.ofString "fixed", .ref c.1)]) (fun c => c.1 ≠ q ∧ c.1 ≠ r) [] (fun c => c.2.1 ≤ 1) (fun c => 1 - c.2.1) (_, 0, _, _) (by assumption) N1 ?_ (by kas_types) (Nat.zero_le _) ?_
        · exact ⟨by k_ne, by k_ne⟩
        rintro ⟨lf, k, n', tk1⟩ u'' h tk hlf hk F₁ N₁
        dsimp only at hlf hk F₁ N₁
        (with_reducible show wpAny _ _ _ _ _ _)
        k_fold
        have hlf1 := neN hlf.1
        have hlf2 := neN hlf.2
        rcases Nat.lt_or_eq_of_le hk with hk0 | hk1
        · have hk00 : k = 0 := by omega
          subst hk00
          repeat' kat_tups
          rename Fr _ _ _ _ => F9
          rename News _ _ _ _ => N9
          simp only [List.push_toArray] at N9
          refine ksw_end (lf, 1, n' + 1, _) F9 N9 (fun p hp => hp) hlf (by kas_types) ?_ (Nat.le_refl _) ?_
          · intro z h2 h3
            simp only [List.forall_mem_cons, List.not_mem_nil, false_implies, implies_true, and_true, ne_eq] at h2
            simp [kstB, h2]
          · dsimp only
            omega
        · subst hk1
          have hgo : (j + 1 < rest.length ∨ (j + 1 = rest.length ∧ behind = true)) ∨ (j + 1 = rest.length ∧ behind = false) := by
            cases behind <;> simp <;> omega
          rcases hgo with hgo | ⟨hgo, hbf⟩
          · have hv3 : xs[pre.length + 2 * j + 1 + 1]? = some (.ref lst) := by
              rcases hgo with hgo | ⟨hgo, hbt⟩
              · exact jx_star hx hgo
              · rw [show pre.length + 2 * j + 1 + 1 = pre.length + 2 * rest.length by omega]
                exact jx_last hx hbt
            have hin : pre.length + 2 * j + 1 + 1 < xs.length := (List.getElem?_eq_some_iff.mp hv3).1
            repeat' kat_tups
            · exfalso
              omega
            rename Fr _ _ _ _ => F9
            rename News _ _ _ _ => N9
            simp only [List.push_toArray] at N9
            refine ksw_end (q, r, j + 1, _, n + 1, _) F9 N9 (fun p hp => .tail _ hp) hqr (by kas_types) ?_ ⟨hlt, ?_, as ++ [Str.ofString "(?>.*?" ++ rj ++ Str.ofString ")"], ?_, ?_⟩ ?_
            · intro z h2 h3
              simp only [List.forall_mem_cons, List.not_mem_nil, false_implies, implies_true, and_true, ne_eq] at h2
              simp only [List.contains_cons, List.contains_nil, Bool.or_false, beq_eq_false_iff_ne, ne_eq] at h3
              simp [kstB, h2, h3]
            · simp only [List.length_append, List.length_cons, List.length_nil]
              omega
            · exact has.append' (.cons _ _ .nil)
            · rw [← hres, resOf_group (by
                rcases hgo with hgo | ⟨_, hbt⟩
                · right
                  intro e
                  have := congrArg List.length e
                  rw [List.length_drop, ← hsr.length] at this
                  simp at this
                  omega
                · exact .inl hbt)]
              simp
            · dsimp only
              omega
          · subst hbf
            have hb0 : b = 0 := hb
            have hdn : rs.drop (j + 1) = [] := List.drop_eq_nil_of_le (by rw [← hsr.length]; omega)
            rw [hdn] at hres
            repeat' kat_tups
            rotate_left
            · exfalso
              omega
            rename Fr _ _ _ _ => F9
            rename News _ _ _ _ => N9
            simp only [List.push_toArray] at N9
            refine ksw_end (q, r, j + 1, _, n + 1 + 1, _) F9 N9 (fun p hp => .tail _ hp) hqr (by kas_types) ?_ ⟨hlt, ?_, as ++ [Str.ofString ".*"] ++ [rj], ?_, ?_⟩ ?_
            · intro z h2 h3
              simp only [List.forall_mem_cons, List.not_mem_nil, false_implies, implies_true, and_true, ne_eq] at h2
              simp only [List.contains_cons, List.contains_nil, Bool.or_false, beq_eq_false_iff_ne, ne_eq] at h3
              simp [kstB, h2, h3]
            · simp only [List.length_append, List.length_cons, List.length_nil]
              omega
            · exact (has.append' (.cons _ _ .nil)).append' (.cons _ _ .nil)
            · rw [← hres, hdn]
              simp [resOf]
            · dsimp only
              omega
      · subst heq
        have hdn : rs.drop rest.length = [] := List.drop_eq_nil_of_le (by rw [← hsr.length]; exact Nat.le_refl _)
        rw [hdn] at hres
        cases behind with
        | true =>
          have hb0 : b = 1 := hb
          have hv := jx_last hx rfl
          have hAll : TailStr acc (Str.ofString ".*") (ps ++ resOf true rs) := ⟨fun tt => by
            rw [← hres]
            exact has.append' (.cons _ _ .nil)⟩
          repeat' kat_tups
          all_goals first
            | (exfalso; omega)
            | (rename Fr _ _ _ _ => F9; rename (_ = Str.join _ _) => e9; subst e9; exact hret _ _ _ F9.keep)
        | false =>
          have hb0 : b = 0 := hb
          have hfin : StrsAre acc (ps ++ resOf false rs) := by
            rw [← hres]
            simpa [resOf] using has
          repeat' kat_tups
          all_goals first
            | (exfalso; omega)
            | (rename Fr _ _ _ _ => F9; rename (_ = Str.join _ _) => e9; subst e9; exact hret _ _ _ F9.keep)
set_option maxHeartbeats 8000000 in
theorem t_line {w : World} {mean : ExcName → Option Value} {mg mb : Str → Option Value} {dp un : Nat} {fr : Option (List Env)} {gd : Option (List Code)} {s : Shared} {Q : Flow → Shared → Prop} {prog : Program}
    {h₀ : Heap} {L fa : Addr} {cn : Str} {ccd : Value} {m : Str → Option Value}
    (H : Here w mean mg mb h₀) (F : Fr h₀ L s.heap m) {wa pa qa : Addr} {po qo : Obj} {wv : List Value} {wn : Nat} {wss : List Str} {line : Str} {tl tk tm t1 t2 : Tok} {x : Int} {b : Nat}
    (N : News h₀ L s.heap [(wa, W.listOf wv.toArray wn), (pa, po), (qa, qo)]) (hp : wa ≠ pa) (hq : wa ≠ qa)
    (m1 : m (Str.ofString "kind") = some (.int (x.fmod 8) tk)) (m2 : m (Str.ofString "more") = some (.int (x.fdiv 8) tm)) (m3 : m (Str.ofString "small") = some (.str (smallOf x) t1)) (m4 : m (Str.ofString "great") = some (.str (greatOf x) t2))
    (m5 : m (Str.ofString "line") = some (.str line tl)) (m6 : m (Str.ofString "words") = some (.ref wa))
    (hw : StrsAre wv wss) (hwn : x.fmod 8 ≠ 0 → wv ≠ []) (l6 : line.length ≤ 1000) (l8 : wv.length ≤ 1000) (hlw : ∀ y ∈ wss, y.length ≤ b) (hb : b ≤ 1000)
    (hret : ∀ h' tk' m' line' tl' wa' wv' wss' wn', Fr h₀ L h' m' → News h₀ L h' [(wa', W.listOf (List.toArray wv') wn'), (pa, po), (qa, qo)] → wa' ≠ pa → wa' ≠ qa → StrsAre wv' wss' → lstep (line, wss) x = (line', wss') →
      m' (Str.ofString "line") = some (.str line' tl') → m' (Str.ofString "words") = some (.ref wa') → (∀ z, z ≠ Str.ofString "line" → z ≠ Str.ofString "words" → m' z = m z) →
      line'.length ≤ line.length + 4 → wv'.length ≤ wv.length + 1 → wv' ≠ [] → (∀ y ∈ wss', y.length ≤ b + 1) → Q .next { s with heap := h', toks := tk' }) :
    wpAny (model prog w) (AA dp un fr gd) (exec builtIf1 (envOf cn builtS L fa ccd)) Q (fun _ _ => False) s := by
  have l1 : (Txt.item (Str.ofString "ab") ((x.fdiv 8).fmod 2)).length = 1 := small_len x
  have l2 : (Txt.item (Str.ofString "AB") ((x.fdiv 8).fmod 2)).length = 1 := great_len x
  have l0 : (Str.ofString "").length = 0 := by decide +kernel
  have l3 : (Str.ofString " ").length = 1 := by decide +kernel
  have l4 : (pick3 (Str.ofString " ") (Str.ofString "\t") (Str.ofString " \n ") (((x.fdiv 8).fdiv 4).fmod 3)).length ≤ 3 := ws_len x
  have l5 := ws_idx x
  replace m3 : m (Str.ofString "small") = some (.str (Txt.item (Str.ofString "ab") ((x.fdiv 8).fmod 2)) t1) := m3
  replace m4 : m (Str.ofString "great") = some (.str (Txt.item (Str.ofString "AB") ((x.fdiv 8).fmod 2)) t2) := m4
  have hp0 := hp
  have hq0 := hq
  replace hp := neN hp
  replace hq := neN hq
  show wpAny _ _ (exec (Stmt.If _ _ _ _) (envOf _ ⟨_, _, _, _, _⟩ _ _ _)) _ _ _
  cases k1 : ([4, 5].any fun y => y == x.fmod 8) with
  | true =>
    have hx0 := hwn (any_ne0 k1 rfl)
    repeat' kat_tups
    rename Fr _ _ _ _ => F9
    rename News _ _ _ _ => N9
    try simp only [List.push_toArray] at N9
    exact hret _ _ _ _ _ _ _ _ _ F9 (news3 N9 (by k_mem) (by k_mem) (by k_mem)) hp0 hq0 hw (lstep_same k1) m5 m6 (fun _ _ _ => rfl) (Nat.le_add_right _ _) (Nat.le_add_right _ _) hx0 (fun y hy => Nat.le_succ_of_le (hlw y hy))
  | false =>
    cases k2 : ([0, 2, 6].any fun y => y == x.fmod 8) with
    | true =>
      repeat' kat_tups
      rename Fr _ _ _ _ => F9
      rename News _ _ _ _ => N9
      try simp only [List.push_toArray] at N9
      refine hret _ _ _ _ _ _ _ _ _ F9 (news3 N9 (.head _) (by k_mem) (by k_mem)) (by k_ne) (by k_ne) (hw.append' (.cons _ _ .nil)) ?_ (by exact rfl) (by exact rfl) (fun z h1 h2 => by simp [h1, h2]) ?_ ?_ (by simp) ?_
      · rw [lstep_begin k1 k2]; simp [capOf, smallOf, greatOf, wsOf, es_app, addLast_snoc, *]
      · (try simp only [Str.length_append]); omega
      · (try simp only [List.length_append, List.length_cons, List.length_nil]); omega
      · intro y hy; simp only [List.mem_append, List.mem_singleton] at hy; rcases hy with hy | rfl; exact Nat.le_succ_of_le (hlw y (by simp [hy])); (try simp only [Str.length_append]); omega
    | false =>
      have hx0 := hwn (any_ne0' k2 rfl)
      obtain ⟨wi, wis, wl, twl, rfl, rfl, hwi⟩ := strs_snoc hw hx0
      simp only [List.length_append, List.length_cons, List.length_nil] at l8
      have lwl := hlw wl (by simp)
      repeat' kat_tups
      rename Fr _ _ _ _ => F9
      rename News _ _ _ _ => N9
      try simp only [List.push_toArray] at N9
      refine hret _ _ _ _ _ _ _ _ _ F9 (news3 N9 (.head _) (by k_mem) (by k_mem)) (by k_ne) (by k_ne) (hwi.append' (.cons _ _ .nil)) ?_ (by exact rfl) (by exact rfl) (fun z h1 h2 => by simp [h1, h2]) ?_ ?_ (by simp) ?_
      · rw [lstep_add k1 k2]; simp [capOf, smallOf, greatOf, wsOf, es_app, addLast_snoc, *]
      · (try simp only [Str.length_append]); omega
      · (try simp only [List.length_append, List.length_cons, List.length_nil]); omega
      · intro y hy; simp only [List.mem_append, List.mem_singleton] at hy; rcases hy with hy | rfl; exact Nat.le_succ_of_le (hlw y (by simp [hy])); (try simp only [Str.length_append]); omega
set_option maxHeartbeats 8000000 in
theorem t_row {w : World} {mean : ExcName → Option Value} {mg mb : Str → Option Value} {dp un : Nat} {fr : Option (List Env)} {gd : Option (List Code)} {s : Shared} {Q : Flow → Shared → Prop} {prog : Program}
    {h₀ : Heap} {L fa : Addr} {cn : Str} {ccd : Value} {m : Str → Option Value}
    (H : Here w mean mg mb h₀) (F : Fr h₀ L s.heap m) {wa pa qa : Addr} {po qo : Obj} {wv : List Value} {wn : Nat} {wss : List Str} {line : Str} {tl tk tm t1 t2 : Tok} {x : Int} {b : Nat}
    (N : News h₀ L s.heap [(wa, W.listOf wv.toArray wn), (pa, po), (qa, qo)]) (hp : wa ≠ pa) (hq : wa ≠ qa)
    (m1 : m (Str.ofString "kind") = some (.int (x.fmod 8) tk)) (m2 : m (Str.ofString "more") = some (.int (x.fdiv 8) tm)) (m3 : m (Str.ofString "small") = some (.str (smallOf x) t1)) (m4 : m (Str.ofString "great") = some (.str (greatOf x) t2))
    (m5 : m (Str.ofString "row") = some (.str line tl)) (m6 : m (Str.ofString "sought") = some (.ref wa))
    (hw : StrsAre wv wss) (hwn : x.fmod 8 ≠ 0 → wv ≠ []) (l6 : line.length ≤ 1000) (l8 : wv.length ≤ 1000) (hlw : ∀ y ∈ wss, y.length ≤ b) (hb : b ≤ 1000)
    (hret : ∀ h' tk' m' line' tl' wa' wv' wss' wn', Fr h₀ L h' m' → News h₀ L h' [(wa', W.listOf (List.toArray wv') wn'), (pa, po), (qa, qo)] → wa' ≠ pa → wa' ≠ qa → StrsAre wv' wss' → rstep (line, wss) x = (line', wss') →
      m' (Str.ofString "row") = some (.str line' tl') → m' (Str.ofString "sought") = some (.ref wa') → (∀ z, z ≠ Str.ofString "row" → z ≠ Str.ofString "sought" → m' z = m z) →
      line'.length ≤ line.length + 4 → wv'.length ≤ wv.length + 1 → wv' ≠ [] → (∀ y ∈ wss', y.length ≤ b + 1) → Q .next { s with heap := h', toks := tk' }) :
    wpAny (model prog w) (AA dp un fr gd) (exec builtIf2 (envOf cn builtS L fa ccd)) Q (fun _ _ => False) s := by
  have l1 : (Txt.item (Str.ofString "ab") ((x.fdiv 8).fmod 2)).length = 1 := small_len x
  have l2 : (Txt.item (Str.ofString "AB") ((x.fdiv 8).fmod 2)).length = 1 := great_len x
  have l0 : (Str.ofString "").length = 0 := by decide +kernel
  have l3 : (Str.ofString " ").length = 1 := by decide +kernel
  have l4 : (pick3 (Str.ofString " ") (Str.ofString "\t") (Str.ofString " \n ") (((x.fdiv 8).fdiv 4).fmod 3)).length ≤ 3 := ws_len x
  have l5 := ws_idx x
  replace m3 : m (Str.ofString "small") = some (.str (Txt.item (Str.ofString "ab") ((x.fdiv 8).fmod 2)) t1) := m3
  replace m4 : m (Str.ofString "great") = some (.str (Txt.item (Str.ofString "AB") ((x.fdiv 8).fmod 2)) t2) := m4
  have hp0 := hp
  have hq0 := hq
  replace hp := neN hp
  replace hq := neN hq
  show wpAny _ _ (exec (Stmt.If _ _ _ _) (envOf _ ⟨_, _, _, _, _⟩ _ _ _)) _ _ _
  cases k1 : ([2, 3].any fun y => y == x.fmod 8) with
  | true =>
    have hx0 := hwn (any_ne0 k1 rfl)
    repeat' kat_tups
    rename Fr _ _ _ _ => F9
    rename News _ _ _ _ => N9
    try simp only [List.push_toArray] at N9
    exact hret _ _ _ _ _ _ _ _ _ F9 (news3 N9 (by k_mem) (by k_mem) (by k_mem)) hp0 hq0 hw (rstep_same k1) m5 m6 (fun _ _ _ => rfl) (Nat.le_add_right _ _) (Nat.le_add_right _ _) hx0 (fun y hy => Nat.le_succ_of_le (hlw y hy))
  | false =>
    cases k2 : ([0, 4, 6].any fun y => y == x.fmod 8) with
    | true =>
      repeat' kat_tups
      rename Fr _ _ _ _ => F9
      rename News _ _ _ _ => N9
      try simp only [List.push_toArray] at N9
      refine hret _ _ _ _ _ _ _ _ _ F9 (news3 N9 (.head _) (by k_mem) (by k_mem)) (by k_ne) (by k_ne) (hw.append' (.cons _ _ .nil)) ?_ (by exact rfl) (by exact rfl) (fun z h1 h2 => by simp [h1, h2]) ?_ ?_ (by simp) ?_
      · rw [rstep_begin k1 k2]; simp [capOf, smallOf, greatOf, wsOf, es_app, addLast_snoc, *]
      · (try simp only [Str.length_append]); omega
      · (try simp only [List.length_append, List.length_cons, List.length_nil]); omega
      · intro y hy; simp only [List.mem_append, List.mem_singleton] at hy; rcases hy with hy | rfl; exact Nat.le_succ_of_le (hlw y (by simp [hy])); (try simp only [Str.length_append]); omega
    | false =>
      have hx0 := hwn (any_ne0' k2 rfl)
      obtain ⟨wi, wis, wl, twl, rfl, rfl, hwi⟩ := strs_snoc hw hx0
      simp only [List.length_append, List.length_cons, List.length_nil] at l8
      have lwl := hlw wl (by simp)
      repeat' kat_tups
      rename Fr _ _ _ _ => F9
      rename News _ _ _ _ => N9
      try simp only [List.push_toArray] at N9
      refine hret _ _ _ _ _ _ _ _ _ F9 (news3 N9 (.head _) (by k_mem) (by k_mem)) (by k_ne) (by k_ne) (hwi.append' (.cons _ _ .nil)) ?_ (by exact rfl) (by exact rfl) (fun z h1 h2 => by simp [h1, h2]) ?_ ?_ (by simp) ?_
      · rw [rstep_add k1 k2]; simp [capOf, smallOf, greatOf, wsOf, es_app, addLast_snoc, *]
      · (try simp only [Str.length_append]); omega
      · (try simp only [List.length_append, List.length_cons, List.length_nil]); omega
      · intro y hy; simp only [List.mem_append, List.mem_singleton] at hy; rcases hy with hy | rfl; exact Nat.le_succ_of_le (hlw y (by simp [hy])); (try simp only [Str.length_append]); omega
set_option maxHeartbeats 40000000 in
theorem c_built {w : World} {mean : ExcName → Option Value} {mg mb : Str → Option Value} {dp un : Nat} {fr : Option (List Env)} {gd : Option (List Code)} {s : Shared} {Q E : Value → Shared → Prop} {prog : Program}
    (H : Here w mean mg mb s.heap) (hd : dp < 900)
    {ld : Addr} {vs : List Value} {ns : List Int} (hi : IntsAre vs ns) (hp : s.heap.IsList ld vs.toArray) (hlen : vs.length < 100) (hns : ns[0]? = some 0)
    (hret : ∀ a lw lsg h' tk n nw nsg wv sv tl tr, (∀ b o, s.heap.get? b = some o → h'.get? b = some o) → h'.get? a = some (W.listOf #[.str (ns.foldl lstep (Str.ofString "", [])).1 tl, .str (ns.foldl rstep (Str.ofString "", [])).1 tr, .ref lw, .ref lsg] n) → h'.get? lw = some (W.listOf (List.toArray wv) nw) → h'.get? lsg = some (W.listOf (List.toArray sv) nsg) → StrsAre wv (ns.foldl lstep (Str.ofString "", [])).2 → StrsAre sv (ns.foldl rstep (Str.ofString "", [])).2 → s.heap.get? a = none → s.heap.get? lw = none → s.heap.get? lsg = none → Q (.ref a) { s with heap := h', toks := tk }) :
    wpAny (model prog w) (AA dp un fr gd) (call (.ref 36) [.ref ld]) Q E s := by
  have X := H.X
  have T := H.T
  refine enter (binds := [(Str.ofString "drawn", .ref ld)]) X T rfl rfl (by show dp < recursionLimit; simp only [recursionLimit]; omega) (BindsTo.of_eq rfl) (locs rfl) (by decide) (fun L h₁ F N => ?_)
  repeat' kat_tups
  refine forBase (σ := (Str × Nat) × (Str × Nat) × (List Value × Addr × Nat) × (List Value × Addr × Nat)) (fun c => [(c.2.2.2.2.1, W.listOf c.2.2.2.1.toArray c.2.2.2.2.2), (c.2.2.1.2.1, W.listOf c.2.2.1.1.toArray c.2.2.1.2.2)]) (fun c => [(Str.ofString "line", .str c.1.1 c.1.2), (Str.ofString "row", .str c.2.1.1 c.2.1.2), (Str.ofString "words", .ref c.2.2.1.2.1), (Str.ofString "sought", .ref c.2.2.2.2.1)]) [Str.ofString "kind", Str.ofString "more", Str.ofString "small", Str.ofString "great"]
    (fun i c => c.2.2.1.2.1 ≠ c.2.2.2.2.1 ∧ c.1.1.length ≤ 4 * i ∧ c.2.1.1.length ≤ 4 * i ∧ c.2.2.1.1.length ≤ i ∧ c.2.2.2.1.length ≤ i ∧ (0 < i → c.2.2.1.1 ≠ [] ∧ c.2.2.2.1 ≠ []) ∧ ∃ wss sss, StrsAre c.2.2.1.1 wss ∧ StrsAre c.2.2.2.1 sss ∧ (ns.take i).foldl lstep (Str.ofString "", []) = (c.1.1, wss) ∧ (ns.take i).foldl rstep (Str.ofString "", []) = (c.2.1.1, sss) ∧ (∀ y ∈ wss, y.length ≤ i) ∧ (∀ y ∈ sss, y.length ≤ i))
    ((_, _), (_, _), ([], _, 0), ([], _, 0)) rfl hp ?_ (by assumption) (by assumption) (by kas_types) ?_ ?_ ?_
  · intro c p hp
    simp only [List.mem_cons, List.not_mem_nil, or_false] at hp
    rcases hp with rfl | rfl <;> exact not_it_seq
  · refine ⟨?_, (by show (Str.ofString "").length ≤ 0; decide +kernel), (by show (Str.ofString "").length ≤ 0; decide +kernel), Nat.le_refl _, Nat.le_refl _, fun h => absurd h (Nat.lt_irrefl _), [], [], .nil, .nil, rfl, rfl, List.forall_mem_nil _, List.forall_mem_nil _⟩
    k_ne
  · rintro ⟨⟨line, tl⟩, ⟨row, tr⟩, ⟨wv, wa, wn⟩, ⟨sv, sa, sn⟩⟩ i v u h tk I oI hv ⟨hws, l6, l7, l8, l9, hnn, wss, sss, hw, hs, hl, hr, hlw, hls⟩ hne F₁ N₁
    dsimp only at hws l6 l7 l8 l9 hnn hw hs hl hr hlw hls F₁ N₁
    obtain ⟨x, tx, rfl, hxn⟩ := hi.at i v hv
    have hil : i < vs.length := (List.getElem?_eq_some_iff.mp hv).1
    have hi0 : x.fmod 8 ≠ 0 → 0 < i := first_class hns hxn
    have hIw : wa ≠ I := hne _ (.tail _ (.head _))
    have hIs : sa ≠ I := hne _ (.head _)
    (with_reducible show wpAny _ _ _ _ _ _)
    k_fold
    repeat' ((fail_if_success (with_reducible show wpAny _ _ (exec (Stmt.If _ _ _ _) _) _ _ _)); kat_tups)
    rename Fr _ _ _ _ => F9
    rename News _ _ _ _ => N9
    refine t_line H F9 (news3 N9 (a := (wa, W.listOf wv.toArray wn)) (b := (sa, W.listOf sv.toArray sn)) (c := (I, oI)) (by k_mem) (by k_mem) (by k_mem)) hws hIw (by exact rfl) (by exact rfl) (by exact rfl) (by exact rfl) (by exact rfl) (by exact rfl) hw (fun e => (hnn (hi0 e)).1) (by omega) (by omega) hlw (by omega) ?_
    intro h2 tk2 m2 line' tl' wa' wv' wss' wn' F2 N2 n1 n2 hw' hl' w1 w2 w3 w4 w5 w6 w7
    clear F9 N9 F₁ N₁
    (with_reducible show wpAny _ _ _ _ _ _)
    repeat' ((fail_if_success (with_reducible show wpAny _ _ (exec (Stmt.If _ _ _ _) _) _ _ _)); kat_tups)
    refine t_row H F2 (news3 N2 (a := (sa, W.listOf sv.toArray sn)) (b := (wa', W.listOf wv'.toArray wn')) (c := (I, oI)) (by k_mem) (by k_mem) (by k_mem)) (fun e => n1 e.symm) hIs (by exact (w3 _ (by decide +kernel) (by decide +kernel)).trans rfl) (by exact (w3 _ (by decide +kernel) (by decide +kernel)).trans rfl) (by exact (w3 _ (by decide +kernel) (by decide +kernel)).trans rfl) (by exact (w3 _ (by decide +kernel) (by decide +kernel)).trans rfl) (by exact (w3 _ (by decide +kernel) (by decide +kernel)).trans rfl) (by exact (w3 _ (by decide +kernel) (by decide +kernel)).trans rfl) hs (fun e => (hnn (hi0 e)).2) (by omega) (by omega) hls (by omega) ?_
    intro h3 tk3 m3 row' tr' sa' sv' sss' sn' F3 N3 o1 o2 hs' hr' v1 v2 v3 v4 v5 v6 v7
    clear F2 N2
    (with_reducible show wpAny _ _ _ _ _ _)
    repeat' kat_tups
    have g1 : m3 (Str.ofString "line") = some (.str line' tl') := (v3 _ (by decide +kernel) (by decide +kernel)).trans w1
    have g2 : m3 (Str.ofString "words") = some (.ref wa') := (v3 _ (by decide +kernel) (by decide +kernel)).trans w2
    refine' tEnd ((line', tl'), (row', tr'), (wv', wa', wn'), (sv', sa', sn')) F3 N3 ?h1x1 ?h2x1 ?h3x1 ?h4x1 ?h5x1
    (case h1x1 => k_mem)
    (case h2x1 => (refine' List.forall_mem_cons.mpr ⟨?_, List.forall_mem_cons.mpr ⟨?_, List.forall_mem_nil _⟩⟩ <;> k_mem))
    (case h3x1 => exact List.forall_mem_cons.mpr ⟨g1, List.forall_mem_cons.mpr ⟨v1, List.forall_mem_cons.mpr ⟨g2, List.forall_mem_cons.mpr ⟨v2, List.forall_mem_nil _⟩⟩⟩⟩)
    (case h4x1 =>
      intro z q1 q2 q3
      have a1 : z ≠ Str.ofString "line" := q2 _ (.head _)
      have a2 : z ≠ Str.ofString "row" := q2 _ (.tail _ (.head _))
      have a3 : z ≠ Str.ofString "words" := q2 _ (.tail _ (.tail _ (.head _)))
      have a4 : z ≠ Str.ofString "sought" := q2 _ (.tail _ (.tail _ (.tail _ (.head _))))
      refine (v3 z a2 a4).trans ((w3 z a1 a3).trans ?_)
      clear a1 a2 a3 a4
      revert z
      krn_off)
    dsimp only
    refine ⟨fun e => o1 e.symm, by omega, by omega, by omega, by omega, fun _ => ⟨w6, v6⟩, _, _, hw', hs', ?_, ?_, w7, v7⟩
    · rw [take_fold _ _ hxn, hl]; exact hl'
    · rw [take_fold _ _ hxn, hr]; exact hr'
  · rintro ⟨⟨line, tl⟩, ⟨row, tr⟩, ⟨wv, wa, wn⟩, ⟨sv, sa, sn⟩⟩ u h tk ⟨hws, l6, l7, l8, l9, hnn, wss, sss, hw, hs, hl, hr, hlw, hls⟩ F₁ N₁
    dsimp only at hws l6 l7 l8 l9 hnn hw hs hl hr hlw hls F₁ N₁
    rw [show vs.length = ns.length from hi.length, List.take_length] at hl hr
    repeat' kat_tups
    rename Fr _ _ _ _ => F9
    rename News _ _ _ _ => N9
    exact hret _ _ _ _ _ _ _ _ _ _ _ _ F9.keep (by rw [hl, hr]; exact (N9 _ (.head _)).1) (N9 _ (.tail _ (.tail _ (.head _)))).1 (N9 _ (.tail _ (.head _))).1 (by rw [hl]; exact hw) (by rw [hr]; exact hs) (N9 _ (.head _)).2.2 (N9 _ (.tail _ (.tail _ (.head _)))).2.2 (N9 _ (.tail _ (.head _))).2.2
set_option maxHeartbeats 4000000 in
theorem c_takes {w : World} {mean : ExcName → Option Value} {mg mb : Str → Option Value} {dp un : Nat} {fr : Option (List Env)} {gd : Option (List Code)} {s : Shared} {Q E : Value → Shared → Prop} {prog : Program}
    (H : Here w mean mg mb s.heap) (hd : dp < 900) (hun : un < 5000)
    {text name last e0 e1 front : Str} {ini mids : List Str} {tt tn : Tok} (hzt : text.length ≤ 10000) (hzn : name.length ≤ 10000) (hzl : last.length ≤ 10000) (hzi : ini.length ≤ 10000) (hzf : front.length ≤ 10000) (hzm : ∀ p ∈ mids, p.length ≤ 10000) (hze : e1.length ≤ 10000)
    (h1 : Txt.slice text none (some 4) = Str.ofString "(?s:") (h2 : Txt.slice text (some (-3)) none = Str.ofString ")\\Z")
    (h4 : Txt.split (Txt.slice text (some 4) (some (-3))) (Str.ofString "(?>.*?") = ini ++ [last]) (h5 : Txt.split last (Str.ofString ".*") = [e0, e1]) (h6 : ini ++ [e0] = front :: mids)
    (h7 : ∀ p ∈ mids, Txt.slice p (some (-1)) none = Str.ofString ")")
    (hret : ∀ h' tk, (∀ b o, s.heap.get? b = some o → h'.get? b = some o) → Q (.bool (takesB name front mids e1)) { s with heap := h', toks := tk }) :
    wpAny (model prog w) (AA dp un fr gd) (call (.ref 46) [.str text tt, .str name tn]) Q E s := by
  have X := H.X
  have T := H.T
  have g1 : (Txt.slice text none (some 4) != Str.ofString "(?s:") = false := by rw [h1]; simp
  have g2 : (Txt.slice text (some (-3)) none != Str.ofString ")\\Z") = false := by rw [h2]; simp
  have g3 := Txt.slice_le text (some 4) (some (-3))
  have g6 := congrArg List.length h6
  simp only [List.length_append, List.length_cons, List.length_nil] at g6
  refine enter (binds := [(Str.ofString "text", .str text tt), (Str.ofString "name", .str name tn)]) X T rfl rfl (by show dp < recursionLimit; simp only [recursionLimit]; omega) (BindsTo.of_eq rfl) (locs rfl) (by decide) (fun L h₁ F N => ?_)
  repeat' kat_tups
  refine lcE (cl := []) (fun _ => false) (fun _ _ => True) rfl (by with_unfolding_all rfl) (by decide) rfl (by decide) rfl ?_ (by intro _; rfl)
  repeat' kat_tups
  rename Fr _ _ _ _ => F9
  rename News _ _ _ _ => N9
  rename StrsAre _ mids => hm9
  have hg7 : ∀ v ∈ _, ∃ (p : Str) (t : Tok), v = Value.str p t ∧ p.length ≤ 10000 ∧ (Txt.slice p (some (-1)) none != Str.ofString ")") = false := fun v hv => by
    obtain ⟨p, hp, t, rfl⟩ := strs_mem hm9 v hv
    exact ⟨p, t, rfl, hzm p hp, by rw [h7 p hp]; simp⟩
  refine ⟨_, _, _, _, _, rfl, isn N9 (.head _), by omega, F9, N9, ⟨fun C v s₃ m₃ hv K hm => ?_, fun C v s₃ m₃ hv hp => by cases hp⟩, fun D h' tk n ys hp F' N' hne => ?_⟩
  · obtain ⟨p, t, rfl, hpz, hg⟩ := hg7 v hv
    clear F9 N9
    refine forIn1 ?_
    repeat' kat_tups
    rename Cf _ _ _ _ _ => K9
    first | exact ⟨_, _, rfl, K9.keep⟩ | exact ⟨rfl, _, _, rfl, K9.keep⟩
  have hys := paired_none hp
  subst hys
  clear F9 N9 hp
  (with_reducible show wpAny _ _ _ _ _ _)
  k_fold
  repeat' kat_tups
  · rename (_ != _) = true => e9
    rename Fr _ _ _ _ => F9
    have e8 : takesB name front mids e1 = false := by unfold takesB; rw [if_pos e9]
    rw [e8] at hret
    exact hret _ _ F9.keep
  rename (_ != _) = false => e9
  rename Fr _ _ _ _ => F9
  rename News _ _ _ _ => N9
  refine forLed (σ := Int × Nat) (fun _ => _) (fun c => [(Str.ofString "spot", .int c.1 c.2)]) [Str.ofString "place"] (fun i c => tGo name (mids.drop i) c.1 = tGo name mids front.length) ((front.length : Int), _) rfl (fun _ => .head _) ?_ F9 (news2 N9 (.head _) (.tail _ (.tail _ (.tail _ (.tail _ (.tail _ (.tail _ (.tail _ (.head _))))))))) (by kas_types) rfl ?_ ?_
  · intro c p hp
    simp only [List.mem_cons, List.not_mem_nil, or_false] at hp
    rcases hp with rfl | rfl <;> exact not_it_seq
  · clear F9 N9
    rintro ⟨spot, ts⟩ i v u h tk I oI hv hP hne F₁ N₁
    dsimp only at hP F₁ N₁
    obtain ⟨p, t, rfl, hp⟩ := strs_at hm9 hv
    rw [drop_at hp, tGo] at hP
    have hpz := hzm p (List.mem_of_getElem? hp)
    (with_reducible show wpAny _ _ _ _ _ _)
    k_fold
    repeat' kat_tups
    · rename _ < 0 => q9
      rename Fr _ _ _ _ => F9
      rw [if_pos q9] at hP
      have e8 : takesB name front mids e1 = false := by unfold takesB; rw [e9, if_neg (by decide), ← hP]
      rw [e8] at hret
      exact hret _ _ F9.keep
    · rename ¬ (_ < 0) => q9
      rename Fr _ _ _ _ => F9
      rename News _ _ _ _ => N9
      rw [if_neg q9] at hP
      refine tEnd (_, _) F9 N9 (.head _) (fun p hp => .tail _ hp) (by kas_types) (by krn_off) ?_
      exact hP
  · clear F9 N9
    rintro ⟨spot, ts⟩ u h tk hP F₁ N₁
    dsimp only at hP F₁ N₁
    have hP' : tGo name mids front.length = some spot := by
      rw [← hP, List.drop_eq_nil_of_le (by rw [← hm9.length]; exact Nat.le_refl _)]
      rfl
    have e8 : takesB name front mids e1 = (decide (spot ≤ (name.length : Int) - e1.length) && (Txt.slice name (some ((name.length : Int) - e1.length)) none == e1)) := by unfold takesB; rw [e9, if_neg (by decide), hP']
    rw [e8] at hret
    repeat' kat_tups
    all_goals first
      | (rename _ ≤ ((_ : Int) - _) => q9; rename Fr _ _ _ _ => F9; rw [decide_eq_true q9, Bool.true_and] at hret; exact hret _ _ F9.keep)
      | (rename ¬ (_ ≤ ((_ : Int) - _)) => q9; rename Fr _ _ _ _ => F9; have d9 := decide_eq_false q9; rw [d9, Bool.false_and] at hret; rw [d9]; exact hret _ _ F9.keep)
set_option maxHeartbeats 4000000 in
theorem c_found {w : World} {mean : ExcName → Option Value} {mg mb : Str → Option Value} {dp un : Nat} {fr : Option (List Env)} {gd : Option (List Code)} {s : Shared} {Q E : Value → Shared → Prop} {prog : Program}
    (H : Here w mean mg mb s.heap) (hd : dp < 900) (hun : un < 5000)
    {ls lw : Addr} {vs ws : List Value} {ss wss : List Str} {ahead behind : Bool} (hvs : StrsAre vs ss) (hws : StrsAre ws wss)
    (hp : s.heap.IsList ls vs.toArray) (hpw : s.heap.IsList lw ws.toArray) (hlen : vs.length < 1000) (hlenw : ws.length < 1000) (hzs : ∀ y ∈ ss, y.length ≤ 10000) (hzw : ∀ y ∈ wss, y.length ≤ 10000)
    (hret : ∀ h' tk, (∀ b o, s.heap.get? b = some o → h'.get? b = some o) → Q (.bool (foundB ss wss ahead behind)) { s with heap := h', toks := tk }) :
    wpAny (model prog w) (AA dp un fr gd) (call (.ref 41) [.ref ls, .ref lw, .bool ahead, .bool behind]) Q E s := by
  have X := H.X
  have T := H.T
  refine enterC (binds := [(Str.ofString "sought", .ref ls), (Str.ofString "words", .ref lw), (Str.ofString "ahead", .bool ahead), (Str.ofString "behind", .bool behind)]) X T rfl rfl (by show dp < recursionLimit; simp only [recursionLimit]; omega) rfl rfl (by decide +kernel) (fun L h₁ tk cells F N Y => ?_)
  obtain ⟨o1, o2, o3, hE, d1, d2, d3⟩ := CellsAre.three Y
  subst hE
  clear Y
  replace d1 : o1.data = .cell none := d1
  replace d2 : o2.data = .cell none := d2
  replace d3 : o3.data = .cell (some (.ref lw)) := d3
  repeat' kat_tups
  refine forRange (σ := List Value × Addr × Nat × CellObj × CellObj) (fun c => [(c.2.1, W.listOf c.1.toArray c.2.2.1), (L + 1 + 1 + 1, c.2.2.2.1.1), (L + 1 + 1, c.2.2.2.2.1), (L + 1, o3)]) (fun c => [(Str.ofString "ways", .ref c.2.1)]) []
    (fun i c => (c.2.1 ≠ L + 1 + 1 + 1 ∧ c.2.1 ≠ L + 1 + 1 ∧ c.2.1 ≠ L + 1) ∧ ∃ ns, IntsAre c.1 ns ∧ c.1.length ≤ 1000 ∧ fGo wss ahead behind ss.length (ss.drop i) i ns = fGo wss ahead behind ss.length ss 0 [-1])
    ([.int (-1) _], _, 0, ⟨o1, _, d1⟩, ⟨o2, _, d2⟩) rfl (by assumption) (small_one (by decide) (by decide) (by omega) (by omega)) (n := vs.length) (by rw [rangeSize_nat]; simp) ?_ (by assumption) (by assumption) (by kas_types) ?_ ?_ ?_
  · rintro ⟨ways, a, n, ⟨oL, vL, dL⟩, ⟨oO, vO, dO⟩⟩ p hp
    simp only [List.mem_cons, List.not_mem_nil, or_false] at hp
    rcases hp with rfl | rfl | rfl | rfl
    · exact not_it_seq
    · exact not_it_cell dL
    · exact not_it_cell dO
    · exact not_it_cell d3
  · exact ⟨⟨by k_ne, by k_ne, by k_ne⟩, [-1], .cons _ _ .nil, by simp, rfl⟩
  · rintro ⟨ways, a, n, ⟨oL, vL, dL⟩, ⟨oO, vO, dO⟩⟩ i t u h tk I oI hi ⟨⟨n1, n2, n3⟩, ns, hns, hwl, hgo⟩ hne F₁ N₁
    dsimp only at n1 n2 n3 hns hwl hgo F₁ N₁ hne
    replace n1 := neN n1
    replace n2 := neN n2
    replace n3 := neN n3
    replace hne := fun p hp => neN (hne p hp)
    simp only [List.forall_mem_cons, List.not_mem_nil, false_implies, implies_true, and_true] at hne
    have hil : i < ss.length := by rw [← hvs.length]; exact hi
    obtain ⟨t1, hv⟩ := hvs.get i ss[i] (by simp [hil])
    have hdr : ss.drop i = ss[i] :: ss.drop (i + 1) := List.drop_eq_getElem_cons hil
    have hzo := hzs ss[i] (List.getElem_mem hil)
    rw [hdr, fGo] at hgo
    generalize ss[i] = one at hv hgo hzo hdr
    have hwlen : ws.length = wss.length := hws.length
    repeat' kat_tups
    refine lcR (intP fun j => decide (leastOf ns (ws.length : Int) < j) && (Txt.slice (wAt wss j) none (some (one.length : Int)) == one)) (fun v y => y = v) rfl (by with_unfolding_all rfl) (by with_unfolding_all rfl) (by decide) rfl (by decide) rfl rfl rfl ?_ (by intro _; rfl)
    repeat' kat_tups
    rename Fr _ _ _ _ => F9
    rename News _ _ _ _ => N9
    have gL := (N9 (L + 1 + 1 + 1, _) (by k_mem)).1
    have gO := (N9 (L + 1 + 1, _) (by k_mem)).1
    have gW := (N9 (L + 1, _) (by k_mem)).1
    have hb := isl F9 hpw
    have H9 := H.keeps F9.keep
    refine ⟨_, _, _, _, _, ws.length, _, _, _, rfl, by assumption, small_one (by decide) (by decide) (by omega) (by omega), by rw [rangeSize_nat]; simp, by omega, F9, N9, ⟨fun C v s₃ m₃ hv K hm => ?_, fun C v s₃ m₃ hv hp K hm => ?_⟩, fun D h' tk nn vs' ys hl hvi hp F' N' hne' => ?_⟩
    · obtain ⟨j, tj, hj, rfl⟩ := hv
      have hjl : j < wss.length := by omega
      obtain ⟨tw, hvj⟩ := hws.get j wss[j] (by simp [hjl])
      have hzj := hzw wss[j] (List.getElem_mem hjl)
      have hwa : wAt wss (j : Int) = wss[j] := by simp [wAt, hjl]
      refine forIn1 ?_
      clear F9 N9
      repeat' kat_tups
      all_goals first
        | ((with_reducible show Keeps _ _); rename Cf _ _ _ _ _ => K9; exact ⟨_, _, rfl, K9.keep⟩)
        | (clear hwlen; simp [intP, hwa, *]; done)
    · clear F9 N9
      repeat' kat_tups
      all_goals first
        | ((with_reducible show Keeps _ _); exact ⟨_, _, rfl, K.keep⟩)
        | rfl
    clear F9 gL gO gW hb H9 N9
    have hi1 := fw1_ints (hl.trans hwlen) hvi hp
    have l1w := fw1_len wss one (leastOf ns (ws.length : Int))
    have l1r : ∀ j ∈ fw1 wss one (leastOf ns (ws.length : Int)), 0 ≤ j ∧ j < wss.length := fun j hj => fw1_range hj
    rw [fStep, ← hwlen] at hgo
    clear hp hl hvi
    generalize fw1 wss one (leastOf ns (ws.length : Int)) = w1 at hi1 hgo l1w l1r
    have N2 := news5 N' (.head _) (.tail _ (.tail _ (.tail _ (.head _)))) (.tail _ (.tail _ (.tail _ (.tail _ (.tail _ (.head _)))))) (.tail _ (.tail _ (.tail _ (.tail _ (.tail _ (.tail _ (.head _))))))) (.tail _ (.tail _ (.tail _ (.tail _ (.tail _ (.tail _ (.tail _ (.head _))))))))
    have hne2 := ne4 hne' (.tail _ (.tail _ (.head _))) (.tail _ (.tail _ (.tail _ (.tail _ (.head _))))) (.tail _ (.tail _ (.tail _ (.tail _ (.tail _ (.head _)))))) (.tail _ (.tail _ (.tail _ (.tail _ (.tail _ (.tail _ (.head _)))))))
    clear N' hne'
    (with_reducible show wpAny _ _ _ _ _ _)
    repeat' ((fail_if_success (with_reducible show wpAny _ _ (exec (Stmt.If _ _ _ _) _) _ _ _)); kat_tups)
    refine ifJoin F' N2 (fw2 ahead i w1) ?_ fun D h' tk nn ys F' N' hi2 hne2 => ?_
    · repeat' kat_tups
      · have e : fw2 ahead i w1 = w1 := by unfold fw2; rw [if_neg (by simp [*])]
        rw [e]
        exact fEnd_same F' N2 hi1 hne2
      · have e : fw2 ahead i w1 = w1.filter (fun j => j == 0) := by
          unfold fw2
          rw [if_pos ⟨by omega, by assumption⟩]
        rw [e]
        refine lcA (intP fun j => j == 0) (fun v y => y = v) rfl (by with_unfolding_all rfl) (by with_unfolding_all rfl) (by decide) rfl (by decide) rfl rfl rfl ?_ (by intro _; rfl)
        repeat' kat_tups
        refine ⟨_, ys, _, _, _, rfl, isn N2 (.head _), by rw [hi1.length]; omega, F', N2, ⟨fun C v s₃ m₃ hv K hm => ?_, fun C v s₃ m₃ hv hp K hm => ?_⟩, fun D9 h9 tk9 n9 ys9 hp9 F9 N9 hne9 => ?_⟩
        · obtain ⟨j, tj, rfl, hj⟩ := ints_mem hi1 v hv
          refine forIn1 ?_
          clear F' N2
          repeat' kat_tups
          all_goals first
            | ((with_reducible show Keeps _ _); exact ⟨_, _, rfl, K.keep⟩)
            | (simp [intP]; done)
            | (simp [intP, *]; done)
        · clear F' N2
          repeat' kat_tups
          all_goals first
            | ((with_reducible show Keeps _ _); exact ⟨_, _, rfl, K.keep⟩)
            | rfl
        · clear F' N2
          repeat' kat_tups
          exact fEnd_new F9 N9 (by rw [paired_eq hp9]; exact ints_filter _ hi1) hne9
      · have e : fw2 ahead i w1 = w1 := by unfold fw2; rw [if_neg (fun q => by have := q.1; omega)]
        rw [e]
        exact fEnd_same F' N2 hi1 hne2
    have l2w := fw2_len ahead i w1
    have l2r : ∀ j ∈ fw2 ahead i w1, 0 ≤ j ∧ j < wss.length := fun j hj => l1r j (fw2_sub hj)
    generalize fw2 ahead i w1 = w2 at hi2 hgo l2w l2r
    (with_reducible show wpAny _ _ _ _ _ _)
    repeat' ((fail_if_success (with_reducible show wpAny _ _ (exec (Stmt.If _ _ _ _) _) _ _ _)); kat_tups)
    refine ifJoin F' N' (fw3 wss behind ss.length i one w2) ?_ fun D h' tk nn ys F' N' hi2 hne2 => ?_
    · have hvl := hvs.length
      repeat' kat_tups
      · have e : fw3 wss behind ss.length i one w2 = w2 := by unfold fw3; rw [if_neg (by simp [*])]
        rw [e]
        exact fEnd_same F' N' hi2 hne2
      · have e : fw3 wss behind ss.length i one w2 = w2.filter (fun j => (j == (wss.length : Int) - 1) && (wAt wss j == one)) := by
          unfold fw3
          rw [if_pos ⟨by omega, by assumption⟩]
        rw [e]
        refine lcA (intP fun j => (j == (wss.length : Int) - 1) && (wAt wss j == one)) (fun v y => y = v) rfl (by with_unfolding_all rfl) (by with_unfolding_all rfl) (by decide) rfl (by decide) rfl rfl rfl ?_ (by intro _; rfl)
        repeat' kat_tups
        have gO := (N' (L + 1 + 1, _) (by k_mem)).1
        have gW := (N' (L + 1, _) (by k_mem)).1
        have hb := isl F' hpw
        have H9 := H.keeps F'.keep
        refine ⟨_, ys, _, _, _, rfl, isn N' (.head _), by rw [hi2.length]; omega, F', N', ⟨fun C v s₃ m₃ hv K hm => ?_, fun C v s₃ m₃ hv hp K hm => ?_⟩, fun D9 h9 tk9 n9 ys9 hp9 F9 N9 hne9 => ?_⟩
        · obtain ⟨j, tj, rfl, hj⟩ := ints_mem hi2 v hv
          obtain ⟨hj0, hj1⟩ := l2r j hj
          obtain ⟨k, rfl⟩ := Int.eq_ofNat_of_zero_le hj0
          have hjl : k < wss.length := by omega
          obtain ⟨tw, hvj⟩ := hws.get k wss[k] (by simp [hjl])
          have hzj := hzw wss[k] (List.getElem_mem hjl)
          have hwa : wAt wss (k : Int) = wss[k] := by simp [wAt, hjl]
          refine forIn1 ?_
          clear F' N'
          repeat' kat_tups
          all_goals first
            | ((with_reducible show Keeps _ _); exact ⟨_, _, rfl, K.keep⟩)
            | ((show _ = (((k : Int) == (wss.length : Int) - 1) && (wAt wss (k : Int) == one))); rw [hwa, ← hwlen]; clear hwlen; simp [*]; done)
        · clear F' N'
          repeat' kat_tups
          all_goals first
            | ((with_reducible show Keeps _ _); exact ⟨_, _, rfl, K.keep⟩)
            | rfl
        · clear F' N'
          repeat' kat_tups
          exact fEnd_new F9 N9 (by rw [paired_eq hp9]; exact ints_filter _ hi2) hne9
      · have e : fw3 wss behind ss.length i one w2 = w2 := by unfold fw3; rw [if_neg (fun q => by have := q.1; omega)]
        rw [e]
        exact fEnd_same F' N' hi2 hne2
    have l3w := fw3_len wss behind ss.length i one w2
    (with_reducible show wpAny _ _ _ _ _ _)
    repeat' kat_tups
    have m1 := hne2 (L + 1 + 1 + 1, _) (.tail _ (.head _))
    have m2 := hne2 (L + 1 + 1, _) (.tail _ (.tail _ (.head _)))
    have m3 := hne2 (L + 1, _) (.tail _ (.tail _ (.tail _ (.head _))))
    refine' tEnd (ys, D, nn, ⟨_, _, ?d1⟩, ⟨_, _, ?d2⟩) F' N' (.tail _ (.head _)) ?h2 (by kas_types) (by krn_off) ⟨⟨m1.symm, m2.symm, m3.symm⟩, _, hi2, ?h5, hgo⟩
    (case h2 => (refine' List.forall_mem_cons.mpr ⟨?_, List.forall_mem_cons.mpr ⟨?_, List.forall_mem_cons.mpr ⟨?_, List.forall_mem_cons.mpr ⟨?_, List.forall_mem_nil _⟩⟩⟩⟩ <;> k_mem))
    (case d1 => assumption)
    (case d2 => assumption)
    (case h5 => (show ys.length ≤ 1000; rw [hi2.length]; omega))
  · rintro ⟨ways, a, n, ⟨oL, vL, dL⟩, ⟨oO, vO, dO⟩⟩ u h tk ⟨_, ns, hns, hwl, hgo⟩ F₁ N₁
    dsimp only at hns hwl hgo F₁ N₁
    rw [List.drop_eq_nil_of_le (by rw [← hvs.length]; exact Nat.le_refl _), fGo] at hgo
    repeat' kat_tups
    rename Fr _ _ _ _ => F9
    have e : foundB ss wss ahead behind = !decide (ns = []) := by unfold foundB; rw [← hgo]
    rw [e] at hret
    exact hret _ _ F9.keep
set_option maxHeartbeats 4000000 in
theorem c_cap1 {w : World} {mean : ExcName → Option Value} {mg mb : Str → Option Value} {dp un : Nat} {fr : Option (List Env)} {gd : Option (List Code)} {s : Shared} {Q E : Value → Shared → Prop} {prog : Program}
    (H : Here w mean mg mb s.heap) (hd : dp < 900)
    {x : Str} {t : Tok} (hx : x.length ≤ 10000)
    (hret : ∀ h' tk t', (∀ b o, s.heap.get? b = some o → h'.get? b = some o) → 1 ≤ tk → Q (.str (Str.join (Str.ofString " ") ((Txt.words x).map Txt.capitalize)) t') { s with heap := h', toks := tk }) :
    wpAny (model prog w) (AA dp un fr gd) (call (.ref 29) [.str x t]) Q E s := by
  have X := H.X
  have T := H.T
  refine enter (binds := [(Str.ofString "s", .str x t), (Str.ofString "sep", .none)]) X T rfl rfl (by show dp < recursionLimit; simp only [recursionLimit]; omega) ?_ (locs rfl) (by decide) (fun L h₁ F N => ?_)
  · exact binds_K X rfl rfl rfl rfl rfl
  have hw := StrLaws.words_weight x
  have hw1 : ((Txt.words x).map (·.length)).sum ≤ 100000 := by omega
  have hw2 : (Txt.words x).length ≤ 100000 := by omega
  repeat' kat_tups
  refine hret _ _ _ (by assumption) ?_
  dsimp only at *
  omega
set_option maxHeartbeats 4000000 in
theorem c_cap2 {w : World} {mean : ExcName → Option Value} {mg mb : Str → Option Value} {dp un : Nat} {fr : Option (List Env)} {gd : Option (List Code)} {s : Shared} {Q E : Value → Shared → Prop} {prog : Program}
    (H : Here w mean mg mb s.heap) (hd : dp < 900)
    {x y : Str} {t u : Tok} {ys : List Str} (hx : x.length ≤ 10000) (he : Txt.split x y = ys) (hy : (y.length == 0) = false) (hy2 : y.length ≤ 10) (hw1 : (ys.map (·.length)).sum ≤ 100000) (hw2 : ys.length ≤ 100000)
    (hret : ∀ h' tk t', (∀ b o, s.heap.get? b = some o → h'.get? b = some o) → Q (.str (Str.join y (ys.map Txt.capitalize)) t') { s with heap := h', toks := tk }) :
    wpAny (model prog w) (AA dp un fr gd) (call (.ref 29) [.str x t, .str y u]) Q E s := by
  have X := H.X
  have T := H.T
  refine enter (binds := [(Str.ofString "s", .str x t), (Str.ofString "sep", .str y u)]) X T rfl rfl (by show dp < recursionLimit; simp only [recursionLimit]; omega) ?_ (locs rfl) (by decide) (fun L h₁ F N => ?_)
  · first | exact BindsTo.of_eq rfl | exact binds_K X rfl rfl rfl rfl rfl
  have hy0 : y.length ≠ 0 := by simpa using hy
  repeat' kat_tups
  all_goals first
    | exact hret _ _ _ (by assumption)
    | (exfalso; omega)
theorem news_keepA {h₀ h : Heap} {L : Addr} {news : List (Addr × Obj)} (N : News h₀ L h news) {news' : List (Addr × Obj)} (k : ∀ p ∈ news', p ∈ news) : News h₀ L h news' := fun p hp => N p (k p hp)
set_option maxHeartbeats 4000000 in
theorem c_turn {w : World} {mean : ExcName → Option Value} {mg mb : Str → Option Value} {dp un : Nat} {fr : Option (List Env)} {gd : Option (List Code)} {s : Shared} {Q : Flow → Shared → Prop} {E : Value → Shared → Prop} {prog : Program}
    {h₀ : Heap} {L fa : Addr} {cn : Str} {ccd : Value} {m : Str → Option Value}
    (H : Here w mean mg mb h₀) (hd : dp < 900) (hun : un < 5000) (F : Fr h₀ L s.heap m)
    {lst lp lw lsg : Addr} {vp wv sv : List Value} {np nw nsg : Nat} {ahead behind : Bool} {tn : Tok} {bs rs : List (List Nat × List Nat)}
    {news : List (Addr × Obj)} (N : News h₀ L s.heap ((lp, W.listOf vp.toArray np) :: (lw, W.listOf wv.toArray nw) :: (lsg, W.listOf sv.toArray nsg) :: news))
    (m1 : m (Str.ofString "parts") = some (.ref lp)) (m2 : m (Str.ofString "star") = some (.ref lst)) (m3 : m (Str.ofString "ahead") = some (.bool ahead)) (m4 : m (Str.ofString "behind") = some (.bool behind))
    (m5 : m (Str.ofString "name") = some (.str (S (nameL (lowB bs))) tn)) (m6 : m (Str.ofString "sought") = some (.ref lsg)) (m7 : m (Str.ofString "words") = some (.ref lw))
    (hvp : StrsAre vp (((lowB rs).map capL).map S)) (hwv : StrsAre wv (wordsB bs)) (hsv : StrsAre sv (wordsB rs))
    (hgb : ∀ b ∈ bs, Good b) (hgr : ∀ b ∈ rs, Good b) (hbne : bs ≠ []) (hr2 : 2 ≤ rs.length) (hzl : (flat bs).length ≤ 200) (hzr : (flat rs).length ≤ 200)
    (hret : ∀ h' tk t, Fr h₀ L h' (fun y => if y = Str.ofString "text" then some (.str (TT ahead behind ((lowB rs).map capL)) t) else m y) → News h₀ L h' ((lp, W.listOf vp.toArray np) :: (lw, W.listOf wv.toArray nw) :: (lsg, W.listOf sv.toArray nsg) :: news) → Q .next { s with heap := h', toks := tk }) :
    wpAny (model prog w) (AA dp un fr gd) (execs lawTurn (envOf cn lawS L fa ccd)) Q E s := by
  have hlr : (lowB rs).length = rs.length := by simp [lowB]
  have hlb : (lowB bs).length = bs.length := by simp [lowB]
  have hvpl := hvp.length
  simp only [List.length_map] at hvpl
  have hzz := lowB_flat hgr
  have hzb := lowB_flat hgb
  have hCz : ((lowB rs).map capL).flatten.length + ((lowB rs).map capL).length ≤ 200 := by
    have e : ((lowB rs).map capL).flatten.length = (lowB rs).flatten.length := by
      rw [List.length_flatten, List.length_flatten, List.map_map]
      congr 1
      exact List.map_congr_left fun q _ => capL_len q
    rw [e, List.length_map]
    omega
  have hC2 : 2 ≤ ((lowB rs).map capL).length := by rw [List.length_map]; omega
  have hlw := lowB_lw hgb
  have hls := lowB_lw hgr
  have hwne : lowB bs ≠ [] := by intro e; exact hbne (by simpa [lowB] using e)
  have hnl : (nameL (lowB bs)).length ≤ 10000 := by
    have e : (nameL (lowB bs)).length = (lowB bs).flatten.length := by
      unfold nameL
      rw [List.length_flatten, List.length_flatten, List.map_map]
      congr 1
      exact List.map_congr_left fun q _ => capL_len q
    omega
  have hwvl := hwv.length
  have hsvl := hsv.length
  rw [wordsB_eq] at hwvl hsvl hwv hsv
  simp only [List.length_map] at hwvl hsvl
  have hzs : ∀ y ∈ (lowB rs).map S, y.length ≤ 10000 := by
    intro y hy
    obtain ⟨q, hq, rfl⟩ := List.mem_map.mp hy
    have := mem_flat_len hq
    rw [S_len]
    omega
  have hzw : ∀ y ∈ (lowB bs).map S, y.length ≤ 10000 := by
    intro y hy
    obtain ⟨q, hq, rfl⟩ := List.mem_map.mp hy
    have := mem_flat_len hq
    rw [S_len]
    omega
  have hvne := strs_ne hvp (by rw [List.length_map]; exact hC2)
  obtain ⟨j1, j2, j3, j4⟩ := join_ready (st := .ref lst) hvp hC2 hCz ahead behind
  obtain ⟨ini, mids, last, e0, e1, front, z1, z2, z3, z4, z5, z6, t1, t2, t3, t4, t5, t6, t7⟩ := pack hlw hwne hls (by omega) (by omega) ahead behind
  clear hgb hgr hbne
  show wpAny _ _ (execs [_, _] (envOf _ ⟨_, _, _, _, _⟩ _ _ _)) _ _ _
  repeat' kat_tups
  refine c_row (H.keeps F.keep) hd (isn N (.head _)) (by omega) ?_
  intro a h' tk n hk hn ha
  have F8 := fr_keep F hk
  have N8 := news_add F (news_keep N hk) ha hn
  clear hk hn ha F N
  (with_reducible show wpAny _ _ _ _ _ _)
  repeat' kat_tups
  refine c_join (H.keeps F8.keep) hd (pre_strs hvp ahead) (rest_strs hvp ahead) (row_shape _ ahead behind hvne) (isn N8 (.head _)) j1 j2 j3 j4 ?_
  rw [txt_eq]
  intro h' tk t' hk
  have F9 := fr_keep F8 hk
  have N9 := news_keep N8 hk
  clear hk F8 N8
  (with_reducible show wpAny _ _ _ _ _ _)
  repeat' kat_tups
  rename Fr _ _ _ _ => F9
  rename News _ _ _ _ => N9
  refine c_takes (H.keeps F9.keep) hd hun z1 (by rw [S_len]; exact hnl) z2 z3 z4 z5 z6 t1 t2 t3 t4 t5 t6 ?_
  rw [t7]
  intro h' tk hk
  have F8 := fr_keep F9 hk
  have N8 := news_keep N9 hk
  clear hk F9 N9
  (with_reducible show wpAny _ _ _ _ _ _)
  repeat' kat_tups
  refine c_found (H.keeps F8.keep) hd hun hsv hwv (isn N8 (by k_mem)) (isn N8 (by k_mem)) (by omega) (by omega) hzs hzw ?_
  intro h' tk hk
  have F9 := fr_keep F8 hk
  have N9 := news_keep N8 hk
  clear hk F8 N8
  (with_reducible show wpAny _ _ _ _ _ _)
  have hcmp : (foundB ((lowB rs).map S) ((lowB bs).map S) ahead behind != foundB ((lowB rs).map S) ((lowB bs).map S) ahead behind) = false := by simp
  repeat' kat_tups
  exact hret _ _ _ F9 (fun p hp => N9 p (.tail _ hp))
theorem upd_eq (m : Str → Option Value) (k : Str) (v : Value) : (fun y => if y = k then some v else m y) k = some v := if_pos rfl
theorem rot3 {h₀ h : Heap} {L : Addr} {x y a b c : Addr × Obj} {news : List (Addr × Obj)} (N : News h₀ L h (x :: y :: a :: b :: c :: news)) : News h₀ L h (a :: b :: c :: x :: y :: news) := fun p hp => N p (by
  simp only [List.mem_cons] at hp ⊢
  rcases hp with h | h | h | h | h | h
  · exact .inr (.inr (.inl h))
  · exact .inr (.inr (.inr (.inl h)))
  · exact .inr (.inr (.inr (.inr (.inl h))))
  · exact .inl h
  · exact .inr (.inl h)
  · exact .inr (.inr (.inr (.inr (.inr h)))))
theorem unrot3 {p x y a b c : Addr × Obj} {news : List (Addr × Obj)} (hp : p ∈ y :: a :: b :: c :: news) : p ∈ a :: b :: c :: x :: y :: news := by
  simp only [List.mem_cons] at hp ⊢
  rcases hp with h | h | h | h | h
  · exact .inr (.inr (.inr (.inr (.inl h))))
  · exact .inl h
  · exact .inr (.inl h)
  · exact .inr (.inr (.inl h))
  · exact .inr (.inr (.inr (.inr (.inr h))))
set_option maxHeartbeats 4000000 in
theorem c_for2 {w : World} {mean : ExcName → Option Value} {mg mb : Str → Option Value} {dp un : Nat} {fr : Option (List Env)} {gd : Option (List Code)} {s : Shared} {Q : Flow → Shared → Prop} {prog : Program}
    {h₀ : Heap} {L fa : Addr} {cn : Str} {ccd : Value} {m : Str → Option Value}
    (H : Here w mean mg mb h₀) (hd : dp < 900) (hun : un < 5000) (F : Fr h₀ L s.heap m)
    {lst lp lw lsg : Addr} {vp wv sv : List Value} {np nw nsg : Nat} {ahead : Bool} {tn : Tok} {bs rs : List (List Nat × List Nat)}
    {news : List (Addr × Obj)} (N : News h₀ L s.heap ((lp, W.listOf vp.toArray np) :: (lw, W.listOf wv.toArray nw) :: (lsg, W.listOf sv.toArray nsg) :: news))
    (m1 : m (Str.ofString "parts") = some (.ref lp)) (m2 : m (Str.ofString "star") = some (.ref lst)) (m3 : m (Str.ofString "ahead") = some (.bool ahead))
    (m5 : m (Str.ofString "name") = some (.str (S (nameL (lowB bs))) tn)) (m6 : m (Str.ofString "sought") = some (.ref lsg)) (m7 : m (Str.ofString "words") = some (.ref lw))
    (hvp : StrsAre vp (((lowB rs).map capL).map S)) (hwv : StrsAre wv (wordsB bs)) (hsv : StrsAre sv (wordsB rs))
    (hgb : ∀ b ∈ bs, Good b) (hgr : ∀ b ∈ rs, Good b) (hbne : bs ≠ []) (hr2 : 2 ≤ rs.length) (hzl : (flat bs).length ≤ 200) (hzr : (flat rs).length ≤ 200)
    (hret : ∀ h' tk m' t, Fr h₀ L h' m' → m' (Str.ofString "text") = some (.str (TT ahead true ((lowB rs).map capL)) t) → (∀ z, z ≠ Str.ofString "text" → z ≠ Str.ofString "behind" → m' z = m z) → News h₀ L h' ((lp, W.listOf vp.toArray np) :: (lw, W.listOf wv.toArray nw) :: (lsg, W.listOf sv.toArray nsg) :: news) → Q .next { s with heap := h', toks := tk }) :
    wpAny (model prog w) (AA dp un fr gd) (execs [lawFor2] (envOf cn lawS L fa ccd)) Q (fun _ _ => False) s := by
  show wpAny _ _ (execs [Stmt.For (.Name _ _) (.List [_, _] _) lawTurn [] _] (envOf _ ⟨_, _, _, _, _⟩ _ _ _)) _ _ _
  repeat' kat_tups
  rename Fr _ _ _ _ => F9
  rename News _ _ _ _ => N9
  refine forConst (σ := Option (Str × Nat)) _ txtPs [] (fun j c => 0 < j → ∃ t, c = some (TT ahead (decide (j = 2)) ((lowB rs).map capL), t)) none rfl (.head _) F9 N9 (fun p hp => by cases hp) (fun h => absurd h (Nat.lt_irrefl _)) ?_ ?_
  · clear F9 N9
    intro c j v u h tk J oJ hv _ hne F₁ N₁
    obtain ⟨hj2, rfl⟩ := bools_at hv
    obtain ⟨T1, F₁⟩ := fr_txt F₁
    have N2 := rot3 N₁
    refine c_turn H hd hun F₁ N2 (by exact (if_neg (by decide +kernel)).trans ((if_neg (by decide +kernel)).trans m1)) (by exact (if_neg (by decide +kernel)).trans ((if_neg (by decide +kernel)).trans m2)) (by exact (if_neg (by decide +kernel)).trans ((if_neg (by decide +kernel)).trans m3)) (by exact (if_neg (by decide +kernel)).trans (if_pos rfl)) (by exact (if_neg (by decide +kernel)).trans ((if_neg (by decide +kernel)).trans m5)) (by exact (if_neg (by decide +kernel)).trans ((if_neg (by decide +kernel)).trans m6)) (by exact (if_neg (by decide +kernel)).trans ((if_neg (by decide +kernel)).trans m7)) hvp hwv hsv hgb hgr hbne hr2 hzl hzr ?_
    intro h' tk' t F' N'
    refine tEnd (some (TT ahead (decide (j = 1)) ((lowB rs).map capL), t)) F' N' (by k_mem) (fun p hp => unrot3 hp) ?_ ?_ ?_
    · intro p hp
      rw [List.mem_singleton.mp hp]
      exact if_pos rfl
    · intro z h1 h2 _
      have h3 : z ≠ Str.ofString "text" := h2 _ (.head _)
      exact (if_neg h3).trans ((if_neg h3).trans (if_neg h1))
    · intro _
      exact ⟨t, by rw [show decide (j = 1) = decide (j + 1 = 2) from decide_eq_decide.mpr (by omega)]⟩
  · clear F9 N9
    intro c u h tk hP F' N'
    obtain ⟨t, rfl⟩ := hP (by decide)
    (with_reducible show wpAny _ _ _ _ _ _)
    repeat' kat_tups
    exact hret _ _ _ _ F' (if_neg (by decide +kernel)) (fun z h1 h2 => by simp [txtPs, kstB, h1, h2]) (fun p hp => N' p (.tail _ hp))
set_option maxHeartbeats 4000000 in
theorem c_for1 {w : World} {mean : ExcName → Option Value} {mg mb : Str → Option Value} {dp un : Nat} {fr : Option (List Env)} {gd : Option (List Code)} {s : Shared} {Q : Flow → Shared → Prop} {prog : Program} {rest : List Stmt}
    {h₀ : Heap} {L fa : Addr} {cn : Str} {ccd : Value} {m : Str → Option Value}
    (H : Here w mean mg mb h₀) (hd : dp < 900) (hun : un < 5000) (F : Fr h₀ L s.heap m)
    {lst lp lw lsg : Addr} {vp wv sv : List Value} {np nw nsg : Nat} {tn : Tok} {bs rs : List (List Nat × List Nat)}
    {news : List (Addr × Obj)} (N : News h₀ L s.heap ((lp, W.listOf vp.toArray np) :: (lw, W.listOf wv.toArray nw) :: (lsg, W.listOf sv.toArray nsg) :: news))
    (m1 : m (Str.ofString "parts") = some (.ref lp)) (m2 : m (Str.ofString "star") = some (.ref lst))
    (m5 : m (Str.ofString "name") = some (.str (S (nameL (lowB bs))) tn)) (m6 : m (Str.ofString "sought") = some (.ref lsg)) (m7 : m (Str.ofString "words") = some (.ref lw))
    (hvp : StrsAre vp (((lowB rs).map capL).map S)) (hwv : StrsAre wv (wordsB bs)) (hsv : StrsAre sv (wordsB rs))
    (hgb : ∀ b ∈ bs, Good b) (hgr : ∀ b ∈ rs, Good b) (hbne : bs ≠ []) (hr2 : 2 ≤ rs.length) (hzl : (flat bs).length ≤ 200) (hzr : (flat rs).length ≤ 200)
    (hret : ∀ h' tk m' t, Fr h₀ L h' m' → m' (Str.ofString "text") = some (.str (TT true true ((lowB rs).map capL)) t) → (∀ z, z ≠ Str.ofString "text" → z ≠ Str.ofString "behind" → z ≠ Str.ofString "ahead" → m' z = m z) → News h₀ L h' ((lp, W.listOf vp.toArray np) :: (lw, W.listOf wv.toArray nw) :: (lsg, W.listOf sv.toArray nsg) :: news) → wpAny (model prog w) (AA dp un fr gd) (execs rest (envOf cn lawS L fa ccd)) Q (fun _ _ => False) { s with heap := h', toks := tk }) :
    wpAny (model prog w) (AA dp un fr gd) (execs (lawFor :: rest) (envOf cn lawS L fa ccd)) Q (fun _ _ => False) s := by
  show wpAny _ _ (execs (Stmt.For (.Name _ _) (.List [_, _] _) [lawFor2] [] _ :: rest) (envOf _ ⟨_, _, _, _, _⟩ _ _ _)) _ _ _
  repeat' kat_tups
  rename Fr _ _ _ _ => F9
  rename News _ _ _ _ => N9
  refine forConst (σ := Option (Str × Nat)) _ txtPs [Str.ofString "behind"] (fun j c => 0 < j → ∃ t, c = some (TT (decide (j = 2)) true ((lowB rs).map capL), t)) none rfl (.head _) F9 N9 (fun p hp => by cases hp) (fun h => absurd h (Nat.lt_irrefl _)) ?_ ?_
  · clear F9 N9
    intro c j v u h tk J oJ hv _ hne F₁ N₁
    obtain ⟨hj2, rfl⟩ := bools_at hv
    obtain ⟨T1, F₁⟩ := fr_txt F₁
    have N2 := rot3 N₁
    refine c_for2 H hd hun F₁ N2 (by exact (if_neg (by decide +kernel)).trans ((if_neg (by decide +kernel)).trans ((if_neg (by decide +kernel)).trans m1))) (by exact (if_neg (by decide +kernel)).trans ((if_neg (by decide +kernel)).trans ((if_neg (by decide +kernel)).trans m2))) (by exact (if_neg (by decide +kernel)).trans (if_pos rfl)) (by exact (if_neg (by decide +kernel)).trans ((if_neg (by decide +kernel)).trans ((if_neg (by decide +kernel)).trans m5))) (by exact (if_neg (by decide +kernel)).trans ((if_neg (by decide +kernel)).trans ((if_neg (by decide +kernel)).trans m6))) (by exact (if_neg (by decide +kernel)).trans ((if_neg (by decide +kernel)).trans ((if_neg (by decide +kernel)).trans m7))) hvp hwv hsv hgb hgr hbne hr2 hzl hzr ?_
    intro h' tk' m' t F' e1 e2 N'
    refine tEnd (some (TT (decide (j = 1)) true ((lowB rs).map capL), t)) F' N' (by k_mem) (fun p hp => unrot3 hp) ?_ ?_ ?_
    · intro p hp
      rw [List.mem_singleton.mp hp]
      exact e1
    · intro z h1 h2 h4
      have h3 : z ≠ Str.ofString "text" := h2 _ (.head _)
      have h5 : z ≠ Str.ofString "behind" := by simpa using h4
      rw [e2 z h3 h5, if_neg h3, if_neg h1]
      simp [h5]
    · intro _
      exact ⟨t, by rw [show decide (j = 1) = decide (j + 1 = 2) from decide_eq_decide.mpr (by omega)]⟩
  · clear F9 N9
    intro c u h tk hP F' N'
    obtain ⟨t, rfl⟩ := hP (by decide)
    (with_reducible show wpAny _ _ _ _ _ _)
    exact hret _ _ _ _ F' (if_neg (by decide +kernel)) (fun z h1 h2 h3 => by simp [txtPs, kstB, h1, h2, h3]) (fun p hp => N' p (.tail _ hp))
set_option maxHeartbeats 4000000 in
theorem c_end {w : World} {mean : ExcName → Option Value} {mg mb : Str → Option Value} {dp un : Nat} {fr : Option (List Env)} {gd : Option (List Code)} {s : Shared} {Q : Flow → Shared → Prop} {prog : Program}
    {h₀ : Heap} {L fa : Addr} {cn : Str} {ccd : Value} {m : Str → Option Value}
    (H : Here w mean mg mb h₀) (hd : dp < 900) (F : Fr h₀ L s.heap m)
    {lst : Addr} {tr tt : Tok} {rs : List (List Nat × List Nat)} {news : List (Addr × Obj)} (N : News h₀ L s.heap news)
    (m1 : m (Str.ofString "row") = some (.str (S (flat rs)) tr)) (m2 : m (Str.ofString "star") = some (.ref lst)) (m3 : m (Str.ofString "text") = some (.str (TT true true ((lowB rs).map capL)) tt))
    (hgr : ∀ b ∈ rs, Good b ∧ b.1 = [32]) (hr2 : 2 ≤ rs.length) (hzr : (flat rs).length ≤ 200)
    (hret : ∀ h' tk m', Fr h₀ L h' m' → Q (.ret (.bool true)) { s with heap := h', toks := tk }) :
    wpAny (model prog w) (AA dp un fr gd) (execs lawEnd (envOf cn lawS L fa ccd)) Q (fun _ _ => False) s := by
  have hrw := raw_eq hgr
  have hes : (Str.ofString " ").length ≠ 0 := by decide +kernel
  have hfl : (S (flat rs)).length ≤ 200 := by rw [S_len]; exact hzr
  have hCz : (rs.map fun b => b.2).flatten.length + (rs.map fun b => b.2).length ≤ 200 := by
    have e : (rs.map fun b => b.2).flatten.length = (rs.map fun b => b.2.length).sum := by rw [List.length_flatten, List.map_map]; rfl
    have := flat_len fun b hb => (hgr b hb).1
    rw [e, List.length_map]
    omega
  show wpAny _ _ (execs [_, _] (envOf _ ⟨_, _, _, _, _⟩ _ _ _)) _ _ _
  repeat' kat_tups
  rename StrsAre _ _ => hvs
  rename Fr _ _ _ _ => F9
  rename News _ _ _ _ => N9
  obtain ⟨t0, vr, rfl, hvr⟩ := strs_cons_inv hvs
  have hvl := hvr.length
  have hfl2 := flat_len fun b hb => (hgr b hb).1
  simp only [List.length_map] at hvl
  have hvr' : StrsAre vr ((rs.map fun b => b.2).map S) := by rw [List.map_map]; exact hvr
  repeat' kat_tups
  rename Fr _ _ _ _ => F8
  rename News _ _ _ _ => N8
  clear hvs N9 F9
  have hvne := strs_ne hvr' (by rw [List.length_map, List.length_map]; exact hr2)
  obtain ⟨j1, j2, j3, j4⟩ := join_ready (st := .ref lst) hvr' (by rw [List.length_map]; exact hr2) hCz true true
  refine c_row (H.keeps F8.keep) hd (isn N8 (.head _)) (by omega) ?_
  intro a h' tk n hk hn ha
  have F9 := fr_keep F8 hk
  have N9 := news_add F8 (news_keep N8 hk) ha hn
  clear hk hn ha F8 N8
  (with_reducible show wpAny _ _ _ _ _ _)
  repeat' kat_tups
  refine c_join (H.keeps F9.keep) hd (pre_strs hvr' true) (rest_strs hvr' true) (row_shape _ true true hvne) (isn N9 (.head _)) j1 j2 j3 j4 ?_
  rw [txt_eq]
  intro h' tk t' hk
  have F8 := fr_keep F9 hk
  have N8 := news_keep N9 hk
  clear hk F9 N9
  (with_reducible show wpAny _ _ _ _ _ _)
  repeat' kat_tups
  rename Fr _ _ _ _ => F9
  rename News _ _ _ _ => N9
  obtain ⟨ys, y1, y2, y3, y4, y5, y6⟩ := raw_pack hgr hr2 hCz
  clear F8 N8
  refine c_cap2 (H.keeps F9.keep) hd y1 y2 (by decide +kernel) (by decide +kernel) y3 y4 ?_
  rw [y6]
  intro h' tk t' hk
  have F8 := fr_keep F9 hk
  have N8 := news_keep N9 hk
  clear hk F9 N9
  (with_reducible show wpAny _ _ _ _ _ _)
  repeat' kat_tups
  rw [beq_self_eq_true]
  rename Fr _ _ _ _ => F9
  exact hret _ _ _ F9
set_option maxHeartbeats 4000000 in
theorem c_mid {w : World} {mean : ExcName → Option Value} {mg mb : Str → Option Value} {dp un : Nat} {fr : Option (List Env)} {gd : Option (List Code)} {s : Shared} {Q : Flow → Shared → Prop} {prog : Program}
    {h₀ : Heap} {L fa : Addr} {cn : Str} {ccd : Value} {m : Str → Option Value}
    (H : Here w mean mg mb h₀) (hd : dp < 900) (hun : un < 5000) (F : Fr h₀ L s.heap m)
    {lw lsg : Addr} {wv sv : List Value} {nw nsg : Nat} {tl tr : Tok} {bs rs : List (List Nat × List Nat)}
    (N : News h₀ L s.heap [(lw, W.listOf wv.toArray nw), (lsg, W.listOf sv.toArray nsg)])
    (m1 : m (Str.ofString "line") = some (.str (S (flat bs)) tl)) (m2 : m (Str.ofString "row") = some (.str (S (flat rs)) tr)) (m3 : m (Str.ofString "words") = some (.ref lw)) (m4 : m (Str.ofString "sought") = some (.ref lsg))
    (hwv : StrsAre wv (wordsB bs)) (hsv : StrsAre sv (wordsB rs))
    (hgb : ∀ b ∈ bs, Good b) (hgr' : ∀ b ∈ rs, Good b ∧ b.1 = [32]) (hbne : bs ≠ []) (hr2 : 2 ≤ rs.length) (hzl : (flat bs).length ≤ 200) (hzr : (flat rs).length ≤ 200)
    (hret : ∀ h' tk m', Fr h₀ L h' m' → Q (.ret (.bool true)) { s with heap := h', toks := tk }) :
    wpAny (model prog w) (AA dp un fr gd) (execs lawMid (envOf cn lawS L fa ccd)) Q (fun _ _ => False) s := by
  have hgr : ∀ b ∈ rs, Good b := fun b hb => (hgr' b hb).1
  have hjl : (Str.join (Str.ofString " ") ((Txt.words (S (flat bs))).map Txt.capitalize)).length ≤ 1048576 := by
    have h1 := StrLaws.join_length_le (Str.ofString " ") ((Txt.words (S (flat bs))).map Txt.capitalize)
    have h2 := cap_sum (Txt.words (S (flat bs)))
    have h3 := StrLaws.words_weight (S (flat bs))
    rw [S_len] at h3
    rw [List.length_map, show (Str.ofString " ").length = 1 from by decide +kernel] at h1
    omega
  show wpAny _ _ (execs (_ :: _ :: _ :: _ :: lawFor :: lawEnd) (envOf _ ⟨_, _, _, _, _⟩ _ _ _)) _ _ _
  repeat' kat_tups
  refine c_cap1 (H.keeps F.keep) hd (by rw [S_len]; omega) ?_
  intro h' tk t' hk htk
  have F1 := fr_keep F hk
  have N1 := news_keep N hk
  clear hk F N
  (with_reducible show wpAny _ _ _ _ _ _)
  repeat' kat_tups
  refine SC.replaceW (Nat.ne_of_gt htk) (Nat.succ_ne_zero _) (Nat.ne_of_lt (Nat.lt_succ_self _)) (by decide +kernel) hjl (by decide +kernel) ?_
  intro tn kn
  rw [(name_eq hgb hbne).trans (by rw [caps_eq hgb]; rfl : _ = S (nameL (lowB bs)))]
  clear hjl
  repeat' kat_tups
  refine lcE (cl := []) (fun _ => true) CapRel rfl (by with_unfolding_all rfl) (by decide) rfl (by decide) rfl ?_ (by intro _; rfl)
  repeat' kat_tups
  rename Fr _ _ _ _ => F9
  rename News _ _ _ _ => N9
  have hwvl := hwv.length
  have hfb := flat_len hgb
  have hwlen : (wordsB bs).length = bs.length := by simp [wordsB]
  refine ⟨_, _, _, _, _, rfl, isn N9 (by k_mem), by omega, F9, N9, ⟨fun C v s₃ m₃ hv K hm => forIn0 ⟨rfl, _, _, rfl, K.keep⟩, fun C v s₃ m₃ hv hp K hm => ?_⟩, fun D h' tk n ys hp F' N' hne => ?_⟩
  · obtain ⟨x, hx, tx, rfl⟩ := strs_mem hwv v hv
    obtain ⟨b, hb, rfl⟩ := List.mem_map.mp hx
    obtain ⟨c, r, ew, hc, hr, ecap⟩ := (lowB_lw hgb (lows b.2) (List.mem_map.mpr ⟨b, hb, rfl⟩)).cap
    have hbl := sum_mem hb
    have hbl2 : (lows b.2).length = b.2.length := by simp [lows]
    rw [ew] at hm hbl2 ⊢
    have hrl : (S (c :: r)).length ≤ 10000 := by rw [S_len]; omega
    clear F9 N9
    obtain ⟨ix, hix, ho, hAB⟩ := ab_index c hc
    repeat' ((fail_if_success (with_reducible show wpAny _ _ (call (Value.builtin "str.index") _) _ _ _)); kat_tups)
    rw [item0]
    refine SC.index ho ?_
    have h2 : (Str.ofString "AB").length = 2 := by decide +kernel
    repeat' ((fail_if_success (with_reducible show wpAny _ _ (subscriptTail _ _ (Value.str _ _) (Value.int _ _)) _ _ _)); kat_tups)
    refine item_str (fitsSsize_of (N := 9223372036854775808) (by omega) (by omega) (Int.le_refl _)) (by omega) (by rw [h2]; omega) (fun _ => ?_)
    repeat' kat_tups
    all_goals first
      | ((with_reducible show Keeps _ _); rename Cf _ _ _ _ _ => K9; exact ⟨_, _, rfl, K9.keep⟩)
      | exact capRel_of hc hr hAB (tail1 _ _)
  clear F9 N9 hne
  have hys : StrsAre ys ((wordsB bs).map headUp) := by
    have e : wv.filter (fun _ => true) = wv := by simp
    rw [e] at hp
    exact paired_strs hwv hp
  have hysum := caps_sum (bs := bs)
  clear hp
  (with_reducible show wpAny _ _ _ _ _ _)
  repeat' ((fail_if_success (with_reducible show wpAny _ _ (call (Value.builtin "str.join") _) _ _ _)); kat_tups)
  refine joinE (isn N' (.head _)) hys (by rw [hysum]; omega) ?_
  rw [name_words hgb]
  intro tj kj
  have hcmp : (S (nameL (lowB bs)) != S (nameL (lowB bs))) = false := by simp
  clear hys hysum
  repeat' kat_tups
  clear F' N' F1 N1 hcmp
  rename Fr _ _ _ _ => F9
  rename News _ _ _ _ => N9
  have N8 := news3 N9 (.tail _ (.tail _ (.head _))) (.tail _ (.tail _ (.tail _ (.head _)))) (.head _)
  clear N9
  refine c_cap1 (H.keeps F9.keep) hd (by rw [S_len]; omega) ?_
  intro h' tk t' hk htk
  have F1 := fr_keep F9 hk
  have N1 := news_keep N8 hk
  clear hk F9 N8
  have hrne : rs ≠ [] := by intro e; rw [e] at hr2; simp at hr2
  have hpe : Txt.split (Str.join (Str.ofString " ") ((Txt.words (S (flat rs))).map Txt.capitalize)) (Str.ofString " ") = ((lowB rs).map capL).map S := (parts_eq hgr hrne).trans (by rw [caps_eq hgr])
  have hjl : (Str.join (Str.ofString " ") ((Txt.words (S (flat rs))).map Txt.capitalize)).length ≤ 1000000 := by
    have h1 := StrLaws.join_length_le (Str.ofString " ") ((Txt.words (S (flat rs))).map Txt.capitalize)
    have h2 := cap_sum (Txt.words (S (flat rs)))
    have h3 := StrLaws.words_weight (S (flat rs))
    rw [S_len] at h3
    rw [List.length_map, show (Str.ofString " ").length = 1 from by decide +kernel] at h1
    omega
  (with_reducible show wpAny _ _ _ _ _ _)
  repeat' ((fail_if_success (with_reducible show wpAny _ _ (execs (lawFor :: _) _) _ _ _)); kat_tups)
  rename StrsAre _ (((lowB rs).map capL).map S) => hvp
  clear F1 N1
  rename Fr _ _ _ _ => F9
  rename News _ _ _ _ => N9
  refine c_for1 H hd hun F9 N9 (by exact if_pos rfl) (by exact (if_neg (by decide +kernel)).trans (if_pos rfl)) (by exact (if_neg (by decide +kernel)).trans ((if_neg (by decide +kernel)).trans (if_pos rfl))) (by exact (if_neg (by decide +kernel)).trans ((if_neg (by decide +kernel)).trans ((if_neg (by decide +kernel)).trans m4))) (by exact (if_neg (by decide +kernel)).trans ((if_neg (by decide +kernel)).trans ((if_neg (by decide +kernel)).trans m3))) hvp hwv hsv hgb hgr hbne hr2 hzl hzr ?_
  intro h' tk m' t F2 e1 e2 N2
  refine c_end H hd F2 N2 (by exact (e2 _ (by decide +kernel) (by decide +kernel) (by decide +kernel)).trans ((if_neg (by decide +kernel)).trans ((if_neg (by decide +kernel)).trans ((if_neg (by decide +kernel)).trans m2)))) (by exact (e2 _ (by decide +kernel) (by decide +kernel) (by decide +kernel)).trans ((if_neg (by decide +kernel)).trans (if_pos rfl))) e1 hgr' hr2 hzr ?_
  intro h' tk m2 F3
  exact hret _ _ _ F3
theorem newsPair {h₀ h : Heap} {L : Addr} {news : List (Addr × Obj)} {a b : Addr × Obj} (N : News h₀ L h news) (ha : a ∈ news) (hb : b ∈ news) : News h₀ L h [a, b] := fun p hp => by
  simp only [List.mem_cons, List.not_mem_nil, or_false] at hp
  rcases hp with rfl | rfl
  · exact N _ ha
  · exact N _ hb
set_option maxHeartbeats 8000000 in
theorem law_all : PySem.Challenge.rw_mr0048_01.Holds := by
  refine Mine.hd ?_
  k_go0
  (all_goals try k_fold)
  rename (Mine.hd.heap_39 _).In _ => KX
  rename Top _ _ _ _ _ _ => TX
  rename IntsAre _ _ => hI
  rename ¬ (_ < ((List.length _ : Nat) : Int)) => hlen
  have H : Here _ _ _ _ _ := ⟨KX, TX⟩
  have hil := hI.length
  (rename Ground _ _ _ _ _ _ _ _ _ => xx1; clear xx1)
  (rename Tables _ _ _ _ => xx2; clear xx2)
  (rename TopE _ _ _ _ => xx3; clear xx3)
  (rename TopW _ _ _ => xx4; clear xx4)
  (rename Heap.CodeRec _ _ _ => xx5; try clear xx5)
  (rename Glob _ _ _ _ _ _ _ _ => xx6; clear xx6)
  repeat' kat_tups
  refine lcA (cl := []) (fun _ => true) (fun _ y => ∃ (n : Int) (t : Tok), y = Value.int n t) rfl (by with_unfolding_all rfl) (by with_unfolding_all rfl) (by decide) rfl (by decide) rfl rfl rfl ?_ (by intro _; rfl)
  repeat' kat_tups
  rename Fr _ _ _ _ => F9
  rename News _ _ _ _ => N9
  refine ⟨_, _, _, _, _, rfl, isn N9 (.head _), by simp only [List.length_take]; omega, F9, N9, ⟨fun C v s₃ m₃ hv K hm => forIn0 ⟨rfl, _, _, rfl, K.keep⟩, fun C v s₃ m₃ hv hp K hm => ?_⟩, fun D h' tk n ys hp F' N' hne => ?_⟩
  · obtain ⟨j, tj, rfl, hj⟩ := ints_mem hI v (List.mem_of_mem_take hv)
    clear F9 N9
    repeat' kat_tups
    all_goals first
      | ((with_reducible show Keeps _ _); exact ⟨_, _, rfl, K.keep⟩)
      | exact ⟨_, _, rfl⟩
  clear F9 N9 hne
  have hyl := hp.length
  obtain ⟨cs', hcs⟩ := paired_ints hp
  clear hp
  have hyl2 : ys.length ≤ 14 := by rw [← hyl]; exact Nat.le_trans (List.length_filter_le _ _) (by simp only [List.length_take]; omega)
  clear hyl
  (with_reducible show wpAny _ _ _ _ _ _)
  k_fold
  repeat' kat_tups
  rename Fr _ _ _ _ => F9
  rename News _ _ _ _ => N9
  clear F' N'
  rename IntsAre _ _ => hB
  revert hB
  rename IntsAre _ _ => hA
  intro hB
  refine c_built (H.keeps F9.keep) (by decide +kernel) (ints_app (ints_app (ints_app (.cons 0 _ (.cons 11 _ .nil)) hA) (.cons 10 _ (.cons 16 _ (.cons 9 _ .nil)))) hB) (isn N9 (.head _)) ?_ rfl ?_
  · simp; omega
  intro a lw lsg h' tk n nw nsg wv sv tl tr hk ha hw hs hwv hsv f1 f2 f3
  have F1 := fr_keep F9 hk
  have N1 := news_add F9 (news_add F9 (news_add F9 News.nil hs f3) hw f2) ha f1
  clear hk ha hw hs f1 f2 f3 F9 N9
  obtain ⟨bs, hbne, hσ, hG⟩ := line_ok _ _
  obtain ⟨rs, hr2, hρ, hRG⟩ := row_ok _ _
  rw [hσ] at N1 hwv
  rw [hρ] at N1 hsv
  have hgb : ∀ b ∈ bs, Good b := fun b hb => (hG b hb).1
  have hgr : ∀ b ∈ rs, Good b := fun b hb => (hRG b hb).1
  have hr32 : ∀ b ∈ rs, Good b ∧ b.1 = [32] := hRG
  have hAl := hA.length
  have hBl := hB.length
  have hes : (Str.ofString "").length = 0 := by decide +kernel
  have hzl : (flat bs).length ≤ 200 := by
    have h1 := Nat.le_trans (Nat.le_of_eq (congrArg (fun q : Str × List Str => q.1.length) hσ.symm)) (lfold_len _ _)
    simp only [S_len, hes, List.length_append, List.length_cons, List.length_nil] at h1
    omega
  have hzr : (flat rs).length ≤ 200 := by
    have h1 := Nat.le_trans (Nat.le_of_eq (congrArg (fun q : Str × List Str => q.1.length) hρ.symm)) (rfold_len _ _)
    simp only [S_len, hes, List.length_append, List.length_cons, List.length_nil] at h1
    omega
  clear hAl hBl hA hB hcs hyl2
  clear hσ hρ hG hRG
  dsimp only at N1 hwv hsv
  (with_reducible show wpAny _ _ _ _ _ _)
  k_fold
  repeat' ((fail_if_success (with_reducible show wpAny _ _ (execs (Stmt.Assign [Expr.Name (Str.ofString "name") _] _ _ :: _) _) _ _ _)); kat_tups)
  (try (k_unfold; (try dsimp only)))
  rename Fr _ _ _ _ => F9
  rename News _ _ _ _ => N9
  have N8 := newsPair N9 (a := (lw, W.listOf wv.toArray nw)) (b := (lsg, W.listOf sv.toArray nsg)) (by k_mem) (by k_mem)
  clear N9
  refine wpAny_mono (E := fun _ _ => False) ?mid (fun _ _ p => p) (fun _ _ x => x.elim)
  refine c_mid H (by decide +kernel) (by decide +kernel) F9 N8 (by exact rfl) (by exact rfl) (by exact rfl) (by exact rfl) hwv hsv hgb hr32 hbne hr2 hzl hzr ?_
  intro h' tk m' F8
  (try (k_unfold; (try dsimp only)))
  rename _ = (#[] : Array _) => hg9
  refine goodW_bool F8 hg9 (raisesW_false ?_) ?_
  · wrow_none_raised
  · kc_post
end Mine
end
theorem PySem.Challenge.cw_mr0048_01_holds : PySem.Challenge.rw_mr0048_01.Holds :=
  Mine.law_all
