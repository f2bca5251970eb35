import PyProof.Rows.All
import Wide.All
import OpenK.AllK
import Wide.FinOn
import KE.KDictOf
import KE.KFromBytes
import KE.RegTryLedger
import PySem.Challenge.RW_ik0113_01
open PySem PySem.W PyProof.Rows PySem.Calls PyProof.Rows.LCg
set_option Elab.async false
set_option maxRecDepth 100000
set_option maxHeartbeats 8000000
namespace Mine
open_top hd for PySem.Challenge.rw_ik0113_01

theorem top_off : True := by
  w_top off
  trivial
end Mine
namespace Mine
noncomputable abbrev VW := hd.view_39
noncomputable abbrev LS : List Str := looseW VW [Str.ofString "_deduplicate", Str.ofString "_tuplegetter", Str.ofString "Mismatch", Str.ofString "_Mismatch"]

/-! data that lies in a store -/
abbrev Sto := Addr → Obj → Prop
mutual
inductive InL (P : Sto) : Value → PyData → Prop
  | int (i : Int) (t : Tok) : InL P (.int i t) (.int i)
  | list {a : Addr} {vs : Array Value} {n : Nat} {xs : List PyData} : P a (W.listOf vs n) → InLs P vs.toList xs → InL P (.ref a) (.list xs)
inductive InLs (P : Sto) : List Value → List PyData → Prop
  | nil : InLs P [] []
  | cons {v : Value} {vs : List Value} {d : PyData} {ds : List PyData} : InL P v d → InLs P vs ds → InLs P (v :: vs) (d :: ds)
end
mutual
theorem InL.mono {P P' : Sto} (k : ∀ a o, P a o → P' a o) : ∀ {v : Value} {d : PyData}, InL P v d → InL P' v d
  | _, _, .int i t => .int i t
  | _, _, .list h1 h4 => .list (k _ _ h1) (InLs.mono k h4)
theorem InLs.mono {P P' : Sto} (k : ∀ a o, P a o → P' a o) : ∀ {vs : List Value} {ds : List PyData}, InLs P vs ds → InLs P' vs ds
  | _, _, .nil => .nil
  | _, _, .cons h1 h2 => .cons (InL.mono k h1) (InLs.mono k h2)
end
mutual
theorem InL.reads {P : Sto} {h : Heap} (k : ∀ a o, P a o → h.get? a = some o) : ∀ {v : Value} {d : PyData}, InL P v d → ∃ as, Reads h v d as
  | _, _, .int i t => ⟨_, .int i t⟩
  | _, _, .list h1 h4 => let ⟨_, r⟩ := InLs.reads k h4; ⟨_, .list (k _ _ h1) rfl rfl r⟩
theorem InLs.reads {P : Sto} {h : Heap} (k : ∀ a o, P a o → h.get? a = some o) : ∀ {vs : List Value} {ds : List PyData}, InLs P vs ds → ∃ as, ReadsAll h vs ds as
  | _, _, .nil => ⟨_, .nil⟩
  | _, _, .cons h1 h2 => let ⟨_, r⟩ := InL.reads k h1; let ⟨_, q⟩ := InLs.reads k h2; ⟨_, .cons r q⟩
end
theorem InLs.append {P : Sto} : ∀ {vs us : List Value} {ds es : List PyData}, InLs P vs ds → InLs P us es → InLs P (vs ++ us) (ds ++ es)
  | _, _, _, _, .nil, h => h
  | _, _, _, _, .cons h1 h2, h => .cons h1 (InLs.append h2 h)
theorem InLs.length {P : Sto} : ∀ {vs : List Value} {ds : List PyData}, InLs P vs ds → vs.length = ds.length
  | _, _, .nil => rfl
  | _, _, .cons _ h2 => by rw [List.length_cons, List.length_cons, h2.length]
theorem InLs.get {P : Sto} : ∀ {vs : List Value} {ds : List PyData}, InLs P vs ds → ∀ {i : Nat} {v : Value}, vs[i]? = some v → ∃ d, ds[i]? = some d ∧ InL P v d
  | _, _, .nil, i, v, e => by simp at e
  | _, _, .cons h1 h2, i, v, e => by
    cases i with
    | zero => simp at e; subst e; exact ⟨_, by simp, h1⟩
    | succ i => simp at e; obtain ⟨d, hd, r⟩ := h2.get e; exact ⟨d, by simpa using hd, r⟩
theorem InL.ofList {P : Sto} {v : Value} {xs : List PyData} (h : InL P v (.list xs)) : ∃ a vs n, v = .ref a ∧ P a (W.listOf vs n) ∧ InLs P vs.toList xs := by
  cases h with
  | list h1 h4 => exact ⟨_, _, _, rfl, h1, h4⟩
theorem InL.ofInt {P : Sto} {v : Value} {i : Int} (h : InL P v (.int i)) : ∃ t, v = .int i t := by
  cases h with
  | int i t => exact ⟨t, rfl⟩
/-- the store of a frame: its base and a part of its ledger -/
def St0 (h₀ : Heap) (G : List (Addr × Obj)) : Sto := fun a o => h₀.get? a = some o ∨ (a, o) ∈ G
theorem St0.in {h₀ h : Heap} {L : Addr} {m : Str → Option Value} {G news : List (Addr × Obj)} (F : Fr h₀ L h m) (N : News h₀ L h news) (hs : ∀ p ∈ G, p ∈ news) : ∀ a o, St0 h₀ G a o → h.get? a = some o := by
  rintro a o (e | hm)
  · exact F.keep a o e
  · exact (N _ (hs _ hm)).1
theorem St0.mono {h₀ : Heap} {G G' : List (Addr × Obj)} (hs : ∀ p ∈ G, p ∈ G') : ∀ a o, St0 h₀ G a o → St0 h₀ G' a o := by
  rintro a o (e | hm)
  · exact .inl e
  · exact .inr (hs _ hm)

/-! a def is entered over the caller's whole heap -/
section
variable {prog : Program} {w : World} {p : Program} {loose : List Str} {mean : ExcName → Option Value} {mg mb : Str → Option Value} {A : Around} {R : Result → Shared → Prop} {s : Shared} {K : Frag}
theorem enterK {name qual : Str} {params : Arguments} {body : List Stmt} {scope : Scope} {dV kV doc pm cdv ct oc : Value} {an od : Option Addr} {osl : Array (Option Value)} {f : Addr} {args : Args} {binds : List (Str × Value)}
    (KX : K.In s.heap) (T : Top p loose mean mg mb s.heap)
    (ho : K.lookup f = some ⟨oc, od, .func (fnOf name qual params body scope dV kV doc pm an cdv ct), osl⟩) (hcd : codeIn K cdv qual = true) (hroom : A.depth < recursionLimit)
    (hbind : BindsTo s (fnOf name qual params body scope dV kV doc pm an cdv ct) args binds) (hloc : ∀ y ∈ binds, scope.names.lookup y.1 = some .local)
    (h : ∀ h₁, Fr s.heap s.heap.objs.size h₁ (fun y => binds.reverse.lookup y) → News s.heap s.heap.objs.size h₁ [] →
      wpAny (model prog w) (A.deeper (envOf qual scope s.heap.objs.size f cdv)) (execs body (envOf qual scope s.heap.objs.size f cdv))
        (fun fl s' => R (.ok (.ret (match fl with | .ret v => v | _ => .none))) s')
        (fun _ _ => False)
        { s with heap := h₁, toks := s.toks + binds.length })
    (hco : scope.isCoroutine = false := by rfl) (hgen : scope.isGenerator = false := by rfl) (hk : scope.kind = .function := by rfl)
    (hcell : ∀ x ∈ scope.names, x.2 ≠ .cell := by decide) : codeAny (model prog w) A (.call (.ref f) args) R s := by
  refine codeAny_call_def (fd := fnOf name qual params body scope dV kV doc pm an cdv ct) (body := body) (binds := binds) hroom (KX _ _ ho) rfl T.nolimit (codeRec_of KX hcd) rfl hbind hcell hloc (fun h₀ hns hk => ?_) hco hgen hk
  exact wpAny_mono (h h₀ ⟨hns, hk, Nat.le_refl _⟩ News.nil) (fun _ _ x => x) fun _ _ x => x.elim
end

/-! a loop over a list that lies still -/
section
variable {prog : Program} {w : World} {A : Around} {E : Value → Shared → Prop} {s : Shared} {env : Env} {h₀ : Heap} {x : Str} {body : List Stmt} {Q : Flow → Shared → Prop}
def TurnEnd (h₀ : Heap) (L I : Addr) (oI : Obj) (J : (Str → Option Value) → List (Addr × Obj) → Prop) (Q : Flow → Shared → Prop) (s₁ : Shared) (f : Flow) (s₂ : Shared) : Prop :=
  match f with
  | .ret v => Q (.ret v) s₂
  | .brk => Q .next s₂
  | _ => ∃ h' tk m' nx, s₂ = { s₁ with heap := h', toks := tk } ∧ Fr h₀ L h' m' ∧ News h₀ L h' ((I, oI) :: nx) ∧ (∀ p ∈ nx, p.1 ≠ I) ∧ J m' nx
theorem TurnEnd.toV {I : Addr} {oI : Obj} {J : (Str → Option Value) → List (Addr × Obj) → Prop} {own : List (Addr × Obj)} {s₁ s₂ : Shared} {f : Flow}
    (hown : ∀ h' m' nx, J m' nx → News h₀ env.locals h' ((I, oI) :: nx) → ∀ p ∈ own, h'.get? p.1 = some p.2 ∧ p.1 ≠ env.locals ∧ h₀.get? p.1 = none)
    (h : TurnEnd h₀ env.locals I oI J Q s₁ f s₂) : LoopStepV h₀ env.locals [I] own J s₁ (fun v s' => Q (.ret v) s') (fun s' => Q .next s') f s₂ := by
  have fin : (∃ h' tk m' nx, s₂ = { s₁ with heap := h', toks := tk } ∧ Fr h₀ env.locals h' m' ∧ News h₀ env.locals h' ((I, oI) :: nx) ∧ (∀ p ∈ nx, p.1 ≠ I) ∧ J m' nx) → LoopStepU h₀ env.locals [I] own J s₁ .next s₂ := by
    rintro ⟨h', tk, m', nx, rfl, F, N, off, hJ⟩
    refine LoopStepU.intro F (fun p hp => ?_) (fun p hp => by simpa using off p hp) hJ
    rcases List.mem_append.mp hp with hp | hp
    · exact hown h' m' nx hJ N p hp
    · exact N p (.tail _ hp)
  cases f with
  | ret v => exact .ret h
  | brk => exact .brk h
  | next => exact .next (fin h)
  | cont => exact .cont (fin h)

theorem iter_src {l : Addr} {ol : Obj} {vs : Array Value} {n : Nat} {m₀ : Str → Option Value} {news : List (Addr × Obj)} (J : Nat → (Str → Option Value) → List (Addr × Obj) → Prop)
    (hc : ol.cls = .type "list") (hd : ol.data = .seq vs n) (hS : ∀ i m nw, J i m nw → h₀.get? l = some ol ∨ (l, ol) ∈ nw)
    (hh : A.handled = none) (F : Fr h₀ env.locals s.heap m₀) (N : News h₀ env.locals s.heap news) (hj : J 0 m₀ news)
    (turn : ∀ i v m₁ news₁ h tk I oI, vs[i]? = some v → J i m₁ news₁ → (∀ p ∈ news₁, p.1 ≠ I) → Fr h₀ env.locals h (fun y => if y = x then some v else m₁ y) → News h₀ env.locals h ((I, oI) :: news₁) →
      wpAny (model prog w) A (execs body env) (TurnEnd h₀ env.locals I oI (J (i + 1)) Q { s with heap := h, toks := tk }) E { s with heap := h, toks := tk })
    (done : ∀ m₁ news₁ h tk, J vs.size m₁ news₁ → Fr h₀ env.locals h m₁ → News h₀ env.locals h news₁ → Q .next { s with heap := h, toks := tk }) :
    wpAny (model prog w) A (pyIter (.ref l)) (fun it s₂ => LoopAtV prog w A h₀ env x body Q E it s₂) E s := by
  have hol : s.heap.get? l = some ol := by
    rcases hS _ _ _ hj with e | hm
    · exact F.keep _ _ e
    · exact (N _ hm).1
  have hls : s.heap.IsList l vs := ⟨ol, hol, hc, n, hd⟩
  have hlt : l < s.heap.objs.size := Heap.lt_size hol
  have hne : l ≠ s.heap.objs.size := Nat.ne_of_lt hlt
  have hlL : l ≠ env.locals := by
    rcases hS _ _ _ hj with e | hm
    · exact Nat.ne_of_lt (Nat.lt_of_lt_of_le (Heap.lt_size e) F.above)
    · exact (N _ hm).2.1
  refine wpAny_pyIter_list hls ?_
  have W := Walks.list (prog := prog) (w := w) hh s.heap.objs.size l hne vs
  refine ⟨_, _, _, vs.size, _, _, m₀, news, J, rfl, W, ?_, ?_, ?_, ⟨⟨_, Heap.get?_push_size _ rfl, rfl, rfl⟩, hls.at fun o e => Heap.get?_push_of_some _ e⟩, F.push _, (fun p hp => ⟨Heap.get?_push_of_some _ (N p hp).1, (N p hp).2⟩), hj, ?_, ?_⟩
  · intro hm
    rcases List.mem_cons.mp hm with e | hm
    · exact absurd F.ns.lt (e ▸ Nat.lt_irrefl _)
    · exact hlL (List.mem_singleton.mp hm).symm
  · intro b hb
    rw [List.mem_singleton.mp hb]
    exact next_is_new F
  · intro p hp hI
    exact absurd (Heap.lt_size (N p hp).1) ((List.mem_singleton.mp hI) ▸ Nat.lt_irrefl _)
  · rintro i v m₁ news₁ s₁ own ⟨hh', tk', rfl⟩ hin hP hJ hoff hsub hlive hall hst F₁ N₁
    obtain ⟨⟨oI, eI, rI⟩, _⟩ := hst
    have hI0 : h₀.get? s.heap.objs.size = none := next_is_new F
    have mI : (s.heap.objs.size, oI) ∈ own := hall _ (by simp) hI0 _ eI
    have hown1 : ∀ p ∈ own, p = (s.heap.objs.size, oI) ∨ (p.1 = l ∧ h₀.get? l = none) := by
      intro p hp
      rcases List.mem_cons.mp (hsub p hp) with e | e
      · left
        have h2 := hlive p hp
        have h2' : hh'.get? p.1 = some p.2 := h2
        rw [e] at h2'
        have := h2'.symm.trans eI
        exact Prod.ext e (Option.some.inj this)
      · right
        have e' := List.mem_singleton.mp e
        have h3 := (N₁ p (List.mem_append_left _ hp)).2.2
        exact ⟨e', e' ▸ h3⟩
    refine wpAny_mono (turn i v m₁ news₁ hh' tk' _ oI hP hJ (fun p hp q => hoff p hp (by rw [q]; simp)) F₁ (fun p hp => ?_)) (fun f s₂ p => TurnEnd.toV (fun h' m' nx hJ' N' p hp => ?_) p) fun _ _ e => e
    · rcases List.mem_cons.mp hp with rfl | hp
      · exact N₁ _ (List.mem_append_left _ mI)
      · exact N₁ _ (List.mem_append_right _ hp)
    · rcases hown1 p hp with rfl | ⟨e, e0⟩
      · exact N' _ (.head _)
      · have key : ∀ nw : List (Addr × Obj), (h₀.get? l = some ol ∨ (l, ol) ∈ nw) → (l, ol) ∈ nw := fun nw q => by
          rcases q with q | q
          · rw [e0] at q; cases q
          · exact q
        have h1 := N' _ (.tail _ (key _ (hS _ _ _ hJ')))
        have h2 := (N₁ _ (List.mem_append_right _ (key _ (hS _ _ _ hJ)))).1
        have h3 := (N₁ p (List.mem_append_left _ hp)).1
        rw [e] at h3
        have : p.2 = ol := Option.some.inj (h3.symm.trans h2)
        rw [e, this]; exact h1
  · rintro h' tk m' news' F' N' _ hJ
    exact done m' news' h' tk hJ F' N'

theorem iter_rng {r : Addr} {a b : Int} {t u v : Tok} {n : Nat} {m₀ : Str → Option Value} {news : List (Addr × Obj)} (J : Nat → (Str → Option Value) → List (Addr × Obj) → Prop)
    (hh : A.handled = none) (hr : IsRange s.heap r a b 1 t u v) (hsmall : Builtin.Range.small a b 1 = true) (hn : Builtin.Range.rangeSize a b 1 = (n : Int)) (F : Fr h₀ env.locals s.heap m₀) (N : News h₀ env.locals s.heap news) (hj : J 0 m₀ news)
    (turn : ∀ i tt m₁ news₁ h tk I oI, i < n → J i m₁ news₁ → (∀ p ∈ news₁, p.1 ≠ I) → Fr h₀ env.locals h (fun y => if y = x then some (.int (a + (i : Int)) tt) else m₁ y) → News h₀ env.locals h ((I, oI) :: news₁) →
      wpAny (model prog w) A (execs body env) (TurnEnd h₀ env.locals I oI (J (i + 1)) Q { s with heap := h, toks := tk }) E { s with heap := h, toks := tk })
    (done : ∀ m₁ news₁ h tk, J n m₁ news₁ → Fr h₀ env.locals h m₁ → News h₀ env.locals h news₁ → Q .next { s with heap := h, toks := tk }) :
    wpAny (model prog w) A (pyIter (.ref r)) (fun it s₂ => LoopAtV prog w A h₀ env x body Q E it s₂) E s := by
  refine wpAny_pyIter_range hr hsmall ?_
  refine ⟨_, _, _, n, _, _, m₀, news, J, rfl, range_walks hh a n, ?_, ?_, ?_, (by show IsRangeIter _ _ _ _ _; rw [hn]; simpa using Heap.get?_push_size _ rfl), F.push _, (fun p hp => ⟨Heap.get?_push_of_some _ (N p hp).1, (N p hp).2⟩), hj, ?_, ?_⟩
  · intro hm
    exact absurd F.ns.lt ((List.mem_singleton.mp hm) ▸ Nat.lt_irrefl _)
  · intro b hb
    rw [List.mem_singleton.mp hb]
    exact next_is_new F
  · intro p hp hI
    exact absurd (Heap.lt_size (N p hp).1) ((List.mem_singleton.mp hI) ▸ Nat.lt_irrefl _)
  · rintro i v m₁ news₁ s₁ own ⟨hh', tk', rfl⟩ hin ⟨tt, rfl⟩ hJ hoff hsub hlive hall hst F₁ N₁
    have hI0 : h₀.get? s.heap.objs.size = none := next_is_new F
    obtain ⟨oI, eI⟩ : ∃ o, hh'.get? s.heap.objs.size = some o := ⟨_, hst⟩
    have mI := hall _ (by simp) hI0 _ eI
    refine wpAny_mono (turn i tt m₁ news₁ hh' tk' _ oI hin hJ (fun p hp q => hoff p hp (by rw [q]; simp)) F₁ (fun p hp => ?_)) (fun f s₂ p => TurnEnd.toV (fun h' m' nx hJ' N' p hp => ?_) p) fun _ _ e => e
    · rcases List.mem_cons.mp hp with rfl | hp
      · exact N₁ _ (List.mem_append_left _ mI)
      · exact N₁ _ (List.mem_append_right _ hp)
    · have e := List.mem_singleton.mp (hsub p hp)
      have h2 : hh'.get? p.1 = some p.2 := hlive p hp
      rw [e] at h2
      have : p = (s.heap.objs.size, oI) := Prod.ext e (Option.some.inj (h2.symm.trans eI))
      rw [this]
      exact N' _ (.head _)
  · rintro h' tk m' news' F' N' _ hJ
    exact done m' news' h' tk hJ F' N'
end
end Mine
namespace Mine
/-- a frame's names, the written ones first -/
def putAll : List (Str × Value) → (Str → Option Value) → Str → Option Value
  | [], m, y => m y
  | p :: l, m, y => if y = p.1 then some p.2 else putAll l m y
def Has (m : Str → Option Value) : List (Str × Value) → Prop
  | [] => True
  | p :: l => m p.1 = some p.2 ∧ Has m l
theorem Has.put {m : Str → Option Value} : ∀ {l : List (Str × Value)}, Has m l → m = putAll l m
  | [], _ => rfl
  | p :: l, h => by
    funext y
    show m y = if y = p.1 then some p.2 else putAll l m y
    by_cases e : y = p.1
    · rw [if_pos e, e]; exact h.1
    · rw [if_neg e, ← Has.put h.2]
theorem Has.store {m : Str → Option Value} {l : List (Str × Value)} {x : Str} {v : Option Value} (h : Has m l) : (fun y => if y = x then v else m y) = fun y => if y = x then v else putAll l m y := by
  rw [← Has.put h]
theorem InLs.ints {P : Sto} : ∀ {vs : List Value} {ns : List Int}, InLs P vs (ns.map .int) → IntsAre vs ns
  | _, [], .nil => .nil
  | _, n :: ns, .cons h1 h2 => by
    obtain ⟨t, rfl⟩ := h1.ofInt
    exact .cons n t (InLs.ints h2)
theorem InLs.ofInts {P : Sto} : ∀ {vs : List Value} {ns : List Int}, IntsAre vs ns → InLs P vs (ns.map .int)
  | _, _, .nil => .nil
  | _, _, .cons n t h => .cons (.int n t) (InLs.ofInts h)
theorem ints_one {vs : List Value} {n : Int} (h : IntsAre vs [n]) : ∃ t, vs = [.int n t] := by
  cases h with
  | cons n t r => cases r; exact ⟨t, rfl⟩
/-- the walk stands still here -/
def Hold (P : Prop) : Prop := P
theorem Hold.out {P : Prop} (h : Hold P) : P := h
end Mine
namespace Mine
def putNew (acc : List PyData) (x : PyData) : List PyData := if acc.any (fun y => PyData.eqv y x) then acc else acc ++ [x]
def dedupP (xs : List PyData) : List PyData := xs.foldl putNew []
theorem canLayAll0_iff : ∀ {l : List PyData}, PyData.canLayAll0 l = true ↔ ∀ x ∈ l, x.canLay0 = true
  | [] => by simp [PyData.canLayAll0]
  | x :: l => by simp [PyData.canLayAll0, canLayAll0_iff (l := l)]
theorem depthAll_iff {k : Nat} : ∀ {l : List PyData}, PyData.depthAll l ≤ k ↔ ∀ x ∈ l, x.depth ≤ k
  | [] => by simp [PyData.depthAll]
  | x :: l => by
    have ih := depthAll_iff (k := k) (l := l)
    simp only [PyData.depthAll, List.forall_mem_cons, ← ih]
    omega
theorem putNew_mem {acc : List PyData} {x y : PyData} (h : y ∈ putNew acc x) : y ∈ acc ∨ y = x := by
  unfold putNew at h
  split at h
  · exact .inl h
  · simpa using h
theorem fold_mem {y : PyData} : ∀ (xs acc : List PyData), y ∈ xs.foldl putNew acc → y ∈ acc ∨ y ∈ xs
  | [], acc, h => .inl h
  | x :: xs, acc, h => by
    rcases fold_mem xs _ h with h | h
    · rcases putNew_mem h with h | h
      · exact .inl h
      · exact .inr (by simp [h])
    · exact .inr (by simp [h])
theorem dedupP_mem {xs : List PyData} {y : PyData} (h : y ∈ dedupP xs) : y ∈ xs := by
  rcases fold_mem xs [] h with h | h
  · cases h
  · exact h
theorem dedupP_step {xs : List PyData} {i : Nat} {d : PyData} (h : xs[i]? = some d) : dedupP (xs.take (i + 1)) = putNew (dedupP (xs.take i)) d := by
  unfold dedupP
  rw [List.take_add_one, h]; simp
theorem notIn_led {prog : Program} {w : World} {A : Around} {E : Value → Shared → Prop} {s : Shared} {h₀ : Heap} {L c : Addr} {news : List (Addr × Obj)} {ws : Array Value} {k : Nat} {P : Sto} {ds : List PyData} {v : Value} {d : PyData} {Q : Value → Shared → Prop}
    (N : News h₀ L s.heap news) (hm : (c, listOf ws k) ∈ news) (hW : InLs P ws.toList ds) (hx : InL P v d) (hP : ∀ a o, P a o → s.heap.get? a = some o) (hc : ∀ x ∈ ds, x.canLay0 = true) (hd : d.canLay0 = true)
    (hu : A.units + 1 + d.depth < cLine) (h : Q (.bool (!ds.any fun y => PyData.eqv y d)) s) : wpAny (model prog w) A (compareOp .NotIn v (.ref c)) Q E s := by
  obtain ⟨as, r⟩ := hW.reads hP
  obtain ⟨bs, r'⟩ := hx.reads hP
  refine SeqAt.notIn_list_reads (.list (N _ hm).1 rfl rfl r) r' (canLayAll0_iff.mpr hc) hd ?_ h
  have := Nat.min_le_right (PyData.depthAll ds) d.depth
  omega
section
local macro_rules | `(tactic| walk_at "exec For Name Name cons nil") => `(tactic| (k_here; (rename Fr _ _ _ _ => lF'); (with_unfolding_all refine' For_invVF lF' ?k1 ?k2 ?_; (case k1 => exact rfl); (case k2 => exact rfl); k_whole)))
local macro_rules | `(tactic| walk_at "pyIter ref") => `(tactic| fail "mine")

theorem dedup_spec {prog : Program} {w : World} {mean : ExcName → Option Value} {mg mb : Str → Option Value} {A : Around} {R : Result → Shared → Prop} {s : Shared} {v : Value} {xs : List PyData} {P : Sto}
    (hh : A.handled = none) (hdep : A.depth + 8 < recursionLimit) (hu : A.units + 200 < cLine) (KX : (hd.heap_39 w.params).In s.heap) (T : Top VW LS mean mg mb s.heap)
    (hP : ∀ a o, P a o → s.heap.get? a = some o) (rv : InL P v (.list xs)) (hc : PyData.canLayAll0 xs = true) (hdp : PyData.depthAll xs ≤ 8) (hl : xs.length ≤ 1000)
    (ret : ∀ a ws n h' tk, s.heap.StaysIn h' → h'.get? a = some (listOf ws n) → s.heap.get? a = none → InLs P ws.toList (dedupP xs) → R (.ok (.ret (.ref a))) { s with heap := h', toks := tk }) :
    codeAny (model prog w) A (.call (.ref 36) ⟨[v], []⟩) R s := by
  refine enterK (binds := [(Str.ofString "unhashable_params", v)]) KX T rfl rfl (by omega) (BindsTo.of_eq rfl) (locs rfl) fun h₁ F N => ?_
  obtain ⟨ax, vs, n, rfl, h1, h4⟩ := rv.ofList
  k_fill
  k_steps
  rename Fr _ _ _ _ => F1
  rename News _ _ _ _ => N1
  rename_i l' _ _ _
  refine iter_src (ol := W.listOf vs n) (vs := vs) (n := n) (fun i m nw => ∃ ws k, nw = [(l', listOf ws k)] ∧ ws.size ≤ i ∧ InLs P ws.toList (dedupP (xs.take i)) ∧ ∀ z, z ≠ Str.ofString "t" → m z = (fun y => if y = Str.ofString "new_unhashable" then some (Value.ref l') else List.lookup y [(Str.ofString "unhashable_params", Value.ref ax)].reverse) z) rfl rfl (fun _ _ _ _ => .inl (hP _ _ h1)) hh F1 N1 ⟨_, _, rfl, Nat.le_refl _, .nil, fun _ _ => rfl⟩ ?_ ?_
  · rintro i v m₁ news₁ h tk I oI hv ⟨ws, k, rfl, hwi, hW, hm⟩ off F2 N2
    rw [map_none hm] at F2
    clear F1 N1 hm
    k_steps
    obtain ⟨d, hd, hD⟩ := h4.get (by simpa using hv)
    have hdx : d ∈ xs := List.mem_of_getElem? hd
    have hdc := canLayAll0_iff.mp hc d hdx
    have hdd := depthAll_iff.mp hdp d hdx
    refine notIn_led N2 (.tail _ (.head _)) hW hD (fun a o e => F2.keep _ _ (hP a o e)) (fun x hx => canLayAll0_iff.mp hc x (List.mem_of_mem_take (dedupP_mem hx))) hdc (by simp only [units_deeper]; omega) ?_
    have st := dedupP_step hd
    cases hb : (dedupP (List.take i xs)).any fun y => PyData.eqv y d with
    | true =>
      have st' : dedupP (List.take (i + 1) xs) = dedupP (List.take i xs) := by rw [st]; unfold putNew; rw [hb]; rfl
      k_steps
      exact ⟨_, _, _, _, rfl, F2, N2, off, ws, k, rfl, Nat.le_succ_of_le hwi, st' ▸ hW, fun z hz => if_neg hz⟩
    | false =>
      have st' : dedupP (List.take (i + 1) xs) = dedupP (List.take i xs) ++ [d] := by rw [st]; unfold putNew; rw [hb]; rfl
      have hIl : @Ne Nat I l' := Ne.symm (off _ (.head _))
      have hix : i < xs.length := (List.getElem?_eq_some_iff.mp hd).1
      have hsz : ws.size ≤ sizeLine := by rw [sizeLine_eq]; omega
      k_steps
      rename Fr _ _ _ _ => F3
      rename News _ _ _ _ => N3
      refine ⟨_, _, _, _, rfl, F3, N3, fun p hp => ?_, _, _, rfl, ?_, ?_, fun z hz => if_neg hz⟩
      · rw [List.mem_singleton.mp hp]; exact Ne.symm hIl
      · rw [Array.size_push]; omega
      · rw [st', Array.toList_push]; exact hW.append (.cons hD .nil)
  · rintro m₁ news₁ h tk ⟨ws, k, rfl, hwi, hW, hm⟩ F2 N2
    have hm' : m₁ = fun z => if z = Str.ofString "t" then m₁ z else (fun y => if y = Str.ofString "new_unhashable" then some (Value.ref l') else List.lookup y [(Str.ofString "unhashable_params", Value.ref ax)].reverse) z := (done_none hm).symm
    rw [hm'] at F2
    clear F1 N1
    rw [List.take_of_length_le (by have := h4.length; simp at this; omega)] at hW
    k_steps
    exact ret _ _ _ _ _ F2.keep (N2 _ (.head _)).1 (N2 _ (.head _)).2.2 hW
end
end Mine
namespace Mine
def innerP (n : Int) (s : List Int) (i : Nat) : List Int := s.set (i + 1) (s.getD (i + 1) 0 + n * s.getD i 0)
def stepP (f : Nat) (s : List Int) (n : Int) : List Int := (List.range f).foldl (innerP n) s
def rowsP (f : Nat) (ns : List Int) : List Int := ns.foldl (stepP f) (1 :: List.replicate f 0)
def productsP (ns : List Int) (f : Nat) : Int := (rowsP f ns).getD f 0
theorem map_gen {x : Str} {u : Value} {m₁ m₀ : Str → Option Value} (hm : ∀ z, z ≠ x → m₁ z = m₀ z) (y : Str) : (fun z => if z = y then some u else m₁ z) = fun z => if z = y then some u else if z = x then m₁ x else m₀ z := by
  funext z
  by_cases h1 : z = y
  · simp [h1]
  · simp only [if_neg h1]
    by_cases h2 : z = x
    · simp [h2]
    · simp only [if_neg h2]; exact hm z h2
theorem innerP_len (n : Int) : ∀ (l : List Nat) (s : List Int), (l.foldl (innerP n) s).length = s.length
  | [], _ => rfl
  | i :: l, s => by rw [List.foldl_cons, innerP_len n l, innerP, List.length_set]
theorem stepP_len (f : Nat) (s : List Int) (n : Int) : (stepP f s n).length = s.length := innerP_len n _ s
theorem rowsP_len (f : Nat) (ns : List Int) : (rowsP f ns).length = f + 1 := by
  have : ∀ (ns s : List Int), (ns.foldl (stepP f) s).length = s.length := by
    intro ns
    induction ns with
    | nil => intro s; rfl
    | cons n r ih => intro s; rw [List.foldl_cons, ih, stepP_len]
  rw [rowsP, this, List.length_cons, List.length_replicate]
theorem rowsP_step {f : Nat} {ns : List Int} {i : Nat} {z : Int} (h : ns[i]? = some z) : rowsP f (ns.take (i + 1)) = (List.range f).foldl (innerP z) (rowsP f (ns.take i)) := by
  unfold rowsP
  rw [List.take_add_one, h]
  simp [stepP]
theorem rng_small : ∀ f : Nat, f ≤ 4 → Builtin.Range.small 1 ((f : Int) + 1) 1 = true ∧ Builtin.Range.rangeSize 1 ((f : Int) + 1) 1 = (f : Int)
  | 0, _ => by decide
  | 1, _ => by decide
  | 2, _ => by decide
  | 3, _ => by decide
  | 4, _ => by decide
  | n + 5, h => by omega
theorem fill3 : PySem.Challenge.rw_ik0113_01 = PySem.Challenge.rw_ik0113_01 ∧ hd.heap_39 = hd.heap_39 := by k_fill; exact ⟨rfl, rfl⟩
section
local macro_rules | `(tactic| walk_at "exec For Name Name cons nil") => `(tactic| (k_here; (rename Fr _ _ _ _ => lF'); (with_unfolding_all refine' For_invVF lF' ?k1 ?k2 ?_; (case k1 => exact rfl); (case k2 => exact rfl); k_whole)))
local macro_rules | `(tactic| walk_at "exec For Name Call cons nil") => `(tactic| (k_here; (rename Fr _ _ _ _ => lF'); (with_unfolding_all refine' For_invVF lF' ?k1 ?k2 ?_; (case k1 => exact rfl); (case k2 => exact rfl); k_whole)))
local macro_rules | `(tactic| walk_at "pyIter ref") => `(tactic| fail "mine")
theorem products_spec {prog : Program} {w : World} {mean : ExcName → Option Value} {mg mb : Str → Option Value} {A : Around} {R : Result → Shared → Prop} {s : Shared} {v : Value} {ns : List Int} {f : Nat} {ft : Tok} {P : Sto}
    (hh : A.handled = none) (hdep : A.depth + 8 < recursionLimit) (hu : A.units + 200 < cLine) (KX : (hd.heap_39 w.params).In s.heap) (T : Top VW LS mean mg mb s.heap)
    (hP : ∀ a o, P a o → s.heap.get? a = some o) (rv : InL P v (.list (ns.map .int))) (hf : f ≤ 4) (hns : ∀ x ∈ ns, 0 ≤ x ∧ x ≤ 64)
    (ret : ∀ h' tk t, s.heap.StaysIn h' → R (.ok (.ret (.int (productsP ns f) t))) { s with heap := h', toks := tk }) :
    codeAny (model prog w) A (.call (.ref 172) ⟨[v, .int (f : Int) ft], []⟩) R s := by
  refine enterK (binds := [(Str.ofString "numbers", v), (Str.ofString "factors", .int (f : Int) ft)]) KX T rfl rfl (by omega) (BindsTo.of_eq rfl) (locs rfl) fun h₁ F N => ?_
  obtain ⟨ax, vs, n, rfl, h1, h4⟩ := rv.ofList
  k_steps
  rename Fr _ _ _ _ => F1
  rename News _ _ _ _ => N1
  rename IntsAre _ ([1] ++ _) => I1
  rename_i tk0 l1 _ _ l2 _ q2 l3 _ i3 n3 s3 e3 e4 e5 q3 l4 ws4 _ q4 _
  have e0 : [(1 : Int)] ++ (List.replicate ((f : Int)).toNat [(0 : Int)]).flatten = 1 :: List.replicate f 0 := by
    rw [Int.toNat_natCast, List.flatten_replicate_singleton]; rfl
  rw [e0] at I1
  have N1' : News s.heap s.heap.objs.size _ [(l4, listOf ws4.toArray 0)] := fun p hp => N1 p (by rw [List.mem_singleton.mp hp]; exact .head _)
  refine iter_src (ol := W.listOf vs n) (vs := vs) (n := n) (fun i m nw => ∃ ws k, nw = [(l4, listOf ws k)] ∧ IntsAre ws.toList (rowsP f (ns.take i)) ∧ ∀ z, z ≠ Str.ofString "number" → z ≠ Str.ofString "k" → m z = (fun y => if y = Str.ofString "sums" then some (Value.ref l4) else List.lookup y [(Str.ofString "numbers", Value.ref ax), (Str.ofString "factors", Value.int (f : Int) ft)].reverse) z) rfl rfl (fun _ _ _ _ => .inl (hP _ _ h1)) hh F1 N1' ⟨_, _, rfl, I1, fun _ _ _ => rfl⟩ ?_ ?_
  · clear F1 N1 N1' e0 i3 s3 e3 e4 e5 q2 q3 q4 I1 l1 l2 l3 tk0 n3 ws4
    rintro i v m₁ news₁ h tk I oI hv ⟨ws, k, rfl, hW, hm⟩ off F2 N2
    obtain ⟨d, hd, hD⟩ := h4.get (by simpa using hv)
    obtain ⟨z, hz, rfl⟩ : ∃ z, ns[i]? = some z ∧ d = .int z := by
      rw [List.getElem?_map] at hd
      cases e : ns[i]? with
      | none => rw [e] at hd; cases hd
      | some z => rw [e] at hd; exact ⟨z, rfl, by cases hd; rfl⟩
    obtain ⟨t, rfl⟩ := hD.ofInt
    have e9 : (fun y => if y = Str.ofString "number" then some (Value.int z t) else m₁ y) = fun y => if y = Str.ofString "number" then some (Value.int z t) else if y = Str.ofString "k" then m₁ (Str.ofString "k") else (fun y => if y = Str.ofString "sums" then some (Value.ref l4) else List.lookup y [(Str.ofString "numbers", Value.ref ax), (Str.ofString "factors", Value.int (f : Int) ft)].reverse) y := by
      funext y
      by_cases h1 : y = Str.ofString "number"
      · simp [h1]
      · simp only [if_neg h1]
        by_cases h2 : y = Str.ofString "k"
        · simp [h2]
        · simp only [if_neg h2]; exact hm y h1 h2
    rw [e9] at F2
    have hz0 := (hns z (List.mem_of_getElem? hz)).1
    have hz1 := (hns z (List.mem_of_getElem? hz)).2
    have hIl : @Ne Nat I l4 := Ne.symm (off _ (.head _))
    clear hm e9 off
    k_steps
    rename IsRange _ _ _ _ _ _ _ _ => hR
    rename Fr _ _ _ _ => F3
    rename News _ _ _ _ => N3
    refine iter_rng (n := f) (fun i' m nw => ∃ ws k, nw = [(I, oI), (l4, listOf ws k)] ∧ IntsAre ws.toList ((List.range i').foldl (innerP z) (rowsP f (ns.take i))) ∧ ∀ y, y ≠ Str.ofString "k" → m y = (fun y => if y = Str.ofString "number" then some (Value.int z t) else if y = Str.ofString "k" then m₁ (Str.ofString "k") else (fun y => if y = Str.ofString "sums" then some (Value.ref l4) else List.lookup y [(Str.ofString "numbers", Value.ref ax), (Str.ofString "factors", Value.int (f : Int) ft)].reverse) y) y) hh hR (rng_small f hf).1 (rng_small f hf).2 F3 N3 ⟨_, _, rfl, hW, fun _ _ => rfl⟩ ?_ ?_
    · rintro i' tt m₂ news₂ h' tk' I' oI' hi' ⟨ws', k', rfl, hW', hm'⟩ off' F4 N4
      rw [map_none hm'] at F4
      have hI'I : @Ne Nat I I' := off' _ (.head _)
      have hI'l : @Ne Nat l4 I' := off' _ (.tail _ (.head _))
      clear F3 N3 hm' off'
      have hlen : ((List.range i').foldl (innerP z) (rowsP f (ns.take i))).length = f + 1 := by rw [innerP_len, rowsP_len]
      generalize hS : (List.range i').foldl (innerP z) (rowsP f (ns.take i)) = S at hW' hlen
      k_steps
      rename Fr _ _ _ _ => F5
      rename News _ _ _ _ => N5
      rename IntsAre _ (List.set _ _ _) => I5
      have e1 : (1 + (i' : Int)).toNat = i' + 1 := by omega
      have e2 : (1 + (i' : Int) - 1).toNat = i' := by omega
      refine ⟨_, _, _, _, rfl, F5, N5, fun p hp => ?_, _, _, rfl, ?_, fun y hy => if_neg hy⟩
      · rcases List.mem_cons.mp hp with rfl | hp
        · exact hI'I
        · rw [List.mem_singleton.mp hp]; exact hI'l
      · rw [List.range_succ, List.foldl_append, hS, List.foldl_cons, List.foldl_nil, innerP, ← e1]
        conv => rhs; rhs; rhs; rhs; rw [← e2]
        exact I5
    · rintro m₂ news₂ h' tk' ⟨ws', k', rfl, hW', hm'⟩ F4 N4
      have hm2 : m₂ = fun z => if z = Str.ofString "k" then m₂ z else _ := (done_none hm').symm
      rw [hm2] at F4
      clear F3 N3
      k_steps
      refine ⟨_, _, _, _, rfl, F4, N4, fun p hp => ?_, _, _, rfl, ?_, fun y hy1 hy2 => ?_⟩
      · rw [List.mem_singleton.mp hp]; exact Ne.symm hIl
      · rw [rowsP_step hz]; exact hW'
      · show (if y = Str.ofString "k" then m₂ y else (if y = Str.ofString "number" then _ else if y = Str.ofString "k" then _ else _)) = _
        rw [if_neg hy2, if_neg hy1, if_neg hy2]
  · rintro m₂ news₂ h' tk' ⟨ws', k', rfl, hW', hm'⟩ F4 N4
    rw [List.take_of_length_le (by have := h4.length; simp at this; omega)] at hW'
    have hm2 : m₂ = fun y => if y = Str.ofString "number" then m₂ (Str.ofString "number") else if y = Str.ofString "k" then m₂ (Str.ofString "k") else (if y = Str.ofString "sums" then some (Value.ref l4) else List.lookup y [(Str.ofString "numbers", Value.ref ax), (Str.ofString "factors", Value.int (f : Int) ft)].reverse) := by
      funext y
      by_cases h1 : y = Str.ofString "number"
      · simp [h1]
      · simp only [if_neg h1]
        by_cases h2 : y = Str.ofString "k"
        · simp [h2]
        · simp only [if_neg h2]; exact hm' y h1 h2
    rw [hm2] at F4
    have hlen := rowsP_len f ns
    clear F1 N1 N1'
    generalize hS : rowsP f ns = S at hW' hlen
    k_steps
    have e : productsP ns f = S.getD ((f : Int)).toNat 0 := by rw [productsP, hS, Int.toNat_natCast]
    rw [← e]
    exact ret _ _ _ F4.keep
end
end Mine
namespace Mine
def letterD (m : Int) : PyData := .list [.int m]
def waySt (ts : List Int) (q : Int × Int × List Int) (m : Int) : Int × Int × List Int := (q.1 * (ts.count m : Int), q.2.1 + (ts.count m : Int), q.2.2 ++ [q.2.1 + (ts.count m : Int)])
def wayF (ts os : List Int) : Int × Int × List Int := os.foldl (waySt ts) (1, 0, [])
def waysP (ts os : List Int) (d : Nat) : Int := (wayF ts os).1 * productsP (wayF ts os).2.2 (d - os.length)
theorem wayF_step {ts os : List Int} {i : Nat} {m : Int} (h : os[i]? = some m) : wayF ts (os.take (i + 1)) = waySt ts (wayF ts (os.take i)) m := by
  unfold wayF
  rw [List.take_add_one, h]
  simp
def WayInv (k : Nat) (q : Int × Int × List Int) : Prop := 0 ≤ q.1 ∧ q.1 ≤ 4 ^ k ∧ 0 ≤ q.2.1 ∧ q.2.1 ≤ 4 * (k : Int) ∧ q.2.2.length = k ∧ ∀ x ∈ q.2.2, 0 ≤ x ∧ x ≤ 4 * (k : Int)
theorem WayInv.step {ts : List Int} (hts : ts.length ≤ 4) {k : Nat} {q : Int × Int × List Int} {m : Int} (h : WayInv k q) : WayInv (k + 1) (waySt ts q m) := by
  obtain ⟨h1, h2, h3, h4, h5, h6⟩ := h
  have hc : ts.count m ≤ 4 := Nat.le_trans List.count_le_length hts
  have hc' : (ts.count m : Int) ≤ 4 := by omega
  have hc0 : (0 : Int) ≤ (ts.count m : Int) := by omega
  refine ⟨Int.mul_nonneg h1 hc0, ?_, ?_, ?_, ?_, ?_⟩
  · rw [Int.pow_succ]
    exact Int.mul_le_mul h2 hc' hc0 (Int.le_trans h1 h2)
  · show 0 ≤ q.2.1 + (ts.count m : Int); omega
  · show q.2.1 + (ts.count m : Int) ≤ 4 * ((k + 1 : Nat) : Int); omega
  · show (q.2.2 ++ [_]).length = k + 1
    rw [List.length_append, h5]; rfl
  · intro x hx
    rcases List.mem_append.mp hx with hx | hx
    · have := h6 x hx
      omega
    · rw [List.mem_singleton.mp hx]; omega
theorem WayInv.fold {ts : List Int} (hts : ts.length ≤ 4) : ∀ (os : List Int) (k : Nat) (q : Int × Int × List Int), WayInv k q → WayInv (k + os.length) (os.foldl (waySt ts) q)
  | [], _, _, h => h
  | m :: os, k, q, h => by
    rw [List.foldl_cons, List.length_cons, show k + (os.length + 1) = k + 1 + os.length by omega]
    exact WayInv.fold hts os _ _ (h.step hts)
theorem wayF_bound {ts : List Int} (hts : ts.length ≤ 4) (os : List Int) (ho : os.length ≤ 4) : 0 ≤ (wayF ts os).1 ∧ (wayF ts os).1 ≤ 256 ∧ 0 ≤ (wayF ts os).2.1 ∧ (wayF ts os).2.1 ≤ 16 ∧ (wayF ts os).2.2.length = os.length ∧ ∀ x ∈ (wayF ts os).2.2, 0 ≤ x ∧ x ≤ 64 := by
  have h := WayInv.fold hts os 0 (1, 0, []) ⟨by decide, by decide, by decide, by decide, rfl, fun _ h => nomatch h⟩
  rw [Nat.zero_add] at h
  obtain ⟨h1, h2, h3, h4, h5, h6⟩ := h
  refine ⟨h1, ?_, h3, ?_, h5, fun x hx => ?_⟩
  · refine Int.le_trans h2 ?_
    generalize os.length = k at ho
    match k, ho with
    | 0, _ => decide
    | 1, _ => decide
    | 2, _ => decide
    | 3, _ => decide
    | 4, _ => decide
  · have := h4; show (os.foldl (waySt ts) (1, 0, [])).2.1 ≤ 16; omega
  · have := h6 x hx
    omega
section
local macro_rules | `(tactic| walk_at "exec For Name Name cons nil") => `(tactic| (k_here; (rename Fr _ _ _ _ => lF'); (with_unfolding_all refine' For_invVF lF' ?k1 ?k2 ?_; (case k1 => exact rfl); (case k2 => exact rfl); k_whole)))
local macro_rules | `(tactic| walk_at "pyIter ref") => `(tactic| fail "mine")
theorem ways_spec {prog : Program} {w : World} {mean : ExcName → Option Value} {mg mb : Str → Option Value} {A : Around} {R : Result → Shared → Prop} {s : Shared} {v u : Value} {ts os : List Int} {d : Nat} {dt : Tok} {P : Sto}
    (hh : A.handled = none) (hdep : A.depth + 16 < recursionLimit) (hu : A.units + 300 < cLine) (KX : (hd.heap_39 w.params).In s.heap) (T : Top VW LS mean mg mb s.heap)
    (hP : ∀ a o, P a o → s.heap.get? a = some o) (rv : InL P v (.list (ts.map .int))) (ru : InL P u (.list (os.map letterD))) (hts : ts.length ≤ 4) (hos : os.length ≤ d) (hd : d ≤ 4)
    (ret : ∀ h' tk t, s.heap.StaysIn h' → R (.ok (.ret (.int (waysP ts os d) t))) { s with heap := h', toks := tk }) :
    codeAny (model prog w) A (.call (.ref 179) ⟨[v, u, .int (d : Int) dt], []⟩) R s := by
  refine enterK (binds := [(Str.ofString "tickets", v), (Str.ofString "order", u), (Str.ofString "draws", .int (d : Int) dt)]) KX T rfl rfl (by omega) (BindsTo.of_eq rfl) (locs rfl) fun h₁ F N => ?_
  obtain ⟨at_, tvs, tn, rfl, t1, t4⟩ := rv.ofList
  obtain ⟨ax, vs, n, rfl, h1, h4⟩ := ru.ofList
  have hTo := hP _ _ t1
  have hT : s.heap.IsList at_ tvs.toList.toArray := ⟨_, hTo, rfl, tn, by simp⟩
  have hI := t4.ints
  k_steps
  rename Fr _ _ _ _ => F1
  rename News _ _ _ _ => N1
  rename_i l1 _ _ _
  refine iter_src (ol := W.listOf vs n) (vs := vs) (n := n) (fun i m nw => ∃ ws k t1 t2, nw = [(l1, listOf ws k)] ∧ IntsAre ws.toList (wayF ts (os.take i)).2.2 ∧ Has m [(Str.ofString "product", .int (wayF ts (os.take i)).1 t1), (Str.ofString "so_far", .int (wayF ts (os.take i)).2.1 t2), (Str.ofString "steps", .ref l1), (Str.ofString "tickets", .ref at_), (Str.ofString "order", .ref ax), (Str.ofString "draws", .int (d : Int) dt)]) rfl rfl (fun _ _ _ _ => .inl (hP _ _ h1)) hh F1 N1 ⟨_, _, _, _, rfl, .nil, rfl, rfl, rfl, rfl, rfl, rfl, trivial⟩ ?_ ?_
  · rintro i v m₁ news₁ h tk I oI hv ⟨ws, k, tp, tq, rfl, hW, hm⟩ off F2 N2
    obtain ⟨x, hx, hD⟩ := h4.get (by simpa using hv)
    obtain ⟨z, hz, rfl⟩ : ∃ z, os[i]? = some z ∧ x = letterD z := by
      rw [List.getElem?_map] at hx
      cases e : os[i]? with
      | none => rw [e] at hx; cases hx
      | some z => rw [e] at hx; exact ⟨z, rfl, by cases hx; rfl⟩
    obtain ⟨b, bvs, bn, rfl, b1, b4⟩ := InL.ofList hD
    obtain ⟨bt, hbv⟩ := ints_one (InLs.ints (ns := [z]) b4)
    have hB : s.heap.IsList b [Value.int z bt].toArray := ⟨_, hP _ _ b1, rfl, bn, by rw [← hbv]⟩
    have hBI : IntsAre [Value.int z bt] [z] := .cons z bt .nil
    rw [hm.store] at F2
    dsimp only [putAll] at F2
    have hIl : @Ne Nat I l1 := Ne.symm (off _ (.head _))
    have bd := wayF_bound hts (os.take i) (by rw [List.length_take]; omega)
    obtain ⟨p0, p1, q0, q1, hlen, _⟩ := bd
    have st := wayF_step (ts := ts) hz
    generalize wayF ts (os.take i) = W at *
    obtain ⟨wp, wq, wl⟩ := W
    dsimp only at *
    have hws : ws.size ≤ sizeLine := by
      have := hW.length
      rw [List.length_take] at hlen
      rw [sizeLine_eq]
      simp at this
      omega
    clear F1 N1 off
    k_steps
    refine getMethod_list_of PySem.F.slot_list_count PySem.F.type_list_count (hT.at fun o e => F2.keep _ o e) ⟨_, F2.keep _ _ hTo, rfl⟩ ?_
    k_steps
    rename Fr _ _ _ _ => F3
    rename News _ _ _ _ => N3
    refine ⟨_, _, _, _, rfl, F3, N3, fun p hp => ?_, ?_⟩
    · rw [List.mem_singleton.mp hp]; exact Ne.symm hIl
    · rw [st]
      refine ⟨_, _, _, _, rfl, ?_, rfl, rfl, rfl, rfl, rfl, rfl, trivial⟩
      rw [Array.toList_push]
      exact hW.append (.cons _ _ .nil)
  · rintro m₁ news₁ h tk ⟨ws, k, tp, tq, rfl, hW, hm⟩ F2 N2
    have hvl : vs.size = os.length := by have := h4.length; simpa using this
    rw [hvl, List.take_length] at hW hm
    rw [hm.put] at F2
    dsimp only [putAll] at F2
    have bd := wayF_bound hts os (by omega)
    obtain ⟨p0, p1, q0, q1, hlen, hb⟩ := bd
    clear F1 N1
    have e0 : waysP ts os d = (wayF ts os).1 * productsP (wayF ts os).2.2 (d - os.length) := rfl
    generalize wayF ts os = W at *
    obtain ⟨wp, wq, wl⟩ := W
    dsimp only at *
    k_steps
    refine PyProof.Rows.len_list (items := vs) ⟨_, F2.keep _ _ (hP _ _ h1), rfl, n, rfl⟩ (by omega) ?_
    rw [hvl]
    k_steps
    have e1 : (d : Int) - (os.length : Int) = ((d - os.length : Nat) : Int) := by omega
    rw [e1]
    refine wpAny_call (products_spec (P := St0 s.heap [(l1, W.listOf ws k)]) hh ?_ ?_ (KX.keeps F2.keep) (T.keeps F2.keep) (St0.in F2 N2 fun _ h => h) (.list (.inr (.head _)) (InLs.ofInts hW)) (by omega) hb fun h' tk' t' st => ?_)
    · simp only [depth_deeper]; omega
    · simp only [units_deeper]; omega
    k_steps
    rw [← e0]
    exact ret _ _ _ fun b o e => st b o (F2.keep b o e)
end
end Mine
namespace Mine
theorem mro_object : mroOf (.type "object") = pure [.type "object"] := by rw [mroOf_type]; kernel_rfl
theorem lookup_object_new : typeLookup (.type "object") "__new__" = pure (some (.builtin "object.__new__")) := by rw [typeLookup_type, builtinLookup_eq_fast]; kernel_rfl
theorem sub_object : isSubtype (.type "object") (.type "object") = pure true := by rw [isSubtype_type]; kernel_rfl
theorem made_object : Bind.madeBy (.type "object") = pure (some "object.__new__") := madeBy_type mro_object lookup_object_new (by decide +kernel)
theorem called_object : TypeCalled "object" "object.__new__" "object.__init__" :=
  ⟨by decide +kernel, by decide +kernel, ⟨_, _, mro_object⟩, made_object, by decide +kernel, sub_object, PySem.F.slot_object_init⟩
theorem typeCall_object : checkTypeCall "object" ⟨[], []⟩ = pure () := by kernel_rfl
theorem newCall_object : checkBuiltinCall "object.__new__" ⟨[.type "object"], []⟩ = pure () := by kernel_rfl
abbrev nullO : Obj := { cls := .type "object" }
theorem madeHere_object : Bind.madeHere "object.__new__" (.type "object") = pure () := by
  unfold Bind.madeHere
  have : Bind.staticBase (.type "object") = pure (.type "object") := by first | rfl | kernel_rfl
  rw [this]
  simp only [pure_bind, made_object]
  first | rfl | kernel_rfl | simp
theorem object_new_meets : Meets (Builtin.«object.__new__» ⟨[.type "object"], []⟩) (fun _ R s => R (.ok (.ret (.ref s.heap.objs.size))) { s with heap := s.heap.push nullO }) := by
  refine Meets.of_wp fun prog w A R s hs => ?_
  have h1 : isType (.type "object") = pure true := by first | rfl | kernel_rfl | (unfold isType; rw [isSubtype_type]; kernel_rfl)
  unfold Builtin.«object.__new__»
  refine wpAny_bind (wpAny_of_eq (a := true) h1 ?_)
  have h2 := madeHere_object
  have h4 : typeHasDict (.type "object") = false := by decide +kernel
  have h5 : diesByItsTypesDel "object" = false := by decide +kernel
  refine wpAny_ite_false (by decide) ?_
  refine wpAny_ite_false (by decide +kernel) ?_
  refine wpAny_bind (wpAny_of_eq h2 ?_)
  refine wpAny_ite_false (by decide) ?_
  dsimp only
  refine wpAny_ite_false (by rw [h4]; decide) ?_
  refine wpAny_bind (wpAny_pure (wpAny_bind (wpAny_newObj_type (wpAny_ite_false (by rw [h5]; decide) ?_))))
  exact wpAny_pure ⟨_, rfl, hs⟩
theorem call_object {prog : Program} {w : World} {A : Around} {E : Value → Shared → Prop} {s : Shared} {Q : Value → Shared → Prop}
    (h : Q (.ref s.heap.objs.size) { s with heap := s.heap.push nullO }) : wpAny (model prog w) A (call (.type "object") []) Q E s := by
  refine callType_meets called_object typeCall_object newCall_object PySem.F.entry_object_new PySem.F.entry_object_init object_new_meets
    (Q₁ := fun obj s₁ => obj = .ref s.heap.objs.size ∧ s₁ = { s with heap := s.heap.push nullO }) ⟨rfl, rfl⟩ ?_
  rintro obj s₁ ⟨rfl, rfl⟩
  refine ⟨⟨_, Heap.get?_push_size _ rfl, rfl⟩, rfl, (fun _ R s => R (.ok (.ret .none)) s), ?_, rfl, h⟩
  exact Meets.of_wp fun prog w A R s hs => wpAny_pure ⟨_, rfl, hs⟩
theorem call_object_N {prog : Program} {w : World} {A : Around} {E : Value → Shared → Prop} {s : Shared} {Q : Value → Shared → Prop} {h₀ : Heap} {L : Addr} {m : Str → Option Value} {news : List (Addr × Obj)}
    (F : Fr h₀ L s.heap m) (N : News h₀ L s.heap news)
    (h : ∀ b h', Fr h₀ L h' m → News h₀ L h' ((b, nullO) :: news) → (∀ p ∈ news, p.1 < b) → Q (.ref b) { s with heap := h' }) : wpAny (model prog w) A (call (.type "object") []) Q E s :=
  call_object (h _ _ (F.push _) (News.push F N _ rfl) fun p hp => Heap.lt_size (N p hp).1)
end Mine
open AutoSeq1 (wpAny_loadPart')
namespace Mine
theorem sub_object_list : isSubtype (.type "object") (.type "list") = pure false := by rw [isSubtype_type]; kernel_rfl
theorem sub_list_object : isSubtype (.type "list") (.type "object") = pure true := by rw [isSubtype_type]; kernel_rfl
theorem list_eq_declines_null (l b : Addr) (items : Array Value) (n : Nat) :
    Meets (Builtin.«list.__eq__» ⟨[.ref l, .ref b], []⟩) (fun _ R s => s.heap.get? l = some (W.listOf items n) ∧ s.heap.get? b = some nullO ∧ R (.ok (.ret .notImplemented)) s) :=
  .of_wp fun prog w A R s h => by obtain ⟨hp, g, d, tk, os⟩ := s; obtain ⟨hl, hb, h⟩ := h; have f1 := sub_object_list; wp_walk using wpAny_loadPart' hl, wpAny_loadPart' hb; exact ⟨_, rfl, h⟩
theorem null_eq_declines_list (l b : Addr) (items : Array Value) (n : Nat) (hne : b ≠ l) :
    Meets (Builtin.«object.__eq__» ⟨[.ref b, .ref l], []⟩) (fun _ R s => s.heap.get? l = some (W.listOf items n) ∧ s.heap.get? b = some nullO ∧ R (.ok (.ret .notImplemented)) s) :=
  .of_wp fun prog w A R s h => by
    obtain ⟨hl, hb, h⟩ := h
    refine wpAny_bind (wpAny_of_eq (a := (.ref b, [.ref l])) rfl ?_)
    refine wpAny_bind (SeqAt.wpAny_isSame_ref_other' hne hb hl (by simp) ?_)
    exact wpAny_pure ⟨_, rfl, h⟩
theorem null_eq {prog : Program} {w : World} {A : Around} {E : Value → Shared → Prop} {s : Shared} {l b : Addr} {items : Array Value} {n : Nat} {Q : Value → Shared → Prop}
    (hb : s.heap.get? b = some nullO) (hl : s.heap.get? l = some (W.listOf items n)) (hu : A.units < cLine) (h : Q (.bool false) s) : wpAny (model prog w) A (compareOp .Eq (.ref b) (.ref l)) Q E s := by
  have hne : b ≠ l := fun e => by
    rw [e, hl] at hb
    exact absurd (congrArg Obj.cls (Option.some.inj hb)) (show ¬ (Value.type "list" = Value.type "object") by decide)
  show wpAny (model prog w) A (richCompare .Eq (.ref b) (.ref l)) Q E s
  have tb : s.TypeIs (.ref b) "object" := ⟨_, hb, rfl⟩
  have tl : s.TypeIs (.ref l) "list" := ⟨_, hl, rfl⟩
  simp only [richCompare, show cmpInfo .Eq = ("==", Str.ofString "__eq__", Str.ofString "__eq__") from rfl, tb.oneThing_none]
  refine wpAny_holding ?_
  refine wpAny_bind (wpAny_cRoomFor_or (.inr hu) ?_)
  refine wpAny_bind (wpAny_typeOf tb (wpAny_bind (wpAny_typeOf tl ?_)))
  simp only [show (Value.type "object" != Value.type "list") = true by decide, if_true]
  refine wpAny_bind (wpAny_of_eq sub_list_object ?_)
  simp only [if_true]
  refine wpAny_bind (m := tryCompare (.ref l) _ (.ref b)) (wpAny_tryCompare_declines tl PySem.F.slot_list_eq_refl (call_meets PySem.F.slot_list_eq_refl tl PySem.F.entry_list_eq (PySem.F.args_list_eq_2 _ _) (list_eq_declines_null l b items n) ⟨hl, hb, rfl, ?_⟩))
  refine wpAny_bind (m := tryCompare (.ref b) _ (.ref l)) (wpAny_tryCompare_declines tb PySem.F.slot_object_eq (call_meets PySem.F.slot_object_eq tb PySem.F.entry_object_eq (PySem.F.args_object_eq_2 _ _) (null_eq_declines_list l b items n hne) ⟨hl, hb, rfl, ?_⟩))
  simp only [Bool.not_true, Bool.false_eq_true, if_false]
  exact wpAny_bind (wpAny_rule (wpAny_bind (SeqAt.wpAny_isSame_ref_other' hne hb hl (by simp) (wpAny_pure h))))
end Mine
namespace Mine
abbrev mmO (dx : Addr) (a b v : Value) : Obj := { cls := .ref 150, dict := some dx, data := .seq #[a, b, v] }
section
variable {prog : Program} {w : World} {h : Heap}
theorem chk_new (KX : (hd.heap_39 w.params).In h) (t : Value) : Looks (model prog w) h (checkBuiltinCall "tuple.__new__" ⟨[.ref 150, t], []⟩) () := Looks.of_peek KX (by kernel_rfl)
theorem sub150 (KX : (hd.heap_39 w.params).In h) : Looks (model prog w) h (isSubtype (.ref 150) (.type "tuple")) true := Looks.of_peek KX (by kernel_rfl)
theorem sub150s (KX : (hd.heap_39 w.params).In h) : Looks (model prog w) h (isSubtype (.ref 150) (.ref 150)) true := Looks.of_peek KX (by kernel_rfl)
theorem type150 (KX : (hd.heap_39 w.params).In h) : Looks (model prog w) h (isType (.ref 150)) true := Looks.of_peek KX (by kernel_rfl)
theorem here150 (KX : (hd.heap_39 w.params).In h) : Looks (model prog w) h (Bind.madeHere "tuple.__new__" (.ref 150)) () := Looks.of_peek KX (by kernel_rfl)
theorem made150 (KX : (hd.heap_39 w.params).In h) : Looks (model prog w) h (Bind.madeBy (.ref 150)) none := Looks.of_peek KX (by kernel_rfl)
theorem init150 (KX : (hd.heap_39 w.params).In h) : Looks (model prog w) h (typeLookup (.ref 150) "__init__") (some (.builtin "object.__init__")) := Looks.of_peek KX (by kernel_rfl)
theorem mro150 (KX : (hd.heap_39 w.params).In h) : Looks (model prog w) h (mroOf (.ref 150)) [.ref 150, .type "tuple", .type "object"] := Looks.of_peek KX (by kernel_rfl)
theorem spec150 (KX : (hd.heap_39 w.params).In h) : Looks (model prog w) h (specialOf (.ref 150) "__call__") (some (.builtin "type.__call__")) := Looks.of_peek KX (by kernel_rfl)
theorem inst150 (KX : (hd.heap_39 w.params).In h) : Looks (model prog w) h (isInstance (.ref 150) (.type "type")) true := Looks.of_peek KX (by kernel_rfl)
theorem del150 (KX : (hd.heap_39 w.params).In h) : Looks (model prog w) h (classHasDel 150) false := Looks.of_peek KX (by kernel_rfl)
theorem newObj3 (a b v : Value) (d : Option Addr) : newObj (.ref 150) (.seq #[a, b, v]) d = newObjAsIs (.ref 150) (.seq #[a, b, v]) d := by
  have : ¬ ((#[a, b, v] : Array Value).size > sizeLine) := by rw [sizeLine_eq]; show ¬ ((3 : Nat) > 16777216); omega
  simp only [newObj]
  rw [if_neg this]
theorem tuple_new150 {A : Around} {R : Result → Shared → Prop} {s : Shared} {t : Addr} {a b v : Value} {k : Nat} (KX : (hd.heap_39 w.params).In s.heap)
    (ho : s.heap.get? t = some { cls := .type "tuple", data := .seq #[a, b, v] k })
    (ret : ∀ x dx h', s.heap.StaysIn h' → h'.get? x = some (mmO dx a b v) → s.heap.get? x = none → R (.ok (.ret (.ref x))) { s with heap := h' }) :
    codeAny (model prog w) A (.call (.builtin "tuple.__new__") ⟨[.ref 150, .ref t], []⟩) R s := by
  refine codeAny_call_builtin_code (Code.quiet_builtin _ (by decide +kernel)) ((chk_new KX (.ref t)).here (codeAny_builtin PySem.F.entry_tuple_new ?_))
  unfold Builtin.«tuple.__new__»
  refine wpAny_bind ((type150 KX).here ?_)
  refine wpAny_ite_false (by decide) ?_
  refine wpAny_bind ((sub150 KX).here ?_)
  refine wpAny_ite_false (by decide) ?_
  dsimp only
  refine wpAny_bind ((here150 KX).here ?_)
  refine wpAny_bind ((init150 KX).here ?_)
  refine wpAny_ite_true (by decide) ?_
  refine wpAny_bind (wpAny_of_eq (a := ()) (by first | rfl | kernel_rfl) ?_)
  refine wpAny_bind (wpAny_of_eq (a := ()) (by first | rfl | kernel_rfl) ?_)
  refine wpAny_ite_false (by decide) ?_
  refine wpAny_bind (wpAny_collect_seq t (.inr rfl) ho rfl rfl (fun h' hk => ?_))
  refine wpAny_bind (wpAny_pure (wpAny_bind (wpAny_alloc (wpAny_bind ?_))))
  rw [show (#[a, b, v] : Array Value).toList.toArray = #[a, b, v] from rfl, newObj3]
  unfold newObjAsIs
  have k1 : ∀ b o, s.heap.get? b = some o → (h'.push { cls := .type "dict", data := .dict #[] }).get? b = some o := fun b o e => Heap.get?_push_of_some _ (hk b o e)
  have k2 : ∀ q o, s.heap.get? q = some o → ((h'.push { cls := .type "dict", data := .dict #[] }).push (mmO h'.objs.size a b v)).get? q = some o := fun q o e => Heap.get?_push_of_some _ (k1 q o e)
  refine wpAny_bind (wpAny_alloc ?_)
  refine wpAny_bind (((del150 (h := s.heap) KX).keeps k2).here ?_)
  dsimp only
  refine wpAny_ite_false (by decide) ?_
  refine wpAny_pure (wpAny_pure ?_)
  refine ret _ h'.objs.size _ k2 (Heap.get?_push_size _ rfl) ?_
  rw [Heap.size_push]
  cases e : s.heap.get? (h'.objs.size + 1) with
  | none => rfl
  | some o => exact absurd (Heap.lt_size (hk _ _ e)) (show ¬ ((h'.objs.size + 1 : Nat) < h'.objs.size) by omega)
end
theorem type_tuple1 : typeOf (.type "tuple") = pure (.type "type") := by kernel_rfl
theorem find_tuple1 (w : World) : findCls (hd.heap_39 w.params) (.type "tuple") (.type "type") (Str.ofString "__new__") = some (.val (.builtin "tuple.__new__")) := by kernel_rfl
section
local macro_rules | `(tactic| walk_at "call builtin:tuple.__new__") => `(tactic| ((rename Fr _ _ _ _ => F2); (rename News _ _ _ _ => N2); (with_unfolding_all refine wpAny_call (tuple_new150 (by exact Frag.In.keeps (by assumption) F2.keep) (by exact (N2 _ (.head _)).1) ?_); intro x dx h' k1 k2 k3)))
theorem new97 {prog : Program} {w : World} {mean : ExcName → Option Value} {mg mb : Str → Option Value} {A : Around} {R : Result → Shared → Prop} {s : Shared} {a b v : Value}
    (hh : A.handled = none) (hdep : A.depth + 4 < recursionLimit) (hu : A.units + 100 < cLine) (KX : (hd.heap_39 w.params).In s.heap) (T : Top VW LS mean mg mb s.heap)
    (ret : ∀ x dx h' tk, s.heap.StaysIn h' → h'.get? x = some (mmO dx a b v) → s.heap.get? x = none → R (.ok (.ret (.ref x))) { s with heap := h', toks := tk }) :
    codeAny (model prog w) A (.call (.ref 97) ⟨[.ref 150, a, b, v], []⟩) R s := by
  obtain ⟨hdl, dp, fr, gd, un'⟩ := A
  obtain rfl : hdl = none := hh
  have e1 : codeIn (hd.heap_39 w.params) (.ref 96) (Str.ofString "Mismatch.__new__") = true := by rfl
  refine enterK (binds := [(Str.ofString "_cls", .ref 150), (Str.ofString "actual", a), (Str.ofString "expected", b), (Str.ofString "value", v)]) KX T rfl e1 (by show dp < _; have : dp + 4 < recursionLimit := hdep; omega) ?hb ?hl fun h₁ F N => ?_
  case hb => exact BindsTo.of_eq rfl
  case hl => exact locs rfl
  k_steps
  rename Fr _ _ _ _ => F1
  refine' method_type (K := hd.heap_39 w.params) (T := "tuple") (v := .builtin "tuple.__new__") ?cF ?cX ?cm ?cs ?ce ?ch ?_
  case cF => exact F1
  case cX => exact KX
  case cm => exact type_tuple1
  case cs => decide +kernel
  case ce => exact find_tuple1 w
  case ch => kernel_rfl
  k_steps
  rename Fr _ _ _ _ => F9
  rename_i x dx h' k1 k2 k3
  refine ret x dx h' _ (fun q o e => k1 q o (F9.keep q o e)) k2 ?_
  cases e : s.heap.get? x with
  | none => rfl
  | some o => exact absurd (F9.keep _ _ e) (by rw [k3]; exact fun z => nomatch z)
end
end Mine
namespace Mine
theorem get150 {prog : Program} {w : World} {A : Around} {E : Value → Shared → Prop} {s : Shared} {Q : Value → Shared → Prop} (KX : (hd.heap_39 w.params).In s.heap) (h : Q (.ref 97) { s with toks := s.toks + 1 }) :
    wpAny (model prog w) A (getAttr (.ref 150) "__new__" false) Q E s := by
  have e1 : readsIn (hd.heap_39 w.params) 150 (.type "type") = true := by kernel_rfl
  have e2 : findCls (hd.heap_39 w.params) (.ref 150) (.type "type") (Str.ofString "__new__") = some (.get (.builtin "staticmethod.__get__") (.ref 151) .none (.ref 150)) := by kernel_rfl
  have e3 : recIn (hd.heap_39 w.params) 151 "staticmethod" = some [.ref 97] := by kernel_rfl
  have e4 : handedIn (.ref 97) = true := by rfl
  refine cls_bind KX e1 e2 (wpAny_call ?_)
  exact sm_get (s := { s with toks := s.toks + 1 }) KX e3 (handed_on e4 h)
theorem oi_sub (prog : Program) (w : World) (h : Heap) (KX : (hd.heap_39 w.params).In h) : Looks (model prog w) h (isSubtype (.ref 150) (.type "object")) true := Looks.of_peek KX (by kernel_rfl)
theorem oi_args4 (x a b v : Value) : argsOk "object.__init__" ⟨[x, a, b, v], []⟩ := by unfold argsOk; kernel_rfl
theorem tcw (args : List Value) : (Code.builtin "type.__call__" ⟨.ref 150 :: args, []⟩).weight = 1 := by rfl
theorem tcu (args : List Value) : (Code.builtin "type.__call__" ⟨.ref 150 :: args, []⟩).cUnits = 1 := by rfl
theorem mk150 {prog : Program} {w : World} {mean : ExcName → Option Value} {mg mb : Str → Option Value} {A : Around} {R : Result → Shared → Prop} {s : Shared} {a b v : Value}
    (hh : A.handled = none) (hdep : A.depth + 8 < recursionLimit) (hu : A.units + 150 < cLine) (KX : (hd.heap_39 w.params).In s.heap) (T : Top VW LS mean mg mb s.heap)
    (ret : ∀ x dx h' tk, s.heap.StaysIn h' → h'.get? x = some (mmO dx a b v) → s.heap.get? x = none → R (.ok (.ret (.ref x))) { s with heap := h', toks := tk }) :
    codeAny (model prog w) A (.call (.ref 150) ⟨[a, b, v], []⟩) R s := by
  obtain ⟨h, g, d, t, os⟩ := s
  have hC := KX 150 _ rfl
  refine codeAny_of_tree ?_
  show wpAny _ _ (callAny (.ref 150) _) _ _ _
  refine nd_load hC ?_
  show wpAny _ _ (callAny.viaDunder (.ref 150) _) _ _ _
  unfold callAny.viaDunder
  refine wpAny_bind ((spec150 KX).at ?_)
  dsimp only
  rw [tc_bind]
  refine wpAny_bind (wpAny_pure (wpAny_bind (wpAny_pure ?_)))
  refine wpAny_pure (a := Fin.again (.call (.builtin "type.__call__") ⟨[.ref 150, a, b, v], []⟩)) (And.intro rfl ?_)
  refine codeAny_call_builtin_at (Code.quiet_builtin _ (by decide +kernel)) entry_typeCall (check_slot tc_kind tc_split (inst150 KX) (tc_args _ _ _) ?_)
  unfold Builtin.«type.__call__»
  dsimp only
  refine wpAny_ite_false (by decide) ?_
  refine wpAny_bind ((mro150 KX).here ?_)
  refine wpAny_ite_false (by decide) ?_
  refine wpAny_bind ((made150 KX).here ?_)
  dsimp only
  refine wpAny_bind (get150 KX ?_)
  refine wpAny_bind (wpAny_holding (wpAny_call (new97 hh ?_ ?_ KX T fun x dx h' tk k1 k2 k3 => ?_)))
  · show A.depth + (Code.builtin "type.__call__" ⟨[.ref 150, a, b, v], []⟩).weight + 4 < recursionLimit
    rw [tcw]; omega
  · show A.units + (Code.builtin "type.__call__" ⟨[.ref 150, a, b, v], []⟩).cUnits + 100 < cLine
    rw [tcu]; omega
  have KX' := KX.keeps k1
  have tx : Looks (model prog w) h' (typeOf (.ref x)) (.ref 150) := (Looks.ld k2).andThen .now
  have ix : Looks (model prog w) h' (isInstance (.ref x) (.ref 150)) true := tx.andThen (sub150s KX')
  have io : Looks (model prog w) h' (isInstance (.ref x) (.type "object")) true := tx.andThen (oi_sub prog w h' KX')
  refine wpAny_bind (ix.at ?_)
  refine wpAny_ite_false (by decide) ?_
  have sx : Looks (model prog w) h' (specialOf (.ref x) "__init__") (some (.builtin "object.__init__")) := tx.andThen (init150 KX')
  refine wpAny_bind (wpAny_holding ?_)
  unfold callSpecial?
  refine wpAny_bind (sx.at ?_)
  dsimp only
  refine wpAny_holding ?_
  rw [oi_bind]
  refine wpAny_bind (wpAny_pure ?_)
  refine wpAny_bind (wpAny_call (codeAny_call_builtin oi_plain entry_oi (check_slot oi_kind oi_split io (oi_args4 _ _ _ _) ?_)))
  unfold Builtin.«object.__init__»
  dsimp only
  refine wpAny_ite_true (by rfl) ?_
  refine wpAny_bind (tx.at ?_)
  refine wpAny_bind ((init150 KX').at ?_)
  refine wpAny_bind ((made150 KX').at ?_)
  refine wpAny_ite_false (by decide) ?_
  refine wpAny_ite_false (by decide) ?_
  refine wpAny_pure ?_
  refine wpAny_pure ?_
  dsimp only
  refine wpAny_ite_false (by decide) ?_
  exact wpAny_pure (ret x dx h' tk k1 k2 k3)
end Mine
namespace Mine
section
variable {prog : Program} {w : World} {A : Around} {E : Value → Shared → Prop} {s : Shared} {env : Env} {h₀ : Heap} {body : List Stmt} {Q : Flow → Shared → Prop}
theorem fr_keep {h h' : Heap} {L : Addr} {m : Str → Option Value} (F : Fr h₀ L h m) (S : Addr → Prop) (hk : ∀ b o, ¬ S b → h.get? b = some o → h'.get? b = some o) (hL : ¬ S L) (h0 : ∀ b, S b → h₀.get? b = none) : Fr h₀ L h' m :=
  ⟨F.ns.at' fun o e => hk L o hL e, fun b o e => hk b o (fun z => by rw [h0 b z] at e; cases e) (F.keep b o e), F.above⟩
theorem news_keep {h h' : Heap} {L : Addr} {news : List (Addr × Obj)} (N : News h₀ L h news) (S : Addr → Prop) (hk : ∀ b o, ¬ S b → h.get? b = some o → h'.get? b = some o) (off : ∀ p ∈ news, ¬ S p.1) : News h₀ L h' news :=
  fun p hp => ⟨hk _ _ (off p hp) (N p hp).1, (N p hp).2⟩
def EnumEnd (h₀ : Heap) (L e it : Addr) (oe oi : Obj) (J : (Str → Option Value) → List (Addr × Obj) → Prop) (Q : Flow → Shared → Prop) (s₁ : Shared) (f : Flow) (s₂ : Shared) : Prop :=
  match f with
  | .ret v => Q (.ret v) s₂
  | .brk => Q .next s₂
  | _ => ∃ h' tk m' nx, s₂ = { s₁ with heap := h', toks := tk } ∧ Fr h₀ L h' m' ∧ News h₀ L h' ((e, oe) :: (it, oi) :: nx) ∧ (∀ p ∈ nx, p.1 ≠ e ∧ p.1 ≠ it) ∧ J m' nx

theorem For_enumM {xi xv : Str} {pi pv pt pos : Pos} {x1} {iter : Expr} {l : Addr} {n : Nat} (J : Nat → (Str → Option Value) → List (Addr × Obj) → Prop)
    (hh : A.handled = none) (hxi : env.kindOf xi = some .local) (hxv : env.kindOf xv = some .local)
    (hp : (env.scope.kind == .class || (env.scope.kind == .module && env.locals != env.globals)) = false)
    (hS : ∀ i m nw, J i m nw → ∃ items k, items.size = n ∧ (l, W.listOf items k) ∈ nw)
    (h : wpAny (model prog w) A (eval iter env) (fun xval s₁ => ∃ (e it : Addr) (m₀ : Str → Option Value) (news : List (Addr × Obj)), xval = .ref e ∧ e ≠ it ∧ (∃ h tk, s₁ = { s with heap := h, toks := tk }) ∧
      IsEnum s₁.heap e it 0 .none ∧ s₁.heap.IsListIter it l 0 ∧ h₀.get? e = none ∧ h₀.get? it = none ∧ e ≠ env.locals ∧ it ≠ env.locals ∧ Fr h₀ env.locals s₁.heap m₀ ∧ News h₀ env.locals s₁.heap news ∧ (∀ p ∈ news, p.1 ≠ e ∧ p.1 ≠ it) ∧ J 0 m₀ news) E s)
    (turn : ∀ i v t m₁ nw h tk e it oe oi items k, i < n → J i m₁ nw → (l, W.listOf items k) ∈ nw → items[i]? = some v → e ≠ it → (∀ p ∈ nw, p.1 ≠ e ∧ p.1 ≠ it) →
      Fr h₀ env.locals h (fun y => if y = xv then some v else if y = xi then some (.int i t) else m₁ y) → News h₀ env.locals h ((e, oe) :: (it, oi) :: nw) →
      wpAny (model prog w) A (execs body env) (EnumEnd h₀ env.locals e it oe oi (J (i + 1)) Q { s with heap := h, toks := tk }) E { s with heap := h, toks := tk })
    (done : ∀ m₁ nw h tk, J n m₁ nw → Fr h₀ env.locals h m₁ → News h₀ env.locals h nw → Q .next { s with heap := h, toks := tk })
    (hs : ∀ x, foldedSetIterable iter env x = pure x := by intro _; rfl)
    (hE : PassesOwn (model prog w) A env E := by passes_own) :
    wpAny (model prog w) A (exec (.For (.Tuple [.Name xi pi, .Name xv pv] x1 pt) iter body [] pos) env) Q E s := by
  refine wpAny_For (wpAny_mono h (fun xval s₁ h₁ => ?_) fun _ _ x => x) hs
  obtain ⟨e, it, m₀, news, rfl, hei, ⟨hs1, tks1, rfl⟩, he, hit, he0, hi0, heL, hiL, F, N, off, h0⟩ := h₁
  refine wpAny_pyIter_enum he ?_
  refine codeAny_forLoop_any
    (fun k s' => ∃ h' tk m' nw i old, s' = { s with heap := h', toks := tk } ∧ IsEnum h' e it ((i : Nat) : Int) old ∧ h'.IsListIter it l i ∧ Fr h₀ env.locals h' m' ∧ News h₀ env.locals h' nw ∧ (∀ p ∈ nw, p.1 ≠ e ∧ p.1 ≠ it) ∧ J i m' nw ∧ i ≤ n ∧
      k = n + 1 - i) ?_ (n + 1)
    ⟨hs1, tks1, m₀, news, 0, .none, rfl, he, hit, F, N, off, h0, Nat.zero_le _, rfl⟩
  rintro k s' ⟨H, tk, m', nw, i, old, rfl, he', hit', F', N', off', hJ, hi, rfl⟩
  obtain ⟨items, kk, hsz, hm⟩ := hS _ _ _ hJ
  have hl' : H.IsList l items := ⟨_, (N' _ hm).1, rfl, kk, rfl⟩
  have hle : l ≠ e := (off' _ hm).1
  have hli : l ≠ it := (off' _ hm).2
  cases hv : items[i]? with
  | none =>
    have hszi : i = n := Nat.le_antisymm hi (by rw [← hsz]; simpa using hv)
    refine wpAny_pyNext_enum_end hh he' hit' hl' hv fun h₁ he₁ => wpAny_execs_nil ?_
    refine done m' nw h₁ tk (hszi ▸ hJ) (fr_keep F' (fun b => b = it) (fun b o hb x => he₁ b o hb x) (fun z => hiL z.symm) (fun b z => z ▸ hi0)) (news_keep N' (fun b => b = it) (fun b o hb x => he₁ b o hb x) fun p hp => (off' p hp).2)
  | some v =>
    have hlt : i < n := by rw [← hsz]; exact (Array.getElem?_eq_some_iff.mp hv).1
    have heH : e < H.objs.size := Heap.lt_size he'
    have hLH : env.locals < H.objs.size := F'.ns.lt
    obtain ⟨oi, hoi, _⟩ := id hit'
    have hiH : it < H.objs.size := Heap.lt_size hoi
    refine wpAny_pyNext_enum_item he' hit' hl' hv hei fun h₁ heo hit₁ ht₁ hz₁ hk₁ => ?_
    refine wpAny_letOwnedTupleGo_enum heo fun h₂ he₂ hs₂ => ?_
    replace hs₂ : Heap.SameBut e h₁ h₂ := hs₂
    have ht₂ : h₂.IsTuple H.objs.size #[.int i tk, v] := ⟨_, (hs₂.2 _ (Nat.ne_of_gt heH)).trans ht₁, rfl, _, rfl⟩
    have hz₂ : h₂.objs.size = H.objs.size + 1 := hs₂.1.trans hz₁
    refine wpAny_assign_Tuple hh ht₂ rfl rfl fun h₃ hx₃ => ?_
    replace hx₃ : Heap.ExtBut h₂.objs.size h₂ h₃ := hx₃
    have old₃ : ∀ b o, b < H.objs.size → h₂.get? b = some o → h₃.get? b = some o := fun b o hb x => hx₃ b o (by rw [hz₂]; exact Nat.ne_of_lt (Nat.lt_succ_of_lt hb)) x
    have k₃ : ∀ b o, ¬ (b = e ∨ b = it) → H.get? b = some o → h₃.get? b = some o := fun b o hb x => by
      have hbH : b < H.objs.size := Heap.lt_size x
      exact old₃ b o hbH (hs₂.extBut b o (fun z => hb (.inl z)) (hk₁ b o (fun z => hb (.inl z)) (fun z => hb (.inr z)) x))
    have hS0 : ∀ b, (b = e ∨ b = it) → h₀.get? b = none := fun b z => by rcases z with z | z <;> rw [z] <;> assumption
    have F₃ := fr_keep F' (fun b => b = e ∨ b = it) k₃ (fun z => z.elim (fun q => heL q.symm) fun q => hiL q.symm) hS0
    have N₃ := news_keep N' (fun b => b = e ∨ b = it) k₃ fun p hp z => z.elim (off' p hp).1 (off' p hp).2
    obtain ⟨oe, hoe, ee₃⟩ : ∃ oe, (∀ h : Heap, h.get? e = some oe → IsEnum h e it ((i : Int) + 1) v) ∧ h₃.get? e = some oe := ⟨_, fun _ x => x, old₃ e _ heH he₂⟩
    obtain ⟨oit, hoit, rit⟩ := hit₁.extBut hs₂.extBut (Ne.symm hei)
    have ii₃ : h₃.get? it = some oit := old₃ it _ hiH hoit
    show wpAny _ A (do holding [v] (assign (.Name xi pi) env (.int i tk)); do holding [] (assign (.Name xv pv) env v); pure ()) _ _ _
    refine wpAny_bind (wpAny_holding (wpAny_assign_Name (wpAny_storeName_local hxi F₃.ns (fun h₄ hn₄ hs₄ => ?_) hp)))
    replace hs₄ : Heap.SameBut env.locals h₃ h₄ := hs₄
    have F₄ := F₃.set hn₄ hs₄
    refine wpAny_bind (wpAny_holding (wpAny_assign_Name (wpAny_storeName_local hxv F₄.ns (fun h₅ hn₅ hs₅ => wpAny_pure ?_) hp)))
    replace hs₅ : Heap.SameBut env.locals h₄ h₅ := hs₅
    have F₅ := F₄.set hn₅ hs₅
    have ee₅ := (hs₅.2 e heL).trans ((hs₄.2 e heL).trans ee₃)
    have ii₅ := (hs₅.2 it hiL).trans ((hs₄.2 it hiL).trans ii₃)
    have N₅ := (N₃.set hs₄).set hs₅
    refine wpAny_mono (wpAny_passesOwn hE (turn i v tk m' nw h₅ _ e it oe oit items kk hlt hJ hm hv hei off' F₅ (fun p hp => ?_))) (fun f s₃ h₆ => ?_) fun _ _ x => x
    · rcases List.mem_cons.mp hp with rfl | hp
      · exact ⟨ee₅, heL, he0⟩
      · rcases List.mem_cons.mp hp with rfl | hp
        · exact ⟨ii₅, hiL, hi0⟩
        · exact N₅ p hp
    · have fin : (∃ h' tk' m'' nx, s₃ = { s with heap := h', toks := tk' } ∧ Fr h₀ env.locals h' m'' ∧ News h₀ env.locals h' ((e, oe) :: (it, oit) :: nx) ∧ (∀ p ∈ nx, p.1 ≠ e ∧ p.1 ≠ it) ∧ J (i + 1) m'' nx) →
          ∃ mm, mm < n + 1 - i ∧ ∃ h' tk m' nw i old, s₃ = { s with heap := h', toks := tk } ∧ IsEnum h' e it ((i : Nat) : Int) old ∧ h'.IsListIter it l i ∧ Fr h₀ env.locals h' m' ∧ News h₀ env.locals h' nw ∧ (∀ p ∈ nw, p.1 ≠ e ∧ p.1 ≠ it) ∧ J i m' nw ∧ i ≤ n ∧ mm = n + 1 - i := by
        rintro ⟨h', tk', m'', nx, rfl, F'', N'', off'', hJ''⟩
        refine ⟨n + 1 - (i + 1), by omega, h', tk', m'', nx, i + 1, v, rfl, ?_, ⟨oit, (N'' _ (.tail _ (.head _))).1, rit⟩, F'', fun p hp => N'' p (.tail _ (.tail _ hp)), off'', hJ'', hlt, rfl⟩
        have : ((i + 1 : Nat) : Int) = (i : Int) + 1 := by push_cast; rfl
        rw [this]
        exact hoe _ (N'' _ (.head _)).1
      cases f with
      | next => exact fin h₆
      | cont => exact fin h₆
      | brk => exact h₆
      | ret v => exact h₆
theorem call_enum_led {Q : Value → Shared → Prop} {L l : Addr} {items : Array Value} {k : Nat} {m : Str → Option Value} {news : List (Addr × Obj)} (F : Fr h₀ L s.heap m) (N : News h₀ L s.heap news) (hm : (l, W.listOf items k) ∈ news)
    (h : ∀ e it h', e ≠ it → IsEnum h' e it 0 .none → h'.IsListIter it l 0 → h₀.get? e = none → h₀.get? it = none → e ≠ L → it ≠ L → Fr h₀ L h' m → News h₀ L h' news → (∀ p ∈ news, p.1 ≠ e ∧ p.1 ≠ it) → Q (.ref e) { s with heap := h' }) :
    wpAny (model prog w) A (call (.type "enumerate") [.ref l]) Q E s := by
  have fresh : ∀ b : Addr, @LE.le Nat _ s.heap.objs.size b → h₀.get? b = none := fun b hb => by
    cases e : h₀.get? b with
    | none => rfl
    | some o => exact absurd (Heap.lt_size (F.keep _ _ e)) (Nat.not_lt.mpr hb)
  have hL : @LT.lt Nat _ L s.heap.objs.size := F.ns.lt
  refine call_enumerate_list ⟨_, (N _ hm).1, rfl, k, rfl⟩ fun h' he hit hz hk => ?_
  refine h _ _ h' (by show ¬ (@Eq Nat (s.heap.objs.size + 1) s.heap.objs.size); omega) he hit (fresh _ (Nat.le_succ _)) (fresh _ (Nat.le_refl _)) ?_ ?_ (F.keeps hk) (N.grown hk) fun p hp => ?_
  · show ¬ (@Eq Nat (s.heap.objs.size + 1) L); omega
  · show ¬ (@Eq Nat s.heap.objs.size L); omega
  · have hp : @LT.lt Nat _ p.1 s.heap.objs.size := Heap.lt_size (N p hp).1
    exact ⟨by show ¬ (@Eq Nat p.1 (s.heap.objs.size + 1)); omega, by show ¬ (@Eq Nat p.1 s.heap.objs.size); omega⟩
end
end Mine
namespace Mine
/-- each element once, in the order of its first place, with how often it stands there -/
def dedupT {α : Type} [DecidableEq α] (ys : List α) : List α := ys.foldl (fun acc x => if x ∈ acc then acc else acc ++ [x]) []
def rowsT {α : Type} [DecidableEq α] (ys : List α) : List (Nat × α) := (dedupT ys).map fun x => (ys.count x, x)
inductive RowsIn {α : Type} (emb : α → PyData) (P : Sto) (G : List (Addr × Obj)) : List Value → List (Nat × α) → Prop
  | nil : RowsIn emb P G [] []
  | cons {x dx : Addr} {c : Nat} {t t' : Tok} {e : Value} {y : α} {vs : List Value} {rs : List (Nat × α)} : (x, mmO dx (.int (c : Int) t) (.int 0 t') e) ∈ G → InL P e (emb y) → RowsIn emb P G vs rs → RowsIn emb P G (.ref x :: vs) ((c, y) :: rs)
def Marked {α : Type} (ys : List α) (vs ss : Array Value) (nu : Addr) (gone : Nat → α → Bool) : Prop := ss.size = vs.size ∧ ∀ p y, ys[p]? = some y → ss[p]? = if gone p y then some (.ref nu) else vs[p]?
theorem dedupT_step {α : Type} [DecidableEq α] {ys : List α} {i : Nat} {y : α} (h : ys[i]? = some y) : dedupT (ys.take (i + 1)) = if y ∈ dedupT (ys.take i) then dedupT (ys.take i) else dedupT (ys.take i) ++ [y] := by
  unfold dedupT
  rw [List.take_add_one, h]
  simp
theorem dedupT_mem {α : Type} [DecidableEq α] {ys : List α} {x : α} : x ∈ dedupT ys ↔ x ∈ ys := by
  have : ∀ (ys acc : List α), x ∈ ys.foldl (fun acc x => if x ∈ acc then acc else acc ++ [x]) acc ↔ x ∈ acc ∨ x ∈ ys := by
    intro ys
    induction ys with
    | nil => intro acc; simp
    | cons y r ih =>
      intro acc
      rw [List.foldl_cons, ih]
      by_cases h : y ∈ acc
      · rw [if_pos h, List.mem_cons]
        constructor
        · rintro (h1 | h1)
          · exact .inl h1
          · exact .inr (.inr h1)
        · rintro (h1 | rfl | h1)
          · exact .inl h1
          · exact .inl h
          · exact .inr h1
      · rw [if_neg h]
        simp only [List.mem_append, List.mem_cons, List.not_mem_nil, or_false, or_assoc]
  have := this ys []
  simpa [dedupT] using this
theorem mem_take_of {α : Type} {ys : List α} {p i : Nat} {y : α} (h : ys[p]? = some y) (hlt : p < i) : y ∈ ys.take i := List.mem_of_getElem? (i := p) (by rw [List.getElem?_take_of_lt hlt]; exact h)
theorem set_led {prog : Program} {w : World} {A : Around} {E : Value → Shared → Prop} {s : Shared} {h₀ : Heap} {L D : Addr} {m : Str → Option Value} {news news' : List (Addr × Obj)} {vs : Array Value} {n : Nat} {k : Int} {t : Tok} {v : Value} {Q : Unit → Shared → Prop}
    (F : Fr h₀ L s.heap m) (N : News h₀ L s.heap news) (U : Upd D (listOf vs n) (listOf (vs.setIfInBounds k.toNat v) n) news news') (h0 : 0 ≤ k) (h1 : k < vs.size) (hfit : k < 2 ^ 63)
    (h : ∀ h', Fr h₀ L h' m → News h₀ L h' news' → Q () { s with heap := h' }) : wpAny (model prog w) A (setItem (.ref D) (.int k t) v) Q E s := by
  obtain ⟨pre, post, rfl, rfl, a, b'⟩ := U.split
  have z := N (D, listOf vs n) (List.mem_append.mpr (.inr (.head _)))
  exact ki_setAt z.1 h0 hfit h1 (h _ (F.change (Heap.SameBut.update ..) z.2.1 z.2.2) (ki_turn _ N a b' rfl (by simp)))
theorem RowsIn.mono {α : Type} {emb : α → PyData} {P : Sto} {G G' : List (Addr × Obj)} (k : ∀ p ∈ G, p ∈ G') : ∀ {vs : List Value} {rs : List (Nat × α)}, RowsIn emb P G vs rs → RowsIn emb P G' vs rs
  | _, _, .nil => .nil
  | _, _, .cons h1 h2 h3 => .cons (k _ h1) h2 (RowsIn.mono k h3)
theorem RowsIn.append {α : Type} {emb : α → PyData} {P : Sto} {G : List (Addr × Obj)} : ∀ {vs us : List Value} {rs qs : List (Nat × α)}, RowsIn emb P G vs rs → RowsIn emb P G us qs → RowsIn emb P G (vs ++ us) (rs ++ qs)
  | _, _, _, _, .nil, h => h
  | _, _, _, _, .cons h1 h2 h3, h => .cons h1 h2 (RowsIn.append h3 h)
section
local macro_rules | `(tactic| walk_at "exec For Tuple Call cons nil") => `(tactic| refine Hold.out ?_)
local macro_rules | `(tactic| walk_at "exec For Tuple Call") => `(tactic| refine Hold.out ?_)
local macro_rules | `(tactic| walk_at "exec For Name Call cons nil") => `(tactic| refine Hold.out ?_)
local macro_rules | `(tactic| walk_at "call type:enumerate") => `(tactic| refine Hold.out ?_)
local macro_rules | `(tactic| walk_at "pyIter ref") => `(tactic| refine Hold.out ?_)
local macro_rules | `(tactic| k_all) => `(tactic| assumption)
local macro_rules | `(tactic| walk_at "subscriptTail") => `(tactic| refine Hold.out ?_)
local macro_rules | `(tactic| walk_at "setItem ref int") => `(tactic| refine Hold.out ?_)
local macro_rules | `(tactic| walk_at "compareOp Eq ref ref") => `(tactic| refine Hold.out ?_)
local macro_rules | `(tactic| walk_at "call ref") => `(tactic| refine Hold.out ?_)
local macro_rules | `(tactic| walk_at "call type:object") => `(tactic| (k_here; (refine' call_object_N ?kF ?kN ?_; (case kF => k_asm); (case kN => k_asm)); intro b' h' F' N' l1; (try k_lt l1)))
theorem count_spec {α : Type} [DecidableEq α] (emb : α → PyData) (hcan : ∀ a, (emb a).canLay0 = true) (hdp : ∀ a, (emb a).depth ≤ 8) (heq : ∀ a b, PyData.eqv (emb a) (emb b) = decide (a = b)) (hlist : ∀ a, ∃ l, emb a = .list l)
    {prog : Program} {w : World} {mean : ExcName → Option Value} {mg mb : Str → Option Value} {A : Around} {R : Result → Shared → Prop} {s : Shared} {v u : Value} {ys : List α} {P : Sto}
    (hh : A.handled = none) (hdep : A.depth + 16 < recursionLimit) (hu : A.units + 300 < cLine) (KX : (hd.heap_39 w.params).In s.heap) (T : Top VW LS mean mg mb s.heap)
    (hP : ∀ a o, P a o → s.heap.get? a = some o) (rv : InL P v (.list (ys.map emb))) (ru : InL P u (.list [])) (hl : ys.length ≤ 1000)
    (ret : ∀ a rs rk G h' tk, s.heap.StaysIn h' → (∀ p ∈ (a, W.listOf rs rk) :: G, h'.get? p.1 = some p.2 ∧ s.heap.get? p.1 = none) → RowsIn emb P G rs.toList (rowsT ys) → R (.ok (.ret (.ref a))) { s with heap := h', toks := tk }) :
    codeAny (model prog w) A (.call (.ref 160) ⟨[v, u], []⟩) R s := by
  obtain ⟨hdl, dp, fr, gd, un'⟩ := A
  obtain rfl : hdl = none := hh
  have hu0 : un' + 300 < cLine := hu
  have e1 : codeIn (hd.heap_39 w.params) (.ref 159) (Str.ofString "_count_diff_all_purpose") = true := by rfl
  refine enterK (K := hd.heap_39 w.params) (binds := [(Str.ofString "actual", v), (Str.ofString "expected", u)]) KX T rfl e1 (by show dp < _; have : dp + 16 < recursionLimit := hdep; omega) ?hb ?hl fun h₁ F N => ?_
  case hb => exact BindsTo.of_eq rfl
  case hl => exact locs rfl
  obtain ⟨ax, vs, n, rfl, h1, h4⟩ := rv.ofList
  obtain ⟨ux, us, un, rfl, u1, u4⟩ := ru.ofList
  have hA := hP _ _ h1
  have hU := hP _ _ u1
  have hAl : s.heap.IsList ax vs.toList.toArray := ⟨_, hA, rfl, n, by simp⟩
  have hUl : s.heap.IsList ux us.toList.toArray := ⟨_, hU, rfl, un, by simp⟩
  have hvl : vs.size = ys.length := by have := h4.length; simpa using this
  have hul : us = #[] := by have := u4.length; simp at this; exact this
  subst hul
  k_steps
  refine list_copyK F N (hAl.at fun o e => F.keep _ o e) (fun sl sk h' F2 N2 lt2 => ?_) (by simp; rw [sizeLine_eq]; omega)
  clear F N lt2
  k_steps
  rename Fr _ _ _ _ => F1
  rename News _ _ _ _ => N1
  rename_i tl tc _ lt1 d1 _ lt2 _ _ _ _ d2 _ lt3 _ _ _ _ nu _ lt4 _ rl _ lt5 _
  obtain ⟨a51, a52, a53, a54, a55⟩ := lt5
  obtain ⟨a41, a42, a43, a44⟩ := lt4
  have N2 : News s.heap s.heap.objs.size _ [(sl, W.listOf vs.toList.toArray sk), (tl, W.listOf #[] tc), (nu, nullO), (rl, W.listOf #[] 0)] := fun p hp => N1 p (by
    simp only [List.mem_cons, List.not_mem_nil, or_false] at hp ⊢
    rcases hp with h | h | h | h <;> simp [h])
  clear N1 lt2 lt3 a52 a53 a42 a43
  unfold Hold
  refine For_enumM (l := sl) (n := ys.length) (h₀ := s.heap) (fun i m nw => ∃ ss sk rs rk G t1 t2, nw = (sl, W.listOf ss sk) :: (tl, W.listOf #[] tc) :: (nu, nullO) :: (rl, W.listOf rs rk) :: G ∧ (∀ p ∈ G, p.1 ≠ sl ∧ p.1 ≠ rl) ∧ rs.size ≤ i ∧
      Marked ys vs ss nu (fun _ y => decide (y ∈ ys.take i)) ∧ RowsIn emb P G rs.toList ((dedupT (ys.take i)).map fun x => (ys.count x, x)) ∧
      Has m [(Str.ofString "s", .ref sl), (Str.ofString "t", .ref tl), (Str.ofString "NULL", .ref nu), (Str.ofString "result", .ref rl), (Str.ofString "m", .int (ys.length : Int) t1), (Str.ofString "n", .int 0 t2)]) rfl rfl rfl rfl ?hS ?hiter ?turn ?done
  case hS =>
    rintro i m nw ⟨ss, sk, rs, rk, G, t1, t2, rfl, _, _, hM, _⟩
    exact ⟨ss, sk, hM.1.trans hvl, .head _⟩
  case hiter =>
    k_steps
    unfold Hold
    refine call_enum_led F1 N2 (.head _) fun e it h' hei he hit he0 hi0 heL hiL F3 N3 off => ?_
    refine ⟨e, it, _, _, rfl, hei, ⟨_, _, rfl⟩, he, hit, he0, hi0, heL, hiL, F3, N3, off, vs, sk, #[], 0, [], _, _, rfl, (fun _ h => nomatch h), Nat.le_refl _, ⟨rfl, fun p y hp => by simp⟩, .nil, rfl, rfl, rfl, rfl, rfl, rfl, trivial⟩
  case turn =>
    rintro i v t m₁ nw h tk e it oe oi items kk hi ⟨ss, sk, rs, rk, G, t1, t2, rfl, hG, hrs, hM, hR, hm⟩ hmem hv hei off F3 N3
    have q1 := (N3 _ (.tail _ (.tail _ hmem))).1
    have q2 := (N3 _ (.tail _ (.tail _ (.head _)))).1
    have q3 := Option.some.inj (q1.symm.trans q2)
    injection q3 with _ _ q3
    injection q3 with q3 _
    replace q3 := q3.symm
    subst q3
    clear hmem q1 q2
    have hx : ys[i]? = some ys[i] := List.getElem?_eq_getElem hi
    generalize hxx : ys[i] = x at hx
    have hM1 := hM.2 i x hx
    rw [hv] at hM1
    rw [hm.put] at F3
    dsimp only [putAll] at F3
    have hse : @Ne Nat e sl := Ne.symm (off _ (.head _)).1
    have hst : @Ne Nat it sl := Ne.symm (off _ (.head _)).2
    have hre : @Ne Nat e rl := Ne.symm (off _ (.tail _ (.tail _ (.tail _ (.head _))))).1
    have hrt : @Ne Nat it rl := Ne.symm (off _ (.tail _ (.tail _ (.tail _ (.head _))))).2
    have off2 : ∀ p ∈ (tl, W.listOf #[] tc) :: (nu, nullO) :: (rl, W.listOf rs rk) :: G, p.1 ≠ sl := fun p hp => by
      rcases List.mem_cons.mp hp with rfl | hp
      · exact Nat.ne_of_gt lt1
      · rcases List.mem_cons.mp hp with rfl | hp
        · exact Nat.ne_of_gt a44
        · rcases List.mem_cons.mp hp with rfl | hp
          · exact Nat.ne_of_gt a55
          · exact (hG p hp).1
    have hG1 : ∀ p ∈ G, p.1 ≠ sl := fun p hp => (hG p hp).1
    have hG2 : ∀ p ∈ G, p.1 ≠ rl := fun p hp => (hG p hp).2
    by_cases hin : x ∈ ys.take i
    · rw [if_pos (by simpa using hin)] at hM1
      obtain rfl : v = .ref nu := Option.some.inj hM1
      k_steps
      have tk1 : ∀ y, y ∈ ys.take (i + 1) ↔ y ∈ ys.take i := fun y => by
        rw [List.take_add_one, hx]
        simp only [Option.toList_some, List.mem_append, List.mem_singleton]
        exact ⟨fun z => z.elim id fun z => z ▸ hin, .inl⟩
      have dd : dedupT (ys.take (i + 1)) = dedupT (ys.take i) := by rw [dedupT_step hx, if_pos (dedupT_mem.mpr hin)]
      refine ⟨_, _, _, _, rfl, F3, N3, off, ss, sk, rs, rk, G, t1, t2, rfl, hG, Nat.le_succ_of_le hrs, ⟨hM.1, fun p y hp => ?_⟩, ?_, rfl, rfl, rfl, rfl, rfl, rfl, trivial⟩
      · rw [hM.2 p y hp]
        simp only [tk1]
      · rw [dd]; exact hR
    · rw [if_neg (by simpa using hin)] at hM1
      obtain ⟨dx, hdx, hDx⟩ := h4.get (i := i) (v := v) (by simpa using hM1.symm)
      obtain rfl : dx = emb x := by
        rw [List.getElem?_map, hx] at hdx
        exact (Option.some.inj hdx).symm
      obtain ⟨lx, hlx⟩ := hlist x
      obtain ⟨a, avs, an, rfl, ha1, ha4⟩ := InL.ofList (xs := lx) (hlx ▸ hDx)
      have haN : a ≠ nu := fun z => by
        have z1 := hP _ _ ha1
        rw [z, (N3 _ (.tail _ (.tail _ (.tail _ (.tail _ (.head _)))))).2.2] at z1
        cases z1
      k_steps
      refine kto_is (F3.keep _ _ (hP _ _ ha1)) (N3 _ (.tail _ (.tail _ (.tail _ (.tail _ (.head _)))))).1 haN (show ¬ (Value.type "list" = Value.type "tuple") by decide) ?_
      k_steps
      unfold Hold
      rename Fr _ _ _ _ => F4
      rename News _ _ _ _ => N4
      (with_unfolding_all refine' For_invVF F4 ?k1 ?k2 ?_; (case k1 => exact rfl); (case k2 => exact rfl); k_whole)
      k_steps
      unfold Hold
      rename Fr _ _ _ _ => F5
      rename News _ _ _ _ => N5
      rename IsRange _ _ _ _ _ _ _ _ => hR1
      have hc0 : (ys.take i).count x = 0 := List.count_eq_zero.mpr hin
      refine iter_rng (n := ((ys.length : Int) - (i : Int)).toNat) (fun jj m nw => ∃ ss' sk' t3 t4, nw = (e, oe) :: (it, oi) :: (sl, W.listOf ss' sk') :: (tl, W.listOf #[] tc) :: (nu, nullO) :: (rl, W.listOf rs rk) :: G ∧
        Marked ys vs ss' nu (fun p y => decide (y ∈ ys.take i) || (decide (p < i + jj) && decide (y = x))) ∧
        Has m [(Str.ofString "cnt_s", .int ((ys.take (i + jj)).count x : Int) t3), (Str.ofString "cnt_t", .int 0 t4), (Str.ofString "elem", .ref a), (Str.ofString "i", .int (i : Int) t), (Str.ofString "s", .ref sl), (Str.ofString "t", .ref tl), (Str.ofString "NULL", .ref nu), (Str.ofString "result", .ref rl), (Str.ofString "m", .int (ys.length : Int) t1), (Str.ofString "n", .int 0 t2)])
        rfl hR1 (small_one (by omega) (by omega) (by omega) (by omega)) (rangeSize_nat _ _) F5 N5 ?hJ0 ?hturn ?hdone
      case hJ0 =>
        have hz : ((ys.take (i + 0)).count x : Int) = 0 := by rw [Nat.add_zero, hc0]; rfl
        refine ⟨ss, sk, _, _, rfl, ?hm1, ⟨by rw [hz]; rfl, rfl, rfl, rfl, rfl, rfl, rfl, rfl, rfl, rfl, trivial⟩⟩
        refine ⟨hM.1, fun p y hp => ?_⟩
        rw [hM.2 p y hp]
        by_cases hpi : p < i
        · simp [mem_take_of hp hpi]
        · simp [hpi]
      case hturn =>
        rintro jj tt m₂ nw₂ h' tk' I oI hjj ⟨ss', sk', t3, t4, rfl, hM', hm'⟩ off' F6 N6
        rw [hm'.store] at F6
        dsimp only [putAll] at F6
        have hp : i + jj < ys.length := by omega
        have hy : ys[i + jj]? = some ys[i + jj] := List.getElem?_eq_getElem hp
        generalize hyy : ys[i + jj] = y at hy
        have hMy := hM'.2 (i + jj) y hy
        have hIs : @Ne Nat I sl := Ne.symm (off' _ (.tail _ (.tail _ (.head _))))
        have hIe : @Ne Nat I e := Ne.symm (off' _ (.head _))
        have hIt : @Ne Nat I it := Ne.symm (off' _ (.tail _ (.head _)))
        have hsz : ss'.size = ys.length := hM'.1.trans hvl
        have hu' : un' + 300 < cLine := hu
        have hidx : ((i : Int) + (jj : Int)).toNat = i + jj := by omega
        have kk : ∀ a o, P a o → h'.get? a = some o := fun a o e => F6.keep _ _ (hP a o e)
        have ct : (ys.take (i + (jj + 1))).count x = (ys.take (i + jj)).count x + if y = x then 1 else 0 := by
          rw [show i + (jj + 1) = (i + jj) + 1 from rfl, List.take_add_one, hy, List.count_append]
          by_cases hyx : y = x <;> simp [hyx]
        have same : y ≠ x → Marked ys vs ss' nu (fun p y => decide (y ∈ ys.take i) || (decide (p < i + (jj + 1)) && decide (y = x))) := fun hyx => ⟨hM'.1, fun p yp hp => by
          rw [hM'.2 p yp hp]
          have : (decide (p < i + jj) && decide (yp = x)) = (decide (p < i + (jj + 1)) && decide (yp = x)) := by
            by_cases hx : yp = x
            · have : p ≠ i + jj := fun z => by rw [z, hy] at hp; exact hyx ((Option.some.inj hp).trans hx)
              simp only [hx, decide_true, Bool.and_true, decide_eq_decide]
              omega
            · simp [hx]
          simp only [this]⟩
        k_steps
        unfold Hold
        have hsl : h'.IsList sl ss' := ⟨_, (N6 _ (.tail _ (.tail _ (.tail _ (.head _))))).1, rfl, _, rfl⟩
        by_cases hyi : y ∈ ys.take i
        · have hMy : ss'[i + jj]? = some (.ref nu) := by rw [hMy]; simp [hyi]
          refine subscriptTail_builtin hsl.typeIs slot_list_getitem.lookup (wpAny_getItem_list hsl (by omega) (by omega) (by rw [hidx]; exact hMy) ?_)
          k_steps
          unfold Hold
          refine null_eq (N6 _ (.tail _ (.tail _ (.tail _ (.tail _ (.tail _ (.head _))))))).1 (kk _ _ ha1) (by simp only [units_deeper]; omega) ?_
          k_steps
          have hyx : y ≠ x := fun z => hin (z ▸ hyi)
          refine ⟨_, _, _, _, rfl, F6, N6, off', ss', sk', t3, t4, rfl, same hyx, ⟨?_, rfl, rfl, rfl, rfl, rfl, rfl, rfl, rfl, rfl, trivial⟩⟩
          rw [ct, if_neg hyx]; rfl
        · have hMy : ss'[i + jj]? = vs[i + jj]? := by rw [hMy]; simp [hyi]
          obtain ⟨w, hw⟩ : ∃ w, vs[i + jj]? = some w := ⟨_, Array.getElem?_eq_getElem (by omega)⟩
          obtain ⟨dy, hdy, hDy⟩ := h4.get (i := i + jj) (v := w) (by simpa using hw)
          obtain rfl : dy = emb y := by
            rw [List.getElem?_map, hy] at hdy
            exact (Option.some.inj hdy).symm
          obtain ⟨ly, hly⟩ := hlist y
          obtain ⟨b, bvs, bn, rfl, hb1, hb4⟩ := InL.ofList (xs := ly) (hly ▸ hDy)
          refine subscriptTail_builtin hsl.typeIs slot_list_getitem.lookup (wpAny_getItem_list hsl (by omega) (by omega) (by rw [hidx, hMy]; exact hw) ?_)
          k_steps
          unfold Hold
          obtain ⟨as1, r1⟩ := hDy.reads kk
          obtain ⟨as2, r2⟩ := hDx.reads kk
          have sh : ∀ z, SeqAt.shaped (emb z) = true := fun z => Bool.and_eq_true_iff.mpr ⟨hcan z, decide_eq_true (by have := hdp z; omega)⟩
          refine eq_dataH r1 r2 (sh _) (sh _) (by simp only [units_deeper]; omega) ?_
          rw [heq]
          by_cases hyx : y = x
          · rw [decide_eq_true hyx]
            k_steps
            unfold Hold
            rename Fr _ _ _ _ => F7
            rename News _ _ _ _ => N7
            refine set_led F7 N7 (v := .ref nu) (n := sk') (.tail hIs (.tail hse (.tail hst (.head ?_)))) (by omega) (by omega) (by omega) fun h8 F8 N8 => ?_
            · intro p hp
              exact (off2 _ hp)
            k_steps
            refine ⟨_, _, _, _, rfl, F8, N8, fun p hp => ?_, _, sk', _, t4, rfl, ⟨by rw [Array.size_setIfInBounds]; exact hM'.1, fun p yp hp => ?_⟩, ⟨by rw [ct, if_pos hyx]; rfl, rfl, rfl, rfl, rfl, rfl, rfl, rfl, rfl, rfl, trivial⟩⟩
            · rcases List.mem_cons.mp hp with rfl | hp
              · exact off' _ (.head _)
              · rcases List.mem_cons.mp hp with rfl | hp
                · exact off' _ (.tail _ (.head _))
                · rcases List.mem_cons.mp hp with rfl | hp
                  · exact off' (sl, W.listOf ss' sk') (.tail _ (.tail _ (.head _)))
                  · exact off' _ (.tail _ (.tail _ (.tail _ hp)))
            · rw [hidx, Array.getElem?_setIfInBounds]
              by_cases hpp : i + jj = p
              · obtain rfl : yp = y := by rw [← hpp, hy] at hp; exact (Option.some.inj hp).symm
                rw [if_pos hpp, if_pos (by omega)]
                simp [hyx, ← hpp]
              · rw [if_neg hpp, hM'.2 p yp hp]
                have : decide (p < i + jj) = decide (p < i + (jj + 1)) := by
                  rw [decide_eq_decide]; omega
                simp only [this]
          · rw [decide_eq_false hyx]
            k_steps
            refine ⟨_, _, _, _, rfl, F6, N6, off', ss', sk', t3, t4, rfl, same hyx, ⟨?_, rfl, rfl, rfl, rfl, rfl, rfl, rfl, rfl, rfl, trivial⟩⟩
            rw [ct, if_neg hyx]; rfl
      case hdone =>
        rintro m₂ nw₂ h' tk' ⟨ss', sk', t3, t4, rfl, hM', hm'⟩ F6 N6
        have hall : i + ((ys.length : Int) - (i : Int)).toNat = ys.length := by omega
        rw [hall, List.take_length] at hm'
        rw [hall] at hM'
        rw [hm'.put] at F6
        dsimp only [putAll] at F6
        clear F5 N5
        have hcx : 0 < ys.count x := List.count_pos_iff.mpr (List.mem_of_getElem? hx)
        k_steps
        unfold Hold
        refine For_enumM (l := tl) (n := 0) (h₀ := s.heap) (fun _ m nw => nw = (e, oe) :: (it, oi) :: (sl, W.listOf ss' sk') :: (tl, W.listOf #[] tc) :: (nu, nullO) :: (rl, W.listOf rs rk) :: G ∧ Has m [(Str.ofString "cnt_s", .int (ys.count x : Int) t3), (Str.ofString "cnt_t", .int 0 t4), (Str.ofString "elem", .ref a), (Str.ofString "i", .int (i : Int) t), (Str.ofString "s", .ref sl), (Str.ofString "t", .ref tl), (Str.ofString "NULL", .ref nu), (Str.ofString "result", .ref rl), (Str.ofString "m", .int (ys.length : Int) t1), (Str.ofString "n", .int 0 t2)]) rfl rfl rfl rfl ?hS2 ?hiter2 ?turn2 ?done2
        case hS2 =>
          rintro _ _ _ ⟨rfl, _⟩
          exact ⟨#[], tc, rfl, .tail _ (.tail _ (.tail _ (.head _)))⟩
        case turn2 =>
          intro i _ _ _ _ _ _ _ _ _ _ _ _ h0
          exact absurd h0 (Nat.not_lt_zero i)
        case hiter2 =>
          k_steps
          unfold Hold
          refine call_enum_led F6 N6 (.tail _ (.tail _ (.tail _ (.head _)))) fun e2 it2 h2 hei2 he2 hit2 he02 hi02 heL2 hiL2 F7 N7 off7 => ?_
          exact ⟨e2, it2, _, _, rfl, hei2, ⟨_, _, rfl⟩, he2, hit2, he02, hi02, heL2, hiL2, F7, N7, off7, rfl, rfl, rfl, rfl, rfl, rfl, rfl, rfl, rfl, rfl, rfl, trivial⟩
        case done2 =>
          rintro m₃ nw₃ h3 tk3 ⟨rfl, hm3⟩ F7 N7
          rw [hm3.put] at F7
          dsimp only [putAll] at F7
          clear F6 N6
          k_steps
          rotate_left
          · exact absurd ‹((ys.count x : Nat) : Int) = 0› (by omega)
          unfold Hold
          refine wpAny_call (mk150 rfl ?_ ?_ (KX.keeps F7.keep) (T.keeps F7.keep) fun xx dx h8 tk8 st hx8 hx0 => ?_)
          · have : dp + 16 < recursionLimit := hdep
            simp only [depth_deeper]; omega
          · simp only [units_deeper]; omega
          have F8 := F7.keeps st
          have N8 := News.more F8 (N7.grown st) hx8 (fun _ _ z => nomatch z) (by
            cases z : s.heap.get? xx with
            | none => rfl
            | some o => rw [F7.keep _ _ z] at hx0; cases hx0)
          have xne : ∀ p ∈ (e, oe) :: (it, oi) :: (sl, W.listOf ss' sk') :: (tl, W.listOf #[] tc) :: (nu, nullO) :: (rl, W.listOf rs rk) :: G, xx ≠ p.1 := fun p hp z => by
            rw [z, (N7 _ hp).1] at hx0
            cases hx0
          have x1 : @Ne Nat xx rl := xne _ (.tail _ (.tail _ (.tail _ (.tail _ (.tail _ (.head _))))))
          have x2 : @Ne Nat sl rl := Nat.ne_of_lt a55
          have x3 : @Ne Nat tl rl := Nat.ne_of_lt a54
          have x4 : @Ne Nat nu rl := Nat.ne_of_lt a51
          have z1 : rs.size ≤ sizeLine := by rw [sizeLine_eq]; omega
          clear F7 N7
          k_steps
          rename Fr _ _ _ _ => F9
          rename News _ _ _ _ => N9
          have dd : dedupT (ys.take (i + 1)) = dedupT (ys.take i) ++ [x] := by rw [dedupT_step hx, if_neg (fun z => hin (dedupT_mem.mp z))]
          have hsub : ∀ p ∈ G, p ∈ (xx, mmO dx (.int (ys.count x : Int) t3) (.int 0 t4) (.ref a)) :: G := fun p hp => .tail _ hp
          refine ⟨_, _, _, (sl, W.listOf ss' sk') :: (tl, W.listOf #[] tc) :: (nu, nullO) :: (rl, W.listOf (rs.push (.ref xx)) (rk + 1)) :: (xx, mmO dx (.int (ys.count x : Int) t3) (.int 0 t4) (.ref a)) :: G, rfl, F9, fun p hp => N9 p ?_, fun p hp => ?_, ss', sk', rs.push (.ref xx), rk + 1, (xx, mmO dx (.int (ys.count x : Int) t3) (.int 0 t4) (.ref a)) :: G, t1, t2, rfl, fun p hp => ?_, ?_, ⟨hM'.1, fun p y hp => ?_⟩, ?_, rfl, rfl, rfl, rfl, rfl, rfl, trivial⟩
          · simp only [List.mem_cons] at hp ⊢
            rcases hp with h | h | h | h | h | h | h | h <;> simp [h]
          · simp only [List.mem_cons] at hp
            rcases hp with h | h | h | h | h | h
            · rw [h]; exact off (sl, W.listOf ss sk) (.head _)
            · rw [h]; exact off (tl, W.listOf #[] tc) (.tail _ (.head _))
            · rw [h]; exact off (nu, nullO) (.tail _ (.tail _ (.head _)))
            · rw [h]; exact off (rl, W.listOf rs rk) (.tail _ (.tail _ (.tail _ (.head _))))
            · rw [h]; exact ⟨xne _ (.head _), xne _ (.tail _ (.head _))⟩
            · exact off p (.tail _ (.tail _ (.tail _ (.tail _ h))))
          · rcases List.mem_cons.mp hp with rfl | hp
            · exact ⟨xne _ (.tail _ (.tail _ (.head _))), x1⟩
            · exact hG p hp
          · rw [Array.size_push]; omega
          · rw [hM'.2 p y hp]
            have hpl : p < ys.length := (List.getElem?_eq_some_iff.mp hp).1
            have : (decide (y ∈ ys.take i) || (decide (p < ys.length) && decide (y = x))) = decide (y ∈ ys.take (i + 1)) := by
              rw [List.take_add_one, hx]
              simp [hpl]
            simp only [this]
          · rw [dd, List.map_append, Array.toList_push]
            exact (hR.mono hsub).append (.cons (.head _) hDx .nil)
  case done =>
    rintro m₁ nw h tk ⟨ss, sk, rs, rk, G, t1, t2, rfl, hG, hrs, hM, hR, hm⟩ F3 N3
    rw [hm.put] at F3
    dsimp only [putAll] at F3
    clear F1 N2
    k_steps
    unfold Hold
    refine For_enumM (l := tl) (n := 0) (h₀ := s.heap) (fun _ m nw => nw = (sl, W.listOf ss sk) :: (tl, W.listOf #[] tc) :: (nu, nullO) :: (rl, W.listOf rs rk) :: G ∧ Has m [(Str.ofString "s", .ref sl), (Str.ofString "t", .ref tl), (Str.ofString "NULL", .ref nu), (Str.ofString "result", .ref rl)]) rfl rfl rfl rfl ?hS3 ?hiter3 ?turn3 ?done3
    case hS3 =>
      rintro _ _ _ ⟨rfl, _⟩
      exact ⟨#[], tc, rfl, .tail _ (.head _)⟩
    case turn3 =>
      intro i _ _ _ _ _ _ _ _ _ _ _ _ h0
      exact absurd h0 (Nat.not_lt_zero i)
    case hiter3 =>
      k_steps
      unfold Hold
      refine call_enum_led F3 N3 (.tail _ (.head _)) fun e2 it2 h2 hei2 he2 hit2 he02 hi02 heL2 hiL2 F7 N7 off7 => ?_
      exact ⟨e2, it2, _, _, rfl, hei2, ⟨_, _, rfl⟩, he2, hit2, he02, hi02, heL2, hiL2, F7, N7, off7, rfl, rfl, rfl, rfl, rfl, trivial⟩
    case done3 =>
      rintro m₃ nw₃ h3 tk3 ⟨rfl, hm3⟩ F7 N7
      rw [hm3.put] at F7
      dsimp only [putAll] at F7
      clear F3 N3
      k_steps
      rw [List.take_length] at hR
      refine ret rl rs rk G _ _ F7.keep (fun p hp => ?_) hR
      have := N7 p (by
        rcases List.mem_cons.mp hp with rfl | hp
        · exact .tail _ (.tail _ (.tail _ (.head _)))
        · exact .tail _ (.tail _ (.tail _ (.tail _ hp))))
      exact ⟨this.1, this.2.2⟩
end
end Mine
namespace Mine
theorem entry_unchain : entryFor table "proto.unchain" = some Builtin.«proto.unchain» := entryFor_of_fast (by kernel_rfl)
/-- inside an except handler whose exception has no context -/
def HIn (A : Around) (h : Heap) (e : Addr) : Prop := A.handled = some (.ref e) ∧ ∃ oe fs, h.get? e = some oe ∧ oe.data = .fields fs ∧ fs[2]? = some .none
section
variable {prog : Program} {w : World} {A : Around} {E : Value → Shared → Prop} {s : Shared}
theorem raiseNew_in {α : Type} {e x : Addr} {oe ox : Obj} {fs xs : Array Value} {Q : α → Shared → Prop} (hh : A.handled = some (.ref e)) (hne : e ≠ x) (he : s.heap.get? e = some oe) (hed : oe.data = .fields fs) (he2 : fs[2]? = some .none)
    (hx : s.heap.get? x = some ox) (hxd : ox.data = .fields xs) (hx2 : 2 < xs.size)
    (h : E (.ref x) { s with heap := s.heap.update x (Obj.mapFields (·.setIfInBounds 2 (.ref e))) }) : wpAny (model prog w) A (raiseNew (.ref x) : Sem α) Q E s := by
  simp only [raiseNew]
  refine wpAny_bind (wpAny_handled ?_)
  rw [hh]
  dsimp only
  have hb : (Value.ref e != Value.ref x) = true := by
    show (!(Value.ref e == Value.ref x)) = true
    simp [hne]
  rw [hb]
  simp only [if_true]
  refine wpAny_bind ?_
  refine wpAny_holding (wpAny_runValue (codeAny_builtin entry_unchain ?_))
  unfold Builtin.«proto.unchain»
  refine wpAny_bind (wpAny_field he hed he2 ?_)
  refine wpAny_bind (wpAny_pure ?_)
  refine wpAny_pure ?_
  show wpAny _ A (setField (.ref x) 2 (.ref e) >>= fun _ => throw (Value.ref x)) _ _ s
  exact wpAny_bind (wpAny_setField hx hxd hx2 (wpAny_throw h))
theorem next_end_in {it l e : Addr} {i : Nat} {items} {Q : Option Value → Shared → Prop} (hh : HIn A s.heap e)
    (hit : s.heap.IsListIter it l i) (hl : s.heap.IsList l items) (hx : items[i]? = none) (hne : it ≠ e)
    (hQ : ∀ h', Heap.ExtBut it s.heap h' → Q none { s with heap := h' }) : wpAny (model prog w) A (pyNext (.ref it)) Q E s := by
  obtain ⟨o, ho, hc, hd⟩ := id hit
  obtain ⟨ol, hol, _, nl, hdl⟩ := hl
  obtain ⟨hh, oe, fs, he, hed, he2⟩ := hh
  have hes : e < s.heap.objs.size := Heap.lt_size he
  unfold pyNext
  refine wpAny_bind (wpAny_attempt (wpAny_callSpecial?_slot (name := Str.ofString "__next__") hit.typeIs slot_listiter_next
    (wpAny_call_entry slot_listiter_next hit.typeIs entry_listiter_next ?_ (args_listiter_next _))))
  show wpAny _ _ (field (.ref it) 0 >>= _) _ _ s
  refine wpAny_bind (wpAny_field ho hd (x := .ref l) rfl ?_)
  show wpAny _ _ (if (Value.ref l == Value.none) = true then _ else _) _ _ s
  rw [if_neg (show ¬ ((Value.ref l == Value.none) = true) from Bool.false_ne_true)]
  show wpAny _ _ (field (.ref it) 1 >>= _) _ _ s
  refine wpAny_bind (wpAny_field ho hd (x := .int i 0) rfl ?_)
  show wpAny _ _ (seqItems? (.ref l) >>= _) _ _ s
  refine wpAny_bind (wpAny_seqItems hol hdl ?_)
  simp only [Int.toNat_natCast, hx]
  refine wpAny_bind (wpAny_rule (wpAny_bind (wpAny_setField ho hd (by simp) ?_)))
  have hz : (s.heap.update it (Obj.mapFields fun x => x.setIfInBounds 0 Value.none)).objs.size = s.heap.objs.size := (Heap.SameBut.update ..).1
  show wpAny _ _ (newExc (.type "StopIteration") [] >>= _) _ _ _
  refine wpAny_bind ?_
  simp only [newExc, newTuple]
  refine wpAny_bind (wpAny_newObj_type ?_ (by size_fits))
  refine wpAny_bind (m := firstArgMember _ _) (wpAny_of_eq (a := Value.none) (by first | rfl | (simp only [firstArgMember]; rfl)) ?_)
  refine wpAny_newObj_type ?_ (by size_fits)
  have k1 : ∀ b ob, b ≠ it → s.heap.get? b = some ob → (s.heap.update it (Obj.mapFields fun x => x.setIfInBounds 0 Value.none)).get? b = some ob := fun b ob hb x => ((Heap.SameBut.update ..).2 b hb).trans x
  refine raiseNew_in (A := A.in1) hh ?_ (Heap.get?_push_of_some _ (Heap.get?_push_of_some _ (k1 _ _ (Ne.symm hne) he))) hed he2 (Heap.get?_push_size _ rfl) rfl (by simp [ownMembersOf]) ?_
  · intro z
    have q := Heap.get?_push_of_some { cls := .type "tuple", data := .seq ([] : List Value).toArray } (k1 _ _ (Ne.symm hne) he)
    rw [z, Heap.get?_none_of_le (Nat.le_refl _)] at q
    cases q
  refine wpAny_bind (wpAny_isInstance (T := "StopIteration") (b := true) ⟨_, Heap.get?_update_self _ (Heap.get?_push_size _ rfl) rfl, rfl⟩ isSubtype_stop ?_)
  refine wpAny_pure (hQ _ fun b ob hb x => ?_)
  have hbn : b ≠ ((s.heap.update it (Obj.mapFields fun x => x.setIfInBounds 0 Value.none)).push { cls := .type "tuple", data := .seq ([] : List Value).toArray }).objs.size := fun z => by
    have q := Heap.get?_push_of_some { cls := .type "tuple", data := .seq ([] : List Value).toArray } (k1 _ _ hb x)
    rw [z, Heap.get?_none_of_le (Nat.le_refl _)] at q
    cases q
  exact ((Heap.SameBut.update ..).2 b hbn).trans (Heap.get?_push_of_some _ (Heap.get?_push_of_some _ (k1 b ob hb x)))
theorem Walks.listIn {e : Addr} {oe : Obj} {fs : Array Value} (hh : A.handled = some (.ref e)) (hed : oe.data = .fields fs) (he2 : fs[2]? = some .none) (I ax : Addr) (hne : ax ≠ I) (hIe : I ≠ e) (items : Array Value) :
    Walks prog w A I [I, ax, e] [I] items.size (fun i v => items[i]? = some v) (fun i h => h.IsListIter I ax i ∧ h.IsList ax items ∧ h.get? e = some oe) where
  sub := fun b hb => by simp at hb; simp [hb]
  frame := fun _ _ _ st hk => ⟨st.1.at fun o e => hk I (by simp) o e, st.2.1.at fun o e => hk ax (by simp) o e, hk e (by simp) _ st.2.2⟩
  item := fun i s Q E hi st hQ => by
    refine wpAny_pyNext_list_item st.1 st.2.1 (x := items[i]) (by simp [hi]) fun h' hit' hs' => ?_
    exact hQ _ h' s.toks (by simp [hi]) ⟨hit', st.2.1.extBut hs'.extBut hne, hs'.extBut _ _ (Ne.symm hIe) st.2.2⟩ fun b o hb e => hs'.extBut b o (fun h => hb (by simp [h])) e
  done := fun s Q E st hQ => next_end_in ⟨hh, oe, fs, st.2.2, hed, he2⟩ st.1 st.2.1 (by simp) hIe fun h' he' => hQ h' s.toks fun b o hb e => he' b o (fun h => hb (by simp [h])) e
  self := fun _ _ _ _ st hQ => wpAny_pyIter_listiter st.1 hQ
end
section
variable {prog : Program} {w : World} {A : Around} {E : Value → Shared → Prop} {s : Shared} {env : Env} {h₀ : Heap} {x : Str} {body : List Stmt} {Q : Flow → Shared → Prop}
theorem iter_srcIn {e : Addr} {l : Addr} {ol : Obj} {vs : Array Value} {n : Nat} {m₀ : Str → Option Value} {news : List (Addr × Obj)} (J : Nat → (Str → Option Value) → List (Addr × Obj) → Prop)
    (hc : ol.cls = .type "list") (hd : ol.data = .seq vs n) (hS : ∀ i m nw, J i m nw → h₀.get? l = some ol ∨ (l, ol) ∈ nw)
    (hh : HIn A h₀ e) (F : Fr h₀ env.locals s.heap m₀) (N : News h₀ env.locals s.heap news) (hj : J 0 m₀ news)
    (turn : ∀ i v m₁ news₁ h tk I oI, vs[i]? = some v → J i m₁ news₁ → (∀ p ∈ news₁, p.1 ≠ I) → Fr h₀ env.locals h (fun y => if y = x then some v else m₁ y) → News h₀ env.locals h ((I, oI) :: news₁) →
      wpAny (model prog w) A (execs body env) (TurnEnd h₀ env.locals I oI (J (i + 1)) Q { s with heap := h, toks := tk }) E { s with heap := h, toks := tk })
    (done : ∀ m₁ news₁ h tk, J vs.size m₁ news₁ → Fr h₀ env.locals h m₁ → News h₀ env.locals h news₁ → Q .next { s with heap := h, toks := tk }) :
    wpAny (model prog w) A (pyIter (.ref l)) (fun it s₂ => LoopAtV prog w A h₀ env x body Q E it s₂) E s := by
  have hol : s.heap.get? l = some ol := by
    rcases hS _ _ _ hj with e | hm
    · exact F.keep _ _ e
    · exact (N _ hm).1
  have hls : s.heap.IsList l vs := ⟨ol, hol, hc, n, hd⟩
  have hlt : l < s.heap.objs.size := Heap.lt_size hol
  have hne : l ≠ s.heap.objs.size := Nat.ne_of_lt hlt
  have hlL : l ≠ env.locals := by
    rcases hS _ _ _ hj with e | hm
    · exact Nat.ne_of_lt (Nat.lt_of_lt_of_le (Heap.lt_size e) F.above)
    · exact (N _ hm).2.1
  have he0 := hh
  obtain ⟨hha, oe, fs, he, hed, he2⟩ := hh
  have heL : e ≠ env.locals := Nat.ne_of_lt (Nat.lt_of_lt_of_le (Heap.lt_size he) F.above)
  have heS : s.heap.get? e = some oe := F.keep _ _ he
  have heI : s.heap.objs.size ≠ e := Nat.ne_of_gt (Heap.lt_size heS)
  refine wpAny_pyIter_list hls ?_
  have W := Walks.listIn (prog := prog) (w := w) hha hed he2 s.heap.objs.size l hne heI vs
  refine ⟨_, _, _, vs.size, _, _, m₀, news, J, rfl, W, ?_, ?_, ?_, ⟨⟨_, Heap.get?_push_size _ rfl, rfl, rfl⟩, hls.at fun o e => Heap.get?_push_of_some _ e, Heap.get?_push_of_some _ heS⟩, F.push _, (fun p hp => ⟨Heap.get?_push_of_some _ (N p hp).1, (N p hp).2⟩), hj, ?_, ?_⟩
  · intro hm
    rcases List.mem_cons.mp hm with e | hm
    · exact absurd F.ns.lt (e ▸ Nat.lt_irrefl _)
    · rcases List.mem_cons.mp hm with e | hm
      · exact hlL e.symm
      · exact heL (List.mem_singleton.mp hm).symm
  · intro b hb
    rw [List.mem_singleton.mp hb]
    exact next_is_new F
  · intro p hp hI
    exact absurd (Heap.lt_size (N p hp).1) ((List.mem_singleton.mp hI) ▸ Nat.lt_irrefl _)
  · rintro i v m₁ news₁ s₁ own ⟨hh', tk', rfl⟩ hin hP hJ hoff hsub hlive hall hst F₁ N₁
    obtain ⟨⟨oI, eI, rI⟩, _⟩ := hst
    have hI0 : h₀.get? s.heap.objs.size = none := next_is_new F
    have mI : (s.heap.objs.size, oI) ∈ own := hall _ (by simp) hI0 _ eI
    have hown1 : ∀ p ∈ own, p = (s.heap.objs.size, oI) ∨ (p.1 = l ∧ h₀.get? l = none) := by
      intro p hp
      rcases List.mem_cons.mp (hsub p hp) with e | e
      · left
        have h2 := hlive p hp
        have h2' : hh'.get? p.1 = some p.2 := h2
        rw [e] at h2'
        have := h2'.symm.trans eI
        exact Prod.ext e (Option.some.inj this)
      · right
        have h3 := (N₁ p (List.mem_append_left _ hp)).2.2
        rcases List.mem_cons.mp e with e' | e'
        · exact ⟨e', e' ▸ h3⟩
        · rw [List.mem_singleton.mp e', he] at h3
          cases h3
    refine wpAny_mono (turn i v m₁ news₁ hh' tk' _ oI hP hJ (fun p hp q => hoff p hp (by rw [q]; simp)) F₁ (fun p hp => ?_)) (fun f s₂ p => TurnEnd.toV (fun h' m' nx hJ' N' p hp => ?_) p) fun _ _ e => e
    · rcases List.mem_cons.mp hp with rfl | hp
      · exact N₁ _ (List.mem_append_left _ mI)
      · exact N₁ _ (List.mem_append_right _ hp)
    · rcases hown1 p hp with rfl | ⟨e, e0⟩
      · exact N' _ (.head _)
      · have key : ∀ nw : List (Addr × Obj), (h₀.get? l = some ol ∨ (l, ol) ∈ nw) → (l, ol) ∈ nw := fun nw q => by
          rcases q with q | q
          · rw [e0] at q; cases q
          · exact q
        have h1 := N' _ (.tail _ (key _ (hS _ _ _ hJ')))
        have h2 := (N₁ _ (List.mem_append_right _ (key _ (hS _ _ _ hJ)))).1
        have h3 := (N₁ p (List.mem_append_left _ hp)).1
        rw [e] at h3
        have : p.2 = ol := Option.some.inj (h3.symm.trans h2)
        rw [e, this]; exact h1
  · rintro h' tk m' news' F' N' _ hJ
    exact done m' news' h' tk hJ F' N'

end
end Mine
namespace Mine
section
local macro_rules | `(tactic| walk_at "exec For Name Name cons nil") => `(tactic| (k_here; (rename Fr _ _ _ _ => lF'); (with_unfolding_all refine' For_invVF lF' ?k1 ?k2 ?_; (case k1 => exact rfl); (case k2 => exact rfl); k_whole)))
local macro_rules | `(tactic| walk_at "pyIter ref") => `(tactic| fail "mine")

theorem dedup_specIn {e : Addr} {prog : Program} {w : World} {mean : ExcName → Option Value} {mg mb : Str → Option Value} {A : Around} {R : Result → Shared → Prop} {s : Shared} {v : Value} {xs : List PyData} {P : Sto}
    (hh : HIn A s.heap e) (hdep : A.depth + 8 < recursionLimit) (hu : A.units + 200 < cLine) (KX : (hd.heap_39 w.params).In s.heap) (T : Top VW LS mean mg mb s.heap)
    (hP : ∀ a o, P a o → s.heap.get? a = some o) (rv : InL P v (.list xs)) (hc : PyData.canLayAll0 xs = true) (hdp : PyData.depthAll xs ≤ 8) (hl : xs.length ≤ 1000)
    (ret : ∀ a ws n h' tk, s.heap.StaysIn h' → h'.get? a = some (listOf ws n) → s.heap.get? a = none → InLs P ws.toList (dedupP xs) → R (.ok (.ret (.ref a))) { s with heap := h', toks := tk }) :
    codeAny (model prog w) A (.call (.ref 36) ⟨[v], []⟩) R s := by
  refine enterK (binds := [(Str.ofString "unhashable_params", v)]) KX T rfl rfl (by omega) (BindsTo.of_eq rfl) (locs rfl) fun h₁ F N => ?_
  obtain ⟨ax, vs, n, rfl, h1, h4⟩ := rv.ofList
  k_fill
  k_steps
  rename Fr _ _ _ _ => F1
  rename News _ _ _ _ => N1
  rename_i l' _ _ _
  refine iter_srcIn (ol := W.listOf vs n) (vs := vs) (n := n) (fun i m nw => ∃ ws k, nw = [(l', listOf ws k)] ∧ ws.size ≤ i ∧ InLs P ws.toList (dedupP (xs.take i)) ∧ ∀ z, z ≠ Str.ofString "t" → m z = (fun y => if y = Str.ofString "new_unhashable" then some (Value.ref l') else List.lookup y [(Str.ofString "unhashable_params", Value.ref ax)].reverse) z) rfl rfl (fun _ _ _ _ => .inl (hP _ _ h1)) hh F1 N1 ⟨_, _, rfl, Nat.le_refl _, .nil, fun _ _ => rfl⟩ ?_ ?_
  · rintro i v m₁ news₁ h tk I oI hv ⟨ws, k, rfl, hwi, hW, hm⟩ off F2 N2
    rw [map_none hm] at F2
    clear F1 N1 hm
    k_steps
    obtain ⟨d, hd, hD⟩ := h4.get (by simpa using hv)
    have hdx : d ∈ xs := List.mem_of_getElem? hd
    have hdc := canLayAll0_iff.mp hc d hdx
    have hdd := depthAll_iff.mp hdp d hdx
    refine notIn_led N2 (.tail _ (.head _)) hW hD (fun a o e => F2.keep _ _ (hP a o e)) (fun x hx => canLayAll0_iff.mp hc x (List.mem_of_mem_take (dedupP_mem hx))) hdc (by simp only [units_deeper]; omega) ?_
    have st := dedupP_step hd
    cases hb : (dedupP (List.take i xs)).any fun y => PyData.eqv y d with
    | true =>
      have st' : dedupP (List.take (i + 1) xs) = dedupP (List.take i xs) := by rw [st]; unfold putNew; rw [hb]; rfl
      k_steps
      exact ⟨_, _, _, _, rfl, F2, N2, off, ws, k, rfl, Nat.le_succ_of_le hwi, st' ▸ hW, fun z hz => if_neg hz⟩
    | false =>
      have st' : dedupP (List.take (i + 1) xs) = dedupP (List.take i xs) ++ [d] := by rw [st]; unfold putNew; rw [hb]; rfl
      have hIl : @Ne Nat I l' := Ne.symm (off _ (.head _))
      have hix : i < xs.length := (List.getElem?_eq_some_iff.mp hd).1
      have hsz : ws.size ≤ sizeLine := by rw [sizeLine_eq]; omega
      k_steps
      rename Fr _ _ _ _ => F3
      rename News _ _ _ _ => N3
      refine ⟨_, _, _, _, rfl, F3, N3, fun p hp => ?_, _, _, rfl, ?_, ?_, fun z hz => if_neg hz⟩
      · rw [List.mem_singleton.mp hp]; exact Ne.symm hIl
      · rw [Array.size_push]; omega
      · rw [st', Array.toList_push]; exact hW.append (.cons hD .nil)
  · rintro m₁ news₁ h tk ⟨ws, k, rfl, hwi, hW, hm⟩ F2 N2
    have hm' : m₁ = fun z => if z = Str.ofString "t" then m₁ z else (fun y => if y = Str.ofString "new_unhashable" then some (Value.ref l') else List.lookup y [(Str.ofString "unhashable_params", Value.ref ax)].reverse) z := (done_none hm).symm
    rw [hm'] at F2
    clear F1 N1
    rw [List.take_of_length_le (by have := h4.length; simp at this; omega)] at hW
    k_steps
    exact ret _ _ _ _ _ F2.keep (N2 _ (.head _)).1 (N2 _ (.head _)).2.2 hW
end
end Mine
namespace Mine
/-! dict.fromkeys over a list whose first item is a list: it raises TypeError -/
def fkBound : Obj := { cls := .type "builtin_function_or_method", data := .fields #[.builtin "dict.fromkeys", .type "dict"] }
theorem type_fk : typeOf (.builtin "dict.fromkeys") = pure (.type "classmethod_descriptor") := by show builtinType _ = _; rw [builtinType_eq_fast]; kernel_rfl
theorem entry_fk : entryFor table "dict.fromkeys" = some Builtin.«dict.fromkeys» := entryFor_of_tree (by kernel_rfl)
theorem entry_fkl : entryFor table "dict.fromkeys.loop" = some Builtin.«dict.fromkeys.loop» := entryFor_of_tree (by kernel_rfl)
theorem quiet_fk {as : Args} : (Code.builtin "dict.fromkeys" as).quiet = true := Code.quiet_builtin _ (by decide +kernel)
theorem quiet_fkl {as : Args} : (Code.builtin "dict.fromkeys.loop" as).quiet = true := Code.quiet_builtin _ (by decide +kernel)
theorem type_dict : isType (.type "dict") = pure true := by first | rfl | kernel_rfl | (unfold isType; rw [isSubtype_type]; kernel_rfl)
theorem owner_fk : (kfb_private% "ownerAndName") "dict.fromkeys" = ("dict", "fromkeys") := by first | decide +kernel | kernel_rfl
theorem check_fk (a : Addr) : checkBoundCall "dict.fromkeys" ⟨[.type "dict", .ref a], []⟩ = pure () := by first | kernel_rfl | rfl
theorem hash_list : typeLookup (.type "list") "__hash__" = pure (some .none) := by rw [typeLookup_type, builtinLookup_eq_fast]; kernel_rfl
theorem newCall_dict_0 : checkBuiltinCall "dict.__new__" ⟨[.type "dict"], []⟩ = pure () := by kernel_rfl
theorem typeCall_dict_0 : checkTypeCall "dict" ⟨[], []⟩ = pure () := by kernel_rfl
section
variable {prog : Program} {w : World} {A : Around} {E : Value → Shared → Prop} {s : Shared} {K : Frag} {h₀ : Heap} {L : Addr} {m : PySem.Str → Option Value} {news : List (Addr × Obj)}
theorem fk_run_get {M : Model} {P : Fin → Shared → Prop} (h : P (.done (.ret (.ref s.heap.objs.size))) { s with heap := s.heap.push fkBound }) :
    wpAny M A (Builtin.«classmethod_descriptor.__get__» ⟨[.builtin "dict.fromkeys", .none, .type "dict"], []⟩) P E s := by
  unfold Builtin.«classmethod_descriptor.__get__»
  refine wpAny_bind (wpAny_of_eq (a := (.builtin "dict.fromkeys", none, some (.type "dict"))) (by first | rfl | kernel_rfl) ?_)
  simp only [owner_fk]
  refine wpAny_bind (wpAny_of_eq (a := .type "dict") rfl ?_)
  refine wpAny_bind (wpAny_of_eq (a := true) type_dict ?_)
  refine KFB.if_not rfl ?_
  refine wpAny_bind (wpAny_of_eq (a := true) F.kt_sub_dict ?_)
  refine KFB.if_not rfl ?_
  exact wpAny_bind (wpAny_newObj_type (wpAny_pure h))
theorem fk_getm {pl : Sem Bool} {Q : Value × List Value → Shared → Prop} (F : Fr h₀ L s.heap m) (N : News h₀ L s.heap news) (X₀ : K.In h₀)
    (e : findCls K (.type "dict") (.type "type") (PySem.Str.ofString "fromkeys") = some (.get (.builtin "classmethod_descriptor.__get__") (.builtin "dict.fromkeys") .none (.type "dict")))
    (h : ∀ x h', Fr h₀ L h' m → News h₀ L h' ((x, fkBound) :: news) → (∀ p ∈ news, p.1 < x) → Q (.ref x, []) { s with heap := h', toks := s.toks + 1 }) :
    wpAny (model prog w) A (getMethod (.type "dict") (PySem.Str.ofString "fromkeys") pl) Q E s := by
  have X := X₀.keeps F.keep
  have hstub : opaqueClassAbove (.type "dict") = pure none := by unfold opaqueClassAbove; dsimp only; rw [show Manifest.isStub "dict" = false by decide +kernel]; rfl
  have ht : typeOf (.type "dict") = pure (.type "type") := by first | rfl | kernel_rfl
  have L0 : Looks (model prog w) s.heap (typeOf (.type "dict")) (.type "type") := Looks.of_pure ht
  have hg : findIn K (.type "type") "__getattribute__" = some (some (.builtin "type.__getattribute__")) := type_tga
  unfold getMethod specialOf
  refine wpAny_bind (wpAny_bind (L0.here ((looks_findIn X hg).here ?_)))
  dsimp only
  rw [if_pos canon_tga]
  refine wpAny_bind (wpAny_mono (Q := fun v => Q (v, [])) (E := E) ?_ (fun _ _ z => wpAny_pure z) fun _ _ z => z)
  have LO : Looks (model prog w) s.heap (opaqueClassAbove (.type "dict")) none := Looks.of_pure hstub
  refine cls_open X LO L0 hg (looks_hook X (r := none) (by rfl)) (by show subIn K _ _ = _; rfl) e ?_
  show wpAny _ _ (holding [.builtin "dict.fromkeys"] (call (.builtin "classmethod_descriptor.__get__") [.builtin "dict.fromkeys", .none, .type "dict"]) >>= fun v => ret v) _ _ _
  refine wpAny_bind (wpAny_holding (wpAny_call_entry KFB.slot_get type_fk KFB.entry_get (fk_run_get ⟨_, rfl, wpAny_pure (wpAny_pure (h _ _ (F.push _) (News.push F N _) fun p hp => Heap.lt_size (N p hp).1))⟩) (KFB.args_get _ _ _)))
theorem call_dict0 {Q : Value → Shared → Prop} (h : Q (.ref s.heap.objs.size) { s with heap := s.heap.push { cls := .type "dict", data := .dict #[] } }) : wpAny (model prog w) A (call (.type "dict") []) Q E s := by
  refine callType_codes (Q₁ := fun obj s₁ => obj = .ref s.heap.objs.size ∧ s₁ = { s with heap := s.heap.push { cls := .type "dict", data := .dict #[] } }) F.kt_called_dict typeCall_dict_0 F.entry_dict_init ?_ ?_
  · refine codeAny_call_builtin F.kt_plain_dict_new F.kt_entry_dict_new (wpAny_of_eq newCall_dict_0 ?_)
    have hsub := F.kt_sub_dict
    have hmro := F.kt_mro_dict
    obtain ⟨hp, g, d, tk, os⟩ := s
    unfold Builtin.«dict.__new__»
    wp_walk
    exact ⟨rfl, rfl⟩
  rintro obj s₁ ⟨rfl, rfl⟩
  have hT : Shared.TypeIs { s with heap := s.heap.push { cls := .type "dict", data := .dict #[] } } (.ref s.heap.objs.size) "dict" := ⟨_, Heap.get?_push_size _ rfl, rfl⟩
  refine ⟨hT, F.args_dict_init_1 _, ?_⟩
  unfold Builtin.«dict.__init__»
  refine wpAny_bind ?_
  unfold Builtin.Dict.selfAndRest
  refine wpAny_bind (wpAny_notOrdered_dict hT ?_)
  show wpAny _ _ (pure (s.heap.objs.size, ([] : List Value))) _ _ _
  refine wpAny_pure ?_
  show wpAny _ _ (Builtin.Dict.addKeywords s.heap.objs.size [] >>= _) _ _ _
  exact wpAny_bind (wpAny_pure (wpAny_pure ⟨rfl, h⟩))
theorem hash_raises {k : Addr} {Q : Int → Shared → Prop} (hk : s.TypeIs (.ref k) "list") (hh : A.handled = none) (hu : A.units < cLine)
    (h : ∀ h' tk e, Heap.NewExc s.heap h' e "TypeError" → E (.ref e) { s with heap := h', toks := tk }) : wpAny (model prog w) A (pyHash (.ref k)) Q E s := by
  show wpAny _ _ (pyHashByItsType (.ref k)) _ _ _
  unfold pyHashByItsType
  refine wpAny_bind (wpAny_cRoomFor_or (.inr hu) ?_)
  refine wpAny_bind (wpAny_specialOf hk hash_list ?_)
  rw [if_pos (by decide)]
  refine wpAny_bind ?_
  refine wpAny_bind (wpAny_rule ?_)
  refine wpAny_pure ?_
  refine wpAny_bind (wpAny_typeNameOf' hk (by decide) ?_)
  have hm : ((toString "unhashable type: '" ++ toString (shownName "list") ++ toString "'" : String) : Str).length ≤ sizeLine := by
    rw [sizeLine_eq]
    decide +kernel
  exact wpAny_bind (wpAny_raiseTypeError hh h hm)
theorem fk_call {x ax k : Addr} {vs : Array Value} {Q : Value → Shared → Prop} (ho : s.heap.get? x = some fkBound) (hl : s.heap.IsList ax vs) (hv : vs[0]? = some (.ref k)) (hk : s.TypeIs (.ref k) "list") (hh : A.handled = none) (hu : A.units + 8 < cLine)
    (h : ∀ h' tk e, Heap.NewExc s.heap h' e "TypeError" → E (.ref e) { s with heap := h', toks := tk }) : wpAny (model prog w) A (call (.ref x) [.ref ax]) Q E s := by
  refine wpAny_call (codeAny_of_tree ?_)
  show wpAny _ A.in1 (callAny (.ref x) ⟨[.ref ax], []⟩) _ _ s
  simp only [callAny]
  refine wpAny_bind (wpAny_load ho ?_)
  simp only [fkBound, show (Value.type "builtin_function_or_method" == Value.type "method" || Value.type "builtin_function_or_method" == Value.type "builtin_function_or_method" || Value.type "builtin_function_or_method" == Value.type "method-wrapper") = true by decide, if_true]
  refine KFB.if_so (by decide) ?_
  refine wpAny_bind (wpAny_of_eq (a := ()) (check_fk ax) ?_)
  refine wpAny_bind (wpAny_pure (wpAny_pure ?_))
  refine ⟨quiet_fk, codeAny_builtin entry_fk ?_⟩
  unfold Builtin.«dict.fromkeys»
  refine wpAny_bind (wpAny_of_eq (a := true) type_dict ?_)
  refine KFB.if_not rfl ?_
  refine wpAny_bind (wpAny_of_eq (a := true) F.kt_sub_dict ?_)
  refine KFB.if_not rfl ?_
  refine KFB.if_not rfl ?_
  refine wpAny_bind (wpAny_rule (wpAny_bind (wpAny_pure ?_)))
  refine wpAny_bind (call_dict0 ?_)
  refine wpAny_holding ?_
  have hl1 := hl.push { cls := .type "dict", data := .dict #[] }
  have hT : Shared.TypeIs { s with heap := s.heap.push { cls := .type "dict", data := .dict #[] } } (.ref s.heap.objs.size) "dict" := ⟨_, Heap.get?_push_size _ rfl, rfl⟩
  refine wpAny_bind (wpAny_typeOf hl1.typeIs ?_)
  refine wpAny_bind (wpAny_typeOf hT ?_)
  refine KFB.if_not (by decide) ?_
  refine wpAny_bind (wpAny_typeOf hT ?_)
  refine KFB.if_not (by decide) ?_
  refine wpAny_bind (wpAny_pyIter_list hl1 ?_)
  refine wpAny_pure ⟨quiet_fkl, codeAny_builtin entry_fkl ?_⟩
  unfold Builtin.«dict.fromkeys.loop»
  have hl2 := hl1.push { cls := .type "list_iterator", data := .fields #[.ref ax, .int 0 0] }
  have hz : (s.heap.push { cls := .type "dict", data := .dict #[] }).objs.size = s.heap.objs.size + 1 := by simp [Heap.push]
  refine wpAny_bind (wpAny_pyNext_list_item (i := 0) ⟨_, Heap.get?_push_size _ rfl, rfl, rfl⟩ hl2 hv fun h3 hi3 hs3 => ?_)
  have keep : ∀ b o, s.heap.get? b = some o → h3.get? b = some o := fun b o e => by
    have hb : @LT.lt Nat _ b s.heap.objs.size := Heap.lt_size e
    refine (hs3.2 b ?_).trans (Heap.get?_push_of_some _ (Heap.get?_push_of_some _ e))
    intro z
    have z' : @Eq Nat b (s.heap.objs.size + 1) := z.trans hz
    omega
  have hd3 : h3.get? s.heap.objs.size = some { cls := .type "dict", data := .dict #[] } := by
    refine (hs3.2 _ ?_).trans (Heap.get?_push_of_some _ (Heap.get?_push_size _ rfl))
    intro z
    have z' : @Eq Nat s.heap.objs.size (s.heap.objs.size + 1) := z.trans hz
    omega
  refine wpAny_bind (wpAny_typeOf (T := "dict") ⟨_, hd3, rfl⟩ ?_)
  refine KFB.if_so (by decide) ?_
  refine wpAny_bind (wpAny_pure ?_)
  refine wpAny_bind (wpAny_holding ?_)
  show wpAny _ _ (holding _ (do dictSetHashed _ _ (← pyHash _) _)) _ _ _
  refine wpAny_holding (wpAny_bind (hash_raises ?_ ?_ ?_ fun h' tk e X => ?_))
  · obtain ⟨o, e1, e2⟩ := hk
    exact ⟨o, keep _ _ e1, e2⟩
  · exact hh
  · first | (show A.units < cLine; omega) | (show A.units + 1 < cLine; omega) | (show A.units + 2 < cLine; omega) | (unfold Around.under; simp; omega)
  · refine h h' tk e ⟨fun b o x => X.keeps b o (keep b o x), ?_, X.there⟩
    cases z : s.heap.get? e with
    | none => rfl
    | some o => have := X.new; rw [show h3.get? e = some o from keep _ _ z] at this; cases this
theorem fk_callWith_fields {M : Model} {pos : Pos} {u : Addr} {first : List Value} {args : List (Bool × Sem Value)} {Q : Value → Shared → Prop} (hplain : args.any (·.1) = false)
    (h : wpAny M A (evalArgs (.ref u) true args []) (fun x s₁ => s₁.heap.get? u = some fkBound ∧ wpAny M A (call (.ref u) (first ++ x.pos) x.kw) Q E s₁) E s) : wpAny M A (callWith pos (.ref u) first args []) Q E s := by
  unfold callWith
  refine wpAny_bind (wpAny_holding (wpAny_mono h (fun x s₁ h₁ => wpAny_bind (wpAny_standAt ?_)) fun _ _ x => x))
  obtain ⟨ho, hcall⟩ := h₁
  simp only [hplain, List.any_nil, Bool.or_false]
  refine wpAny_bind (m := keeperOf (.ref u)) ?_
  unfold keeperOf
  refine wpAny_bind (wpAny_load ho ?_)
  simp only [fkBound, show (Value.type "builtin_function_or_method" != Value.type "method") = true by decide, show (Value.type "builtin_function_or_method" == Value.type "builtin_function_or_method" || Value.type "builtin_function_or_method" == Value.type "method-wrapper") = true by decide, if_true]
  refine wpAny_pure ?_
  exact wpAny_bind (wpAny_mono hcall (fun r s₂ hr => wpAny_bind (wpAny_holding (wpAny_point (wpAny_pure hr)))) fun _ _ x => x)
theorem fk_callWith {M : Model} {pos : Pos} {u : Addr} {first : List Value} {env : Env} {e : Expr} {rest : List Expr} {Q : Value → Shared → Prop}
    (h : wpAny M A (spliced (backTo pos (starEach (e :: rest) env))) (fun vs s₁ => s₁.heap.get? u = some fkBound ∧ wpAny M A (call (.ref u) (first ++ vs)) Q E s₁) E s)
    (he : starEach (e :: rest) env = (false, eval e env) :: starEach rest env := by rfl) (hplain : (backTo pos (starEach rest env)).any (·.1) = false := by rfl) :
    wpAny M A (callWith pos (.ref u) first (backTo pos (starEach (e :: rest) env)) []) Q E s := by
  rw [he] at h ⊢
  refine fk_callWith_fields (by show (false || (backTo pos (starEach rest env)).any (·.1)) = false; rw [hplain]; rfl) ?_
  exact evalArgs_plain h
end
end Mine
namespace Mine
/-- an exception without a context -/
def NoCtx (e : Addr) (h : Heap) : Prop := ∃ oe fs, h.get? e = some oe ∧ oe.data = .fields fs ∧ fs[2]? = some .none
section
variable {M : Model} {A : Around} {E : Value → Shared → Prop} {s : Shared}
theorem entryC {base : Heap} {env : Env} {outer : List Env} {L e : Addr} {oe : Obj} {vs : Array Value} {head a0 : Value} {hadNext : Bool} {Q : Unit → Shared → Prop}
    (hfr : A.frames = some (env :: outer)) (hl : s.heap.FunFrames base (env :: outer)) (hf : env.frame = some L)
    (he : s.heap.get? e = some oe) (hkb : base.StaysIn s.heap) (hen : base.get? e = none) (hd : oe.data = .fields vs) (hsz : 1 < vs.size) (h0 : vs[0]? = some a0) (h2 : vs[2]? = some .none)
    (h : ∀ h', Heap.NotedW base (env :: outer) e oe.cls a0 (rawInt L) s.heap h' → NoCtx e h' → Q () { s with heap := h' }) :
    wpAny M A (do let a ← frameOf env; let pl ← entryPlaceOf L hadNext; let b ← EntryCells.newEntry head a .none (rawInt L) .none pl; setField (.ref e) 1 b) Q E s := by
  have hene : e ∉ (env :: outer).filterMap (·.frame) := fun hm => by
    obtain ⟨_, o, ho, hnf⟩ := hl.mem hm
    rw [he] at ho; injection ho with ho; subst ho; exact hnf vs hd
  refine wpAny_bind (wpAny_frameOf_fun hfr hl hf fun h₁ hs₁ => ?_)
  refine wpAny_bind (wpAny_entryPlaceOf fun pl hpl => ?_)
  unfold EntryCells.newEntry newFields
  refine wpAny_bind (wpAny_newObj_type ?_ (hpl.sizeOk5 _ _ _ _ _))
  have he₁ : h₁.get? e = some oe := (hs₁.2.1 e hene).trans he
  have kb₁ : base.StaysIn h₁ := fun b o hbo => (hs₁.2.1 b fun hm => by rw [(hl.mem hm).1] at hbo; cases hbo).trans (hkb b o hbo)
  generalize hob : ({ cls := .type "traceback", dict := none, data := .fields ([head, .ref L, .none, rawInt L, .none] ++ (if pl.isEmpty then List.replicate 6 Value.none else pl)).toArray } : Obj) = ob
  have he₂ := Heap.get?_push_of_some (h := h₁) ob he₁
  have hobd : ob.isFreed = false := by rw [← hob]; rfl
  refine wpAny_setField he₂ hd hsz (h _ ?_ ?_)
  · have hTe : h₁.objs.size ≠ e := Nat.ne_of_gt (Heap.lt_size he₁)
    have hd₃ := Obj.data_mapFields hd (·.setIfInBounds 1 (Value.ref h₁.objs.size))
    have he₃ := Heap.get?_update_self (Obj.mapFields (·.setIfInBounds 1 (Value.ref h₁.objs.size))) he₂ (Obj.isFreed_of_fields hd₃)
    have hT₃ := (Heap.get?_update_other (h₁.push ob) (Obj.mapFields (·.setIfInBounds 1 (Value.ref h₁.objs.size))) (Ne.symm hTe)).trans (Heap.get?_push_size h₁ hobd)
    have keep : ∀ b o, b ≠ e → h₁.get? b = some o → ((h₁.push ob).update e (Obj.mapFields (·.setIfInBounds 1 (Value.ref h₁.objs.size)))).get? b = some o := fun b o hbe hb => by
      rw [Heap.get?_update_other _ _ (Ne.symm hbe)]
      exact Heap.get?_push_of_some _ hb
    have noRecord : ∀ b o, s.heap.get? b = some o → (∀ vs, o.data ≠ .fields vs) → b ≠ e := fun b o hb hnf q => by
      rw [q, he] at hb; injection hb with hb; subst hb; exact hnf vs hd
    refine ⟨fun b o hbo => keep b o (fun q => by rw [q, hen] at hbo; cases hbo) (kb₁ b o hbo), hl.of_keeps fun b o hb hnf => ?_, ?_, fun b o hb hnf => ?_⟩
    · obtain ⟨sl, hs⟩ := hs₁.2.2 b o hb
      exact ⟨_, keep b _ (noRecord b o hb hnf) hs, rfl⟩
    · subst hob
      exact ⟨_, _, h₁.objs.size, _, _, he₃, ⟨Obj.cls_mapFields _ _, by rw [Array.getElem?_setIfInBounds_ne (by decide)]; exact h0⟩, hd₃, by simp [hsz], kb₁.fresh, hTe, hT₃, rfl, by first | (simp; done) | (rcases hpl with rfl | ⟨_, _, _, _, _, _, _, rfl⟩ <;> simp)⟩
    · obtain ⟨sl, hs⟩ := hs₁.2.2 b o hb
      exact ⟨sl, keep b _ (noRecord b o hb hnf) hs⟩
  · exact ⟨_, _, Heap.get?_update_self _ he₂ (Obj.isFreed_of_fields (Obj.data_mapFields hd _)), Obj.data_mapFields hd _, by rw [Array.getElem?_setIfInBounds_ne (by decide)]; exact h2⟩
end
section
open TI TLg
variable {prog : Program} {w : World} {A₀ : Around} {E : Value → Shared → Prop} {s' : Shared} {hb h : Heap} {L L' a e : Addr} {oL : Obj} {m : Str → Option Value} {name : Str} {scope : Scope} {cd : Value} {X : String} {env : Env} {new : List (Addr × Obj)}
theorem notedC {Q : Unit → Shared → Prop} (hfr : A₀.frames = some [env]) (Fs : Frs [env] [(L, oL)]) (hx : Heap.NewExc h s'.heap e X) (F : Fr hb L' h m) (N : News hb L' h (new ++ [(L, oL)])) (hne : ∀ p ∈ new, p.1 ≠ L)
    (k : ∀ h' sl, TT.HeldN hb L' h' m e X (new ++ [(L, { oL with slots := sl })]) → NoCtx e h' → Q () { s' with heap := h' }) (hk : scope.kind = .function := by rfl) :
    wpAny (model prog w) (A₀.deeper (envOf name scope L' a cd)) (noteFrame (.ref e) (envOf name scope L' a cd)) Q E s' := by
  have hap : ∀ p ∈ new, p.1 ∉ L' :: [(L, oL)].map (·.1) := fun p hp hm => by
    rcases List.mem_cons.mp hm with q | hm
    · exact (N p (List.mem_append_left _ hp)).2.1 q
    · exact hne p hp (List.mem_singleton.mp hm)
  obtain ⟨ob, tp, he, hcls, hd⟩ := hx.there
  obtain ⟨hff, hNs, frs₁, SU, ht⟩ := frames_at (name := name) (a := a) (cd := cd) (h' := s'.heap) (base := gone h (L' :: [(L, oL)].map (·.1))) hk Fs F N tail_sub (fun b o hb' => ⟨o.slots, hx.keeps b o hb'⟩) fun b hm => gone_none hm
  unfold noteFrame
  simp only [show (envOf name scope L' a cd).frame = some L' from rfl]
  refine wpAny_bind (wpAny_field he hd (x := .none) rfl ?_)
  rw [if_neg (by decide)]
  have hnone : ∀ b, s'.heap.get? b = none → True := fun _ _ => trivial
  refine entryC (a0 := tp) (Around.frames_deeper hfr) hff rfl he (fun b o eb => hx.keeps b o (gone_some eb).2) (TT.none_of (fun b o eb => (gone_some eb).2) hx.new) hd (by show 1 < 6; decide) rfl rfl fun h' hN hC => ?_
  obtain ⟨frs₂, SU₂, Fs₂, H⟩ := held_of_notedA (X := X) Fs F N hap hNs SU ht hx.new (by rw [← hcls]; exact hN)
  obtain ⟨sl, rfl⟩ := one_up SU₂
  exact k h' sl H hC
variable {h₀ : Heap} {news : List (Addr × Obj)} {p : Program} {loose : List Str} {mean : ExcName → Option Value} {mg mb : Str → Option Value} {b₀ : Stmt} {suite : List Stmt} {pos np : Pos} {rest : List ExceptHandler} {x : Str}
theorem landsC {fl : Value} (H : TT.HeldNA h₀ L s'.heap m e X news fl) (hC : NoCtx e s'.heap) {A : Around} {Q : Unit → Shared → Prop} (k : ∀ h', Fr h₀ L h' m → News h₀ L h' news → NoCtx e h' → Q () { s' with heap := h' }) :
    wpAny (model prog w) A (setFlight (.ref e) none) Q E s' := by
  obtain ⟨⟨F, ⟨ob, vs, tb, otb, tvs, he, hcls, hd, h1, htb, htd, h3, htbL, htbe, htb0⟩, _⟩, N, hap⟩ := H
  have hsz : 3 < tvs.size := (Array.getElem?_eq_some_iff.mp h3).1
  obtain ⟨oL, esL, epL, hL, hLd, hLk, hLf⟩ := F.ns
  obtain ⟨oe, fs, c1, c2, c3⟩ := hC
  refine wpAny_setFlight_none he hd h1 htb htd hsz (k _ ⟨⟨oL, esL, epL, (Heap.get?_update_ne _ _ _ _ htbL.symm).trans hL, hLd, hLk, hLf⟩, fun b o hb => ?_, F.above⟩ (fun p hp => ?_) ⟨oe, fs, (Heap.get?_update_ne _ _ _ _ htbe.symm).trans c1, c2, c3⟩)
  · exact (Heap.get?_update_ne _ _ _ _ (fun q => by rw [q, htb0] at hb; cases hb)).trans (F.keep b o hb)
  · exact ⟨(Heap.get?_update_ne _ _ _ _ (hap ob vs tb he hd h1 p hp)).trans (N p hp).1, (N p hp).2⟩
theorem landC {fl : Value} (H : TT.HeldNA h₀ L s'.heap m e X news fl) (hC : NoCtx e s'.heap) {M : Model} {A : Around} {Q : Unit → Shared → Prop} (k : ∀ h', TT.HeldNA h₀ L h' m e X news .none → NoCtx e h' → Q () { s' with heap := h' }) :
    wpAny M A (setFlight (.ref e) none) Q E s' := by
  obtain ⟨⟨F, ⟨ob, vs, tb, otb, tvs, he, hcls, hd, h1, htb, htd, h3, htbL, htbe, htb0⟩, hf⟩, N, hap⟩ := H
  have hsz : 3 < tvs.size := (Array.getElem?_eq_some_iff.mp h3).1
  have happ := hap ob vs tb he hd h1
  obtain ⟨oL, esL, epL, hL, hLd, hLk, hLf⟩ := F.ns
  obtain ⟨oe, fs, c1, c2, c3⟩ := hC
  have he' := (Heap.get?_update_ne s'.heap _ _ (Obj.mapFields (·.setIfInBounds 3 Value.none)) htbe.symm).trans he
  have F' : Fr h₀ L (s'.heap.update tb (Obj.mapFields (·.setIfInBounds 3 .none))) m :=
    ⟨⟨oL, esL, epL, (Heap.get?_update_ne _ _ _ _ htbL.symm).trans hL, hLd, hLk, hLf⟩,
     fun b o hb => (Heap.get?_update_ne _ _ _ _ (fun q => by rw [q, htb0] at hb; cases hb)).trans (F.keep b o hb), F.above⟩
  refine wpAny_setFlight_none he hd h1 htb htd hsz (k _ ⟨⟨F', ⟨ob, vs, tb, _, _, he', hcls, hd, h1,
    Heap.get?_update_self _ htb (Obj.isFreed_of_fields (Obj.data_mapFields htd _)), Obj.data_mapFields htd _, by simp [Array.getElem?_setIfInBounds, hsz], htbL, htbe, htb0⟩, hf⟩,
    fun p hp => ⟨(Heap.get?_update_ne _ _ _ _ (happ p hp)).trans (N p hp).1, (N p hp).2⟩, ?_⟩ ⟨oe, fs, (Heap.get?_update_ne _ _ _ _ htbe.symm).trans c1, c2, c3⟩)
  intro ob' vs' tb' e1 e2 e3 p hp
  rw [he'] at e1
  obtain rfl := Option.some.inj e1
  exact hap ob vs' tb' he e2 e3 p hp
theorem clauseC {fl : Value} {Q : Flow → Shared → Prop} (H : TT.HeldNA h₀ L s'.heap m e X news fl) (hC : NoCtx e s'.heap) (T : Top p loose mean mg mb h₀) (t1 : x ∉ startupNames := by decide +kernel) (t2 : x ∉ loose := by decide +kernel) (t3 : x ∉ (recsOf p).map (·.name) := by decide +kernel) (t4 : x ∉ (litsOf p).map (·.1) := by decide +kernel) (t5 : x ∉ (clssOf p loose).map (·.name) := by decide +kernel)
    (k : ∀ h', Fr h₀ L h' m → News h₀ L h' news → NoCtx e h' → wpAny (model prog w) ((A₀.deeper (envOf name scope L a cd)).mark (some (.ref e))) (execs (b₀ :: suite) (envOf name scope L a cd)) Q E { s' with heap := h' })
    (h3 : subB X (.type x.toString) = some true := by decide +kernel) (hv : bootBuiltins x = some (.type x.toString) := by decide +kernel) (h1 : subB x.toString (.type "BaseException") = some true := by decide +kernel)
    (h2 : subB ((Manifest.find? x.toString).elim "type" fun y => y.metatype) (.type "tuple") = some false := by decide +kernel) (hn : x ≠ "__name__" := by decide)
    (hk : scope.kind = .function := by rfl) (hxk : (envOf name scope L a cd).kindOf x = some .globalImplicit := by rfl) (hdb : (x == ("__debug__" : Str)) = false := by decide)
    (hE : PassesOwnAt (model prog w) ((A₀.deeper (envOf name scope L a cd)).mark (some (.ref e))) (A₀.deeper (envOf name scope L a cd)) (envOf name scope L a cd) E := by passes_own) :
    wpAny (model prog w) (A₀.deeper (envOf name scope L a cd)) (handleBy (.ref e) (envOf name scope L a cd) (.ExceptHandler (some (.Name x np)) none (b₀ :: suite) pos :: rest)) Q E s' := by
  refine wpAny_handleBy_builtin (X := X) (T := x.toString) (b := true) (isSubtype_of_subB h1) (isSubtype_of_subB h2) (isSubtype_of_subB h3) (wpAny_passesOwnAt hE (TT.class_top H.held.fr T t1 t2 t3 t4 t5 hv ⟨rfl, H.isA, ?_⟩ hn hk hxk hdb))
  rw [if_pos rfl]
  exact landsC H hC fun h' F' N' C' => wpAny_passesOwnAt hE (k h' F' N' C')
end
end Mine
namespace Mine
section
local macro_rules | `(tactic| walk_at "getMethod type:dict") => `(tactic| refine Hold.out ?_)
local macro_rules | `(tactic| walk_at "setFlight ref") => `(tactic| refine Hold.out ?_)
local macro_rules | `(tactic| walk_at "handleBy") => `(tactic| refine Hold.out ?_)
local macro_rules | `(tactic| walk_at "call ref") => `(tactic| refine Hold.out ?_)
local macro_rules | `(tactic| walk_at "LeaveI") => `(tactic| refine Hold.out ?_)
local macro_rules | `(tactic| walk_at "noteFrame ref") => `(tactic| refine Hold.out ?_)
theorem dedup2_led {prog : Program} {w : World} {mean : ExcName → Option Value} {mg mb : Str → Option Value} {A : Around} {R : Result → Shared → Prop} {s : Shared} {h₀ : Heap} {L a : Addr} {m : Str → Option Value} {news : List (Addr × Obj)} {cn : Str} {cs : Scope} {ccd : Value} {v : Value} {x : List PyData} {xs : List PyData}
    (hh : A.handled = none) (hfr : A.frames = some [envOf cn cs L a ccd]) (hdep : A.depth + 16 < recursionLimit) (hu : A.units + 300 < cLine) (F : Fr h₀ L s.heap m) (N : News h₀ L s.heap news) (X₀ : (hd.heap_39 w.params).In h₀) (T : Top VW LS mean mg mb h₀) (hck : cs.kind = .function)
    (rv : InL (St0 h₀ news) v (.list (.list x :: xs))) (hc : PyData.canLayAll0 (.list x :: xs) = true) (hdp : PyData.depthAll (.list x :: xs) ≤ 8) (hl : (PyData.list x :: xs).length ≤ 1000)
    (ret : ∀ b ws n h' tk, Fr h₀ L h' m → News h₀ L h' ((b, listOf ws n) :: news) → InLs (St0 h₀ news) ws.toList (dedupP (.list x :: xs)) → R (.ok (.ret (.ref b))) { s with heap := h', toks := tk }) :
    codeAny (model prog w) A (.call (.ref 29) ⟨[v], [(Str.ofString "unhashable_fallback", .bool true)]⟩) R s := by
  obtain ⟨hdl, dp, fr, gd, un'⟩ := A
  obtain rfl : hdl = none := hh
  obtain rfl : fr = some [envOf cn cs L a ccd] := hfr
  have hu0 : un' + 300 < cLine := hu
  have hd0 : dp + 16 < recursionLimit := hdep
  have e1 : codeIn (hd.heap_39 w.params) (.ref 28) (Str.ofString "_deduplicate") = true := by rfl
  refine TLgL.code_def (K := hd.heap_39 w.params) (binds := [(Str.ofString "params", v), (Str.ofString "unhashable_fallback", .bool true)]) F X₀ N T rfl rfl e1 (by show dp < _; omega) ?hb (locs rfl) ?_ hck
  case hb => exact BindsTo.of_eq rfl
  intro oL h1 C Fs hne F1 N1
  obtain ⟨ax, vs, n, rfl, p1, p4⟩ := rv.ofList
  clear F N
  k_steps
  unfold Hold
  refine fk_getm (K := hd.heap_39 w.params) F1 N1 X₀ (by k_is) fun u h2 F2 N2 lt2 => ?_
  clear F1 N1
  k_steps
  refine fk_callWith ?_
  k_steps
  exact (N2 _ (.head _)).1
  have kk : ∀ b o, St0 h₀ news b o → h2.get? b = some o := St0.in F2 N2 fun _ hp => .tail _ (List.mem_append_left _ hp)
  obtain ⟨k, ks, kn, hv0, hk0, hk1⟩ : ∃ k ks kn, vs[0]? = some (.ref k) ∧ St0 h₀ news k (W.listOf ks kn) ∧ InLs (St0 h₀ news) ks.toList x := by
    have q : vs.toList[0]? = vs[0]? := by simp
    cases hvs : vs.toList with
    | nil => rw [hvs] at p4; cases p4
    | cons v0 r =>
      rw [hvs] at p4
      cases p4 with
      | cons b1 b2 =>
        obtain ⟨k, ks, kn, rfl, c1, c2⟩ := b1.ofList
        refine ⟨k, ks, kn, ?_, c1, c2⟩
        rw [← q, hvs]; rfl
  refine fk_call (N2 _ (.head _)).1 (vs := vs) ⟨_, kk _ _ p1, rfl, n, rfl⟩ hv0 ⟨_, kk _ _ hk0, rfl⟩ rfl (by simp only [units_deeper]; omega) fun h3 tk3 e X => ?_
  have F3 := F2.keeps X.keeps
  have N3 := N2.grown X.keeps
  k_steps
  unfold Hold
  refine notedC (new := (u, fkBound) :: news) rfl Fs X F2 N2 ?_ fun h4 sl H4 C4 => ?_
  · intro p hp
    rcases List.mem_cons.mp hp with rfl | hp
    · exact Ne.symm (Nat.ne_of_lt (lt2 (L, oL) (List.mem_append_right _ (.head _))))
    · exact hne p hp
  clear F2 N2 F3 N3 X kk
  k_steps
  unfold Hold
  refine landC H4 C4 fun h5 H5 C5 => ?_
  clear H4 C4
  k_steps
  unfold Hold
  refine clauseC H5 C5 T (k := fun h6 F6 N6 C6 => ?_)
  clear H5 C5
  k_steps
  unfold Hold
  have kk6 : ∀ b o, St0 h₀ news b o → h6.get? b = some o := St0.in F6 N6 fun _ hp => .tail _ (List.mem_append_left _ hp)
  refine wpAny_call (dedup_specIn (e := e) (P := St0 h₀ news) ⟨rfl, C6⟩ ?_ ?_ (X₀.keeps F6.keep) (T.keeps F6.keep) kk6 rv hc hdp hl fun b ws n7 h7 tk7 st hb7 hb0 hW => ?_)
  · show dp + 1 + 8 < recursionLimit
    omega
  · show un' + 3 + 200 < cLine
    omega
  have F7 := F6.keeps st
  have hLb : b ≠ L := fun z => by
    have := (N6 _ (List.mem_append_right _ (.head _))).1
    rw [← z, hb0] at this
    cases this
  have N7 := News.more F7 (N6.grown st) hb7 (fun _ _ z => nomatch z) (by
    cases z : h₀.get? b with
    | none => rfl
    | some o => rw [F6.keep _ _ z] at hb0; cases hb0)
  clear F6 N6
  k_steps
  unfold Hold
  refine TLg.leave_back (new := (b, listOf ws n7) :: (u, fkBound) :: news) C F7 N7 (TLgL.allNe_of fun p hp => ?_) fun F8 N8 => ?_
  · rcases List.mem_cons.mp hp with rfl | hp
    · exact hLb
    · rcases List.mem_cons.mp hp with rfl | hp
      · exact Ne.symm (Nat.ne_of_lt (lt2 (L, oL) (List.mem_append_right _ (.head _))))
      · exact hne p hp
  exact ret b ws n7 _ _ F8 (fun p hp => N8 p (by
    rcases List.mem_cons.mp hp with rfl | hp
    · exact .head _
    · exact .tail _ (.tail _ hp))) hW
end
end Mine
namespace Mine
/-! a list comprehension with two generators -/
abbrev comp2 (elt : Expr) (t1 i1 t2 i2 : Expr) (scope : Scope) (pos : Pos) : Expr := .ListComp elt [⟨t1, i1, [], 0⟩, ⟨t2, i2, [], 0⟩] scope pos
section
variable {prog : Program} {w : World} {A : Around} {R : Result → Shared → Prop} {s : Shared} {elt t1 i1 t2 i2 : Expr} {scope : Scope} {pos : Pos} {it acc : Value} {env : Env}
theorem compTurn_two0 (elt t1 i1 t2 i2 : Expr) (scope : Scope) (pos : Pos) (it acc : Value) (env : Env) :
    compTurn (comp2 elt t1 i1 t2 i2 scope pos) 0 it acc env = (standAt i1.pos >>= fun _ => pyNext it >>= fun r => match r with
      | none => pure (.done .next)
      | some v => letOwnedTupleGo t1 it v >>= fun _ => assign t1 env v >>= fun _ =>
        eval i2 env >>= fun x => standAt i2.pos >>= fun _ => foldedSetIterable i2 env x >>= fun x => holding [x] (pyIter x) >>= fun it2 =>
          runOwn (.compStart (comp2 elt t1 i1 t2 i2 scope pos) 1 it2 acc env) env >>= fun _ =>
          again (.compLoop (comp2 elt t1 i1 t2 i2 scope pos) 0 it acc env)) := by rfl
theorem compTurn_two1 (elt t1 i1 t2 i2 : Expr) (scope : Scope) (pos : Pos) (it acc : Value) (env : Env) :
    compTurn (comp2 elt t1 i1 t2 i2 scope pos) 1 it acc env = (standAt i2.pos >>= fun _ => pyNext it >>= fun r => match r with
      | none => pure (.done .next)
      | some v => letOwnedTupleGo t2 it v >>= fun _ => assign t2 env v >>= fun _ =>
        (eval elt env >>= fun x => call (.builtin "list.append") [acc, x] >>= fun _ => pure ()) >>= fun _ =>
          again (.compLoop (comp2 elt t1 i1 t2 i2 scope pos) 1 it acc env)) := by rfl
theorem loop2o (I : Nat → Shared → Prop)
    (turn : ∀ n s E', I n s → wpAny (model prog w) A (pyNext it) (fun r s₁ => match r with
      | none => R (.ok .next) s₁
      | some v => wpAny (model prog w) A (assign t1 env v) (fun _ s₂ => wpAny (model prog w) A (eval i2 env) (fun x s₃ => wpAny (model prog w) A (pyIter x) (fun it2 s₄ =>
          codeAny (model prog w) A (.compStart (comp2 elt t1 i1 t2 i2 scope pos) 1 it2 acc env) (fun r s₅ => match r with | .ok _ => ∃ m, m < n ∧ I m s₅ | .error _ => False) s₄) E' s₃) E' s₂) E' s₁) E' s)
    (n : Nat) (h : I n s) (ht : ∀ v, letOwnedTupleGo t1 it v = pure () := by intro _; rfl) (hf : ∀ x, foldedSetIterable i2 env x = pure x := by intro _; rfl) :
    codeAny (model prog w) A (.compLoop (comp2 elt t1 i1 t2 i2 scope pos) 0 it acc env) R s := by
  refine codeAny_loop rfl I (fun n s hI => ?_) n h
  show wpAny _ A ((compTurn (comp2 elt t1 i1 t2 i2 scope pos) 0 it acc env).onRaise (fun x => do noteFrame x env; theTreesLotGoes x)) _ _ s
  refine wpAny_noted ?_
  rw [compTurn_two0]
  refine wpAny_bind (wpAny_standAt (wpAny_bind (wpAny_mono (turn n s _ hI) (fun r s₁ h₁ => ?_) fun _ _ h' => h')))
  cases r with
  | none => exact wpAny_pure h₁
  | some v =>
    refine wpAny_bind (wpAny_of_eq (ht v) ?_)
    refine wpAny_bind (wpAny_mono h₁ (fun _ s₂ h₂ => wpAny_bind (wpAny_mono h₂ (fun x s₃ h₃ => ?_) fun _ _ h' => h')) fun _ _ h' => h')
    refine wpAny_bind (wpAny_standAt (wpAny_bind (wpAny_of_eq (hf x) (wpAny_bind (wpAny_holding (wpAny_mono h₃ (fun it2 s₄ h₄ => ?_) fun _ _ h' => h'))))))
    refine wpAny_bind (wpAny_runOwn (codeAny_mono h₄ fun r s₅ h₅ => ?_))
    cases r with
    | ok f => exact wpAny_pure ⟨rfl, h₅⟩
    | error e => exact h₅.elim
theorem loop2i (I : Nat → Shared → Prop)
    (turn : ∀ n s E', I n s → wpAny (model prog w) A (pyNext it) (fun r s₁ => match r with
      | none => R (.ok .next) s₁
      | some v => wpAny (model prog w) A (assign t2 env v) (fun _ s₂ => wpAny (model prog w) A (eval elt env) (fun x s₃ =>
          wpAny (model prog w) A (call (.builtin "list.append") [acc, x]) (fun _ s₄ => ∃ m, m < n ∧ I m s₄) E' s₃) E' s₂) E' s₁) E' s)
    (n : Nat) (h : I n s) (ht : ∀ v, letOwnedTupleGo t2 it v = pure () := by intro _; rfl) :
    codeAny (model prog w) A (.compLoop (comp2 elt t1 i1 t2 i2 scope pos) 1 it acc env) R s := by
  refine codeAny_loop rfl I (fun n s hI => ?_) n h
  show wpAny _ A ((compTurn (comp2 elt t1 i1 t2 i2 scope pos) 1 it acc env).onRaise (fun x => do noteFrame x env; theTreesLotGoes x)) _ _ s
  refine wpAny_noted ?_
  rw [compTurn_two1]
  refine wpAny_bind (wpAny_standAt (wpAny_bind (wpAny_mono (turn n s _ hI) (fun r s₁ h₁ => ?_) fun _ _ h' => h')))
  cases r with
  | none => exact wpAny_pure h₁
  | some v =>
    refine wpAny_bind (wpAny_of_eq (ht v) ?_)
    exact wpAny_bind (wpAny_mono h₁ (fun _ s₂ h₂ => wpAny_bind (wpAny_bind (wpAny_mono h₂ (fun x s₃ h₃ => wpAny_bind (wpAny_mono h₃
      (fun _ s₄ h₄ => wpAny_pure (wpAny_pure ⟨rfl, h₄⟩)) fun _ _ h' => h')) fun _ _ h' => h'))) fun _ _ h' => h')
theorem start2 {d : Nat} (hd : d < 2) (h0 : codeAny (model prog w) A (.compLoop (comp2 elt t1 i1 t2 i2 scope pos) d it acc env) R s)
    (h : ∀ E', wpAny (model prog w) A (pyIter it) (fun it' s' => codeAny (model prog w) A (.compLoop (comp2 elt t1 i1 t2 i2 scope pos) d it' acc env) R s') E' s) :
    codeAny (model prog w) A (.compStart (comp2 elt t1 i1 t2 i2 scope pos) d it acc env) R s := by
  obtain rfl | rfl : d = 0 ∨ d = 1 := by omega
  all_goals
    refine codeAny_of_tree ?_
    show wpAny _ _ ((compStart (comp2 elt t1 i1 t2 i2 scope pos) _ it acc env).onRaise (fun x => do noteFrame x env; standAt theWindowsPlace)) _ _ s
    refine wpAny_notedAt ?_
    unfold compStart
    show wpAny _ _ (ask >>= _) _ _ s
    refine wpAny_bind (wpAny_askSetting (wpAny_ite ?_))
    split
    · first
        | exact wpAny_bind (wpAny_pure (wpAny_pure (And.intro rfl h0)))
        | exact wpAny_pure (And.intro rfl h0)
    · refine wpAny_bind (wpAny_rule ?_)
      show wpAny _ _ (standAt _ >>= _) _ _ s
      exact wpAny_bind (wpAny_standAt (wpAny_bind (wpAny_mono (h _) (fun it' s' h' => wpAny_pure (And.intro rfl h')) fun _ _ x => x)))
end
end Mine
namespace Mine
structure Cx (h₀ : Heap) (L : Addr) (m : Str → Option Value) (I1 l1 C D : Addr) (i : Nat) (ys : List Value) (nw : List (Addr × Obj)) (m' : Str → Option Value) (h : Heap) : Prop where
  it1 : h.IsListIter I1 l1 i
  fr : Fr h₀ L h m
  ns : h.Ns C m'
  nws : News h₀ L h ((D, lst ys) :: nw)
  off : ∀ p ∈ nw, p.1 ≠ I1 ∧ p.1 ≠ C ∧ p.1 ≠ D
section
variable {h₀ : Heap} {L I1 l1 C D X : Addr} {m m' : Str → Option Value} {i : Nat} {ys : List Value} {nw : List (Addr × Obj)} {h h' : Heap}
theorem Cx.ext (c : Cx h₀ L m I1 l1 C D i ys nw m' h) (k : ∀ b o, b ≠ X → h.get? b = some o → h'.get? b = some o) (x1 : I1 ≠ X) (x2 : C ≠ X) (x3 : D ≠ X) (x4 : L ≠ X) (x5 : h₀.get? X = none) (x6 : ∀ p ∈ nw, p.1 ≠ X) :
    Cx h₀ L m I1 l1 C D i ys nw m' h' :=
  ⟨c.it1.at fun o e => k I1 o x1 e, ⟨c.fr.ns.at' fun o e => k L o x4 e, fun b o e => k b o (fun z => by rw [z, x5] at e; cases e) (c.fr.keep b o e), c.fr.above⟩, c.ns.at' fun o e => k C o x2 e,
    fun p hp => ⟨k _ _ (by rcases List.mem_cons.mp hp with rfl | hp; exact x3; exact x6 p hp) (c.nws p hp).1, (c.nws p hp).2⟩, c.off⟩
theorem Cx.step (c : Cx h₀ L m I1 l1 C D i ys nw m' h) {j : Nat} (it' : h'.IsListIter I1 l1 j) (k : ∀ b o, b ≠ I1 → h.get? b = some o → h'.get? b = some o) (x2 : C ≠ I1) (x3 : D ≠ I1) (x4 : L ≠ I1) (x5 : h₀.get? I1 = none) :
    Cx h₀ L m I1 l1 C D j ys nw m' h' :=
  ⟨it', ⟨c.fr.ns.at' fun o e => k L o x4 e, fun b o e => k b o (fun z => by rw [z, x5] at e; cases e) (c.fr.keep b o e), c.fr.above⟩, c.ns.at' fun o e => k C o x2 e,
    fun p hp => ⟨k _ _ (by rcases List.mem_cons.mp hp with rfl | hp; exact x3; exact (c.off p hp).1) (c.nws p hp).1, (c.nws p hp).2⟩, c.off⟩
theorem Cx.name (c : Cx h₀ L m I1 l1 C D i ys nw m' h) {m'' : Str → Option Value} (n' : h'.Ns C m'') (k : ∀ b o, b ≠ C → h.get? b = some o → h'.get? b = some o) (x1 : I1 ≠ C) (x3 : D ≠ C) (x4 : L ≠ C) (x5 : h₀.get? C = none) :
    Cx h₀ L m I1 l1 C D i ys nw m'' h' :=
  ⟨c.it1.at fun o e => k I1 o x1 e, ⟨c.fr.ns.at' fun o e => k L o x4 e, fun b o e => k b o (fun z => by rw [z, x5] at e; cases e) (c.fr.keep b o e), c.fr.above⟩, n',
    fun p hp => ⟨k _ _ (by rcases List.mem_cons.mp hp with rfl | hp; exact x3; exact (c.off p hp).2.1) (c.nws p hp).1, (c.nws p hp).2⟩, c.off⟩
end
section
variable {prog : Program} {w : World} {A : Around} {E : Value → Shared → Prop} {s : Shared} {env : Env} {h₀ : Heap} {m : Str → Option Value} {news : List (Addr × Obj)} {elt i1 i2 : Expr} {x1 x2 y : Str} {p1 p2 py pos spos : Pos} {scope : Scope} {cl : List (Str × Addr)}
theorem assign_comp2 {Q : Flow → Shared → Prop} {l1 l2 : Addr} {its1 its2 : Array Value} {k1 : Nat} (J : Nat → Nat → List Value → List (Addr × Obj) → Prop)
    (hsw : swapsWith (comp2 elt (.Name x1 p1) i1 (.Name x2 p2) i2 scope pos) (some (.Name y py)) spos.line env = pure true)
    (hclos : closureFor scope env = pure cl) (hcell : ∀ z ∈ scope.names, z.2 ≠ .cell) (hkind : scope.kind = .function)
    (hnames : ∀ z ∈ scope.names, z.2 = .local → scope.names.lookup z.1 = some .local) (hx1 : scope.names.lookup x1 = some .local) (hx2 : scope.names.lookup x2 = some .local) (hxx : x1 ≠ x2)
    (hy : env.kindOf y = some .local) (hp : (env.scope.kind == .class || (env.scope.kind == .module && env.locals != env.globals)) = false)
    (hh : A.handled = none) (hit1 : wpAny (model prog w) A (eval i1 env) (fun v s₁ => v = .ref l1 ∧ s₁ = s) E s)
    (F : Fr h₀ env.locals s.heap m) (N : News h₀ env.locals s.heap news) (hJ0 : J 0 0 [] news) (hS1 : ∀ i j ys nw, J i j ys nw → (l1, W.listOf its1 k1) ∈ nw) (h2 : h₀.IsList l2 its2)
    (hsz : ∀ i j ys nw, J i j ys nw → ys.length ≤ sizeLine) (hjj : ∀ i ys nw, i < its1.size → J i its2.size ys nw → J (i + 1) 0 ys nw)
    (hi2 : ∀ C h tk nw i ys E', J i 0 ys nw → News h₀ env.locals h nw → wpAny (model prog w) A (eval i2 (compEnvC scope cl C env)) (fun v s₁ => v = .ref l2 ∧ s₁ = { s with heap := h, toks := tk }) E' { s with heap := h, toks := tk })
    (helt : ∀ i j v1 v2 ys nw I1 oI1 I2 oI2 C oC D m₂ h tk E', i < its1.size → its1[i]? = some v1 → its2[j]? = some v2 → J i j ys nw → NsObj oC m₂ → m₂ x1 = some v1 → m₂ x2 = some v2 → Fr h₀ env.locals h m →
      News h₀ env.locals h ((I2, oI2) :: (I1, oI1) :: (C, oC) :: (D, lst ys) :: nw) → (∀ p ∈ nw, p.1 ≠ I2 ∧ p.1 ≠ I1 ∧ p.1 ≠ C ∧ p.1 ≠ D) →
      wpAny (model prog w) A (eval elt (compEnvC scope cl C env)) (fun u s₂ => ∃ h' tk' nw', s₂ = { s with heap := h', toks := tk' } ∧ Fr h₀ env.locals h' m ∧
        News h₀ env.locals h' ((I2, oI2) :: (I1, oI1) :: (C, oC) :: (D, lst ys) :: nw') ∧ (∀ p ∈ nw', p.1 ≠ I2 ∧ p.1 ≠ I1 ∧ p.1 ≠ C ∧ p.1 ≠ D) ∧ J i (j + 1) (ys ++ [u]) nw') E' { s with heap := h, toks := tk })
    (fin : ∀ D h tk ys nw, J its1.size 0 ys nw → Fr h₀ env.locals h (fun z => if z = y then some (.ref D) else m z) → News h₀ env.locals h ((D, lst ys) :: nw) → (∀ p ∈ nw, p.1 ≠ D) → Q .next { s with heap := h, toks := tk })
    (hs : ∀ x, foldedSetIterable i1 env x = pure x := by intro _; rfl) (hs2 : ∀ C x, foldedSetIterable i2 (compEnvC scope cl C env) x = pure x := by intro _ _; rfl) :
    wpAny (model prog w) A (exec (.Assign [.Name y py] (comp2 elt (.Name x1 p1) i1 (.Name x2 p2) i2 scope pos) spos) env) Q E s := by
  rw [exec_Assign_Name_used _ _ _ _ hsw]
  refine wpAny_bind (wpAny_standAt (wpAny_bind ?_))
  show wpAny _ A (do let _ ← comprehension (comp2 elt (.Name x1 p1) i1 (.Name x2 p2) i2 scope pos) scope env _ (newList []) false (eval i1 env) (some (assign (.Name y py) env))) _ _ s
  refine wpAny_bind (wpAny_mono (wpAny_comprehension_free (use := some (assign (.Name y py) env)) (Q := fun _ s' => Q .next s') rfl hs hclos hkind hnames
    (wpAny_mono hit1 (fun xv s₁ h₁ => ?_) fun _ _ e => e)) (fun _ s' hq => wpAny_pure (wpAny_pure hq)) fun _ _ e => e)
  obtain ⟨rfl, rfl⟩ := h₁
  have hl1 : s₁.heap.get? l1 = some (W.listOf its1 k1) := (N _ (hS1 _ _ _ _ hJ0)).1
  refine wpAny_pyIter_list ⟨_, hl1, rfl, _, rfl⟩ ?_
  refine wpAny_newObj_type (wpAny_newFunctionEnv hcell (by intro y hy; simp at hy) (fun h₁ hns₁ hsb₁ => ?_) hkind)
  dsimp only at hns₁ hsb₁ ⊢
  generalize hHI : s₁.heap.push { cls := .type "list_iterator", data := .fields #[.ref l1, .int 0 0] } = HI at hns₁ hsb₁ ⊢
  generalize hH2 : HI.push { cls := .type "list", dict := none, data := .seq ([] : List Value).toArray } = H2 at hns₁ hsb₁ ⊢
  have hI : HI.objs.size = s₁.heap.objs.size + 1 := by rw [← hHI, Heap.size_push]
  have hC : H2.objs.size = s₁.heap.objs.size + 2 := by rw [← hH2, Heap.size_push, hI]
  have fresh : ∀ a : Addr, @LE.le Nat _ s₁.heap.objs.size a → h₀.get? a = none := fun a ha => by
    cases e : h₀.get? a with
    | none => rfl
    | some o' => exact absurd (Heap.lt_size (F.keep a o' e)) (Nat.not_lt.mpr ha)
  have below : ∀ b o, s₁.heap.get? b = some o → @LT.lt Nat _ b s₁.heap.objs.size := fun b o e => Heap.lt_size e
  have uI : ∀ b o, s₁.heap.get? b = some o → HI.get? b = some o := fun b o e => by rw [← hHI]; exact Heap.get?_push_of_some _ e
  have u2 : ∀ b o, HI.get? b = some o → H2.get? b = some o := fun b o e => by rw [← hH2]; exact Heap.get?_push_of_some _ e
  have vI : HI.get? s₁.heap.objs.size = some { cls := .type "list_iterator", data := .fields #[.ref l1, .int 0 0] } := by rw [← hHI]; exact Heap.get?_push_size _ rfl
  have v2 : H2.get? HI.objs.size = some (lst []) := by rw [← hH2]; exact Heap.get?_push_size _ rfl
  have old : ∀ b o, s₁.heap.get? b = some o → h₁.get? b = some o := fun b o e => by
    have hb := below b o e
    refine hsb₁.extBut b o ?_ (Heap.get?_push_of_some _ (u2 _ _ (uI _ _ e)))
    show ¬ (@Eq Nat b H2.objs.size)
    rw [hC]; omega
  have hacc : h₁.get? HI.objs.size = some (lst []) := by
    refine hsb₁.extBut _ _ ?_ (Heap.get?_push_of_some _ v2)
    show ¬ (@Eq Nat HI.objs.size H2.objs.size)
    rw [hC, hI]; omega
  have hitI : h₁.get? s₁.heap.objs.size = some { cls := .type "list_iterator", data := .fields #[.ref l1, .int 0 0] } := by
    refine hsb₁.extBut _ _ ?_ (Heap.get?_push_of_some _ (u2 _ _ vI))
    show ¬ (@Eq Nat s₁.heap.objs.size H2.objs.size)
    rw [hC]; omega
  have hLlt : @LT.lt Nat _ env.locals s₁.heap.objs.size := F.ns.lt
  have nID : s₁.heap.objs.size ≠ HI.objs.size := by show ¬ (@Eq Nat _ _); rw [hI]; omega
  have nIC : s₁.heap.objs.size ≠ H2.objs.size := by show ¬ (@Eq Nat _ _); rw [hC]; omega
  have nDC : HI.objs.size ≠ H2.objs.size := by show ¬ (@Eq Nat _ _); rw [hC, hI]; omega
  have nLI : env.locals ≠ s₁.heap.objs.size := by show ¬ (@Eq Nat _ _); omega
  have nLD : env.locals ≠ HI.objs.size := by show ¬ (@Eq Nat _ _); rw [hI]; omega
  have nLC : env.locals ≠ H2.objs.size := by show ¬ (@Eq Nat _ _); rw [hC]; omega
  have zI : h₀.get? s₁.heap.objs.size = none := fresh _ (Nat.le_refl _)
  have zD : h₀.get? HI.objs.size = none := fresh _ (by rw [hI]; omega)
  have zC : h₀.get? H2.objs.size = none := fresh _ (by rw [hC]; omega)
  have c0 : Cx h₀ env.locals m s₁.heap.objs.size l1 H2.objs.size HI.objs.size 0 [] news _ h₁ := ⟨⟨_, hitI, rfl, rfl⟩, F.keeps old, hns₁, fun p hp => by
      rcases List.mem_cons.mp hp with rfl | hp
      · exact ⟨hacc, Ne.symm nLD, zD⟩
      · exact ⟨old _ _ (N p hp).1, (N p hp).2⟩, fun p hp => by
      have hb := below _ _ (N p hp).1
      refine ⟨?_, ?_, ?_⟩
      · show ¬ (@Eq Nat _ _); omega
      · show ¬ (@Eq Nat _ _); rw [hC]; omega
      · show ¬ (@Eq Nat _ _); rw [hI]; omega⟩
  have hL₀ : h₀.get? env.locals = none := Heap.get?_none_of_le F.above
  clear hacc hitI old below fresh hsb₁ hns₁ hHI hH2 hI hC uI u2 vI v2 hLlt
  generalize s₁.heap.objs.size = I1 at *
  generalize HI.objs.size = D at *
  generalize H2.objs.size = C at *
  have outer : ∀ h tk m', Cx h₀ env.locals m I1 l1 C D 0 [] news m' h → codeAny (model prog w) A (.compLoop (comp2 elt (.Name x1 p1) i1 (.Name x2 p2) i2 scope pos) 0 (.ref I1) (.ref D) (compEnvC scope cl C env))
      (compPost (model prog w) A E (some (assign (.Name y py) env)) (fun _ s' => Q .next s') (.ref D) C) { s₁ with heap := h, toks := tk } := by
    intro h tk m' c
    refine loop2o (fun k s' => ∃ h tk i ys nw m', s' = { s₁ with heap := h, toks := tk } ∧ i ≤ its1.size ∧ k = its1.size + 1 - i ∧ Cx h₀ env.locals m I1 l1 C D i ys nw m' h ∧ J i 0 ys nw) ?_ (its1.size + 1)
      ⟨h, tk, 0, [], news, m', rfl, Nat.zero_le _, rfl, c, hJ0⟩ (hf := hs2 C)
    clear c
    rintro k s' E' ⟨h, tk, i, ys, nw, m', rfl, hi, rfl, c, hJ⟩
    have hl1 : h.IsList l1 its1 := ⟨_, (c.nws _ (.tail _ (hS1 _ _ _ _ hJ))).1, rfl, k1, rfl⟩
    cases hv : its1[i]? with
    | none =>
      have hii : i = its1.size := Nat.le_antisymm hi (by simpa using hv)
      subst hii
      refine wpAny_pyNext_list_end hh c.it1 hl1 hv fun h' he => ?_
      show wpAny _ A (assign (.Name y py) env (.ref D)) _ _ _
      have k' : ∀ b o, b ≠ I1 → h.get? b = some o → h'.get? b = some o := fun b o hb e => he b o hb e
      refine wpAny_assign_Name (wpAny_storeName_local hy (c.fr.ns.at' fun o e => k' _ o nLI e) (fun h₂ hn₂ hs₂ => ?_) hp)
      have k2 : ∀ b o, b ≠ I1 → b ≠ env.locals → h.get? b = some o → h₂.get? b = some o := fun b o hb hb2 e => hs₂.extBut b o hb2 (k' b o hb e)
      refine ⟨m', c.ns.at' fun o e => k2 _ o (Ne.symm nIC) (Ne.symm nLC) e, fun h'' hs'' => ?_⟩
      refine fin D h'' _ ys nw hJ ⟨hn₂.at' fun o e => hs''.extBut _ o nLC e, fun b o e => ?_, c.fr.above⟩ (fun p hp => ?_) fun p hp => (c.off p hp).2.2
      · refine hs''.extBut _ _ (fun z => by rw [z, zC] at e; cases e) (k2 b o (fun z => by rw [z, zI] at e; cases e) (fun z => by rw [z, hL₀] at e; cases e) (c.fr.keep b o e))
      · have hz : p.1 ≠ I1 ∧ p.1 ≠ C := by
          rcases List.mem_cons.mp hp with rfl | hp
          · exact ⟨Ne.symm nID, nDC⟩
          · exact ⟨(c.off p hp).1, (c.off p hp).2.1⟩
        exact ⟨hs''.extBut _ _ hz.2 (k2 _ _ hz.1 (c.nws p hp).2.1 (c.nws p hp).1), (c.nws p hp).2⟩
    | some v =>
      have hlt : i < its1.size := (Array.getElem?_eq_some_iff.mp hv).1
      refine wpAny_pyNext_list_item c.it1 hl1 hv fun h' hit' hs' => ?_
      have c1 := c.step hit' (fun b o hb e => hs'.extBut b o hb e) (Ne.symm nIC) (Ne.symm nID) nLI zI
      refine wpAny_assign_Name (wpAny_storeName_local (lookup_relabel_local hx1) c1.ns (fun h3 hn3 hs3 => ?_) (by simp [compEnvC, relabel, hkind]))
      have c2 := c1.name hn3 (fun b o hb e => hs3.extBut b o hb e) nIC nDC nLC zC
      refine wpAny_mono (hi2 C h3 _ nw i ys _ hJ (fun p hp => c2.nws p (.tail _ hp))) (fun u s4 hu => ?_) (fun _ _ e => e)
      obtain ⟨rfl, rfl⟩ := hu
      have hl2 : h3.IsList l2 its2 := h2.at fun o e => c2.fr.keep _ _ e
      refine wpAny_pyIter_list hl2 ?_
      have up : ∀ b o, h3.get? b = some o → (h3.push { cls := .type "list_iterator", data := .fields #[.ref l2, .int 0 0] }).get? b = some o := fun b o e => Heap.get?_push_of_some _ e
      have hitJ : (h3.push { cls := .type "list_iterator", data := .fields #[.ref l2, .int 0 0] }).IsListIter h3.objs.size l2 0 := ⟨_, Heap.get?_push_size _ rfl, rfl, rfl⟩
      have nw2 : ∀ b o, h3.get? b = some o → b ≠ h3.objs.size := fun b o e => Nat.ne_of_lt (Heap.lt_size e)
      have hI1o : ∃ o, h3.get? I1 = some o := ⟨_, c2.it1.choose_spec.1⟩
      have hCo : ∃ o, h3.get? C = some o := ⟨_, c2.ns.choose_spec.choose_spec.choose_spec.1⟩
      have hLo : ∃ o, h3.get? env.locals = some o := ⟨_, c2.fr.ns.choose_spec.choose_spec.choose_spec.1⟩
      have nI1 : I1 ≠ h3.objs.size := hI1o.elim fun o e => nw2 _ o e
      have nC : C ≠ h3.objs.size := hCo.elim fun o e => nw2 _ o e
      have nL : env.locals ≠ h3.objs.size := hLo.elim fun o e => nw2 _ o e
      have nD : D ≠ h3.objs.size := nw2 _ _ (c2.nws _ (.head _)).1
      have nN : ∀ p ∈ nw, p.1 ≠ h3.objs.size := fun p hp => nw2 _ _ (c2.nws p (.tail _ hp)).1
      have zJ : h₀.get? h3.objs.size = none := by
        cases e : h₀.get? h3.objs.size with
        | none => rfl
        | some o => exact absurd rfl (nw2 _ _ (c2.fr.keep _ _ e))
      have c3 : Cx h₀ env.locals m I1 l1 C D (i + 1) ys nw _ (h3.push { cls := .type "list_iterator", data := .fields #[.ref l2, .int 0 0] }) := c2.ext (fun b o _ e => up b o e) nI1 nC nD nL zJ nN
      clear c c1 c2 hl1 hl2 hn3 hs3 hit' hs' up nw2 hI1o hCo hLo
      generalize h3.objs.size = I2 at *
      generalize h3.push { cls := .type "list_iterator", data := .fields #[.ref l2, .int 0 0] } = h4 at *
      have inner : ∀ h tk ys nw m', J i 0 ys nw → Cx h₀ env.locals m I1 l1 C D (i + 1) ys nw m' h → m' x1 = some v → h.IsListIter I2 l2 0 → (∀ p ∈ nw, p.1 ≠ I2) →
          codeAny (model prog w) A (.compLoop (comp2 elt (.Name x1 p1) i1 (.Name x2 p2) i2 scope pos) 1 (.ref I2) (.ref D) (compEnvC scope cl C env))
            (fun r s₅ => match r with | .ok _ => ∃ mm, mm < its1.size + 1 - i ∧ ∃ h tk i ys nw m', s₅ = { s₁ with heap := h, toks := tk } ∧ i ≤ its1.size ∧ mm = its1.size + 1 - i ∧ Cx h₀ env.locals m I1 l1 C D i ys nw m' h ∧ J i 0 ys nw | .error _ => False)
            { s₁ with heap := h, toks := tk } := by
        intro h tk ys nw m' hJ c hm hit hnn
        refine loop2i (fun k s' => ∃ h tk j ys nw m', s' = { s₁ with heap := h, toks := tk } ∧ j ≤ its2.size ∧ k = its2.size + 1 - j ∧ Cx h₀ env.locals m I1 l1 C D (i + 1) ys nw m' h ∧ m' x1 = some v ∧ h.IsListIter I2 l2 j ∧ (∀ p ∈ nw, p.1 ≠ I2) ∧ J i j ys nw) ?_ (its2.size + 1)
          ⟨h, tk, 0, ys, nw, m', rfl, Nat.zero_le _, rfl, c, hm, hit, hnn, hJ⟩
        clear c hm hit hnn hJ
        rintro k s' E' ⟨h, tk, j, ys, nw, m', rfl, hj, rfl, c, hm, hit, hnn, hJ⟩
        have hl2 : h.IsList l2 its2 := h2.at fun o e => c.fr.keep _ _ e
        cases hu : its2[j]? with
        | none =>
          have hjj' : j = its2.size := Nat.le_antisymm hj (by simpa using hu)
          subst hjj'
          refine wpAny_pyNext_list_end hh hit hl2 hu fun h' he => ?_
          exact ⟨_, by omega, h', tk, i + 1, ys, nw, m', rfl, hlt, rfl, c.ext (fun b o hb e => he b o hb e) nI1 nC nD nL zJ hnn, hjj _ _ _ hlt hJ⟩
        | some u =>
          have hltj : j < its2.size := (Array.getElem?_eq_some_iff.mp hu).1
          refine wpAny_pyNext_list_item hit hl2 hu fun h' hit' hs' => ?_
          have c1 := c.ext (fun b o hb e => hs'.extBut b o hb e) nI1 nC nD nL zJ hnn
          refine wpAny_assign_Name (wpAny_storeName_local (lookup_relabel_local hx2) c1.ns (fun h3 hn3 hs3 => ?_) (by simp [compEnvC, relabel, hkind]))
          have c2 := c1.name hn3 (fun b o hb e => hs3.extBut b o hb e) nIC nDC nLC zC
          have hit3 : h3.IsListIter I2 l2 (j + 1) := hit'.at fun o e => hs3.extBut _ o (Ne.symm nC) e
          obtain ⟨oI1, eI1, rI1⟩ := id c2.it1
          obtain ⟨oI2, eI2, rI2⟩ := id hit3
          obtain ⟨oC, eC, hoC⟩ := ns_obj c2.ns
          refine wpAny_mono (helt i j v u ys nw I1 oI1 I2 oI2 C oC D _ h3 _ _ hlt hv hu hJ hoC (by simp [hxx, hm]) (by simp) c2.fr ?_ fun p hp => ⟨hnn p hp, (c.off p hp).1, (c.off p hp).2.1, (c.off p hp).2.2⟩) (fun y s₄ h₄ => ?_) fun _ _ e => e
          · intro p hp
            rcases List.mem_cons.mp hp with rfl | hp
            · exact ⟨eI2, Ne.symm nL, zJ⟩
            · rcases List.mem_cons.mp hp with rfl | hp
              · exact ⟨eI1, Ne.symm nLI, zI⟩
              · rcases List.mem_cons.mp hp with rfl | hp
                · exact ⟨eC, Ne.symm nLC, zC⟩
                · exact c2.nws p hp
          · obtain ⟨h₄, tk₄, nw₄, rfl, F₄, N₄, off₄, hJ₄⟩ := h₄
            have yI2 := (N₄ _ (.head _)).1
            have yI1 := (N₄ _ (.tail _ (.head _))).1
            have yC := (N₄ _ (.tail _ (.tail _ (.head _)))).1
            have yD := (N₄ _ (.tail _ (.tail _ (.tail _ (.head _))))).1
            refine append_at (hsz := by show ys.toArray.size ≤ sizeLine; rw [List.size_toArray]; exact hsz _ _ _ _ hJ) yD fun h₅ hs₅ hD₅ => ?_
            have k5 : ∀ b o, b ≠ D → h₄.get? b = some o → h₅.get? b = some o := fun b o hb e => hs₅.extBut b o hb e
            refine ⟨its2.size + 1 - (j + 1), by omega, h₅, tk₄, j + 1, ys ++ [y], nw₄, _, rfl, hltj, rfl, ⟨⟨oI1, k5 _ _ nID yI1, rI1⟩, ⟨F₄.ns.at' fun o e => k5 _ o nLD e, fun b o e => k5 b o (fun z => by rw [z, zD] at e; cases e) (F₄.keep b o e), F₄.above⟩, (hoC.ns yC).at' fun o e => k5 _ o (Ne.symm nDC) e, fun p hp => ?_, fun p hp => ⟨(off₄ p hp).2.1, (off₄ p hp).2.2.1, (off₄ p hp).2.2.2⟩⟩, by simp [hxx, hm], ⟨oI2, k5 _ _ (Ne.symm nD) yI2, rI2⟩, fun p hp => (off₄ p hp).1, hJ₄⟩
            rcases List.mem_cons.mp hp with rfl | hp
            · exact ⟨hD₅.trans (congrArg some (lst_snoc ys y)), Ne.symm nLD, zD⟩
            · exact ⟨k5 _ _ (off₄ p hp).2.2.2 (N₄ p (.tail _ (.tail _ (.tail _ (.tail _ hp))))).1, (N₄ p (.tail _ (.tail _ (.tail _ (.tail _ hp))))).2⟩
      refine start2 (by decide) (inner _ _ ys nw _ hJ c3 (by simp) hitJ nN) fun E' => ?_
      exact wpAny_pyIter_listiter hitJ (inner _ _ ys nw _ hJ c3 (by simp) hitJ nN)
  refine start2 (by decide) (outer _ _ _ c0) fun E' => ?_
  exact wpAny_pyIter_listiter c0.it1 (outer _ _ _ c0)
end
end Mine
namespace Mine
section
variable {prog : Program} {w : World} {p : Program} {loose : List Str} {mean : ExcName → Option Value} {mg mb : Str → Option Value} {A : Around} {R : Result → Shared → Prop} {s : Shared} {K : Frag}
/-- as enterK, of a def that has cells -/
theorem enterC {name qual : Str} {params : Arguments} {body : List Stmt} {scope : Scope} {dV kV doc pm cdv ct oc : Value} {an od : Option Addr} {osl : Array (Option Value)} {f : Addr} {args : Args} {binds : List (Str × Value)}
    (KX : K.In s.heap) (T : Top p loose mean mg mb s.heap)
    (ho : K.lookup f = some ⟨oc, od, .func (fnOf name qual params body scope dV kV doc pm an cdv ct), osl⟩) (hcd : codeIn K cdv qual = true) (hroom : A.depth < recursionLimit)
    (hbind : BindsTo s (fnOf name qual params body scope dV kV doc pm an cdv ct) args binds) (hkind : (binds.all fun y => scope.names.lookup y.1 == some .local || scope.names.lookup y.1 == some .cell) = true)
    (hnd : ((cellsFrom 0 scope.names []).map (·.1)).Nodup)
    (h : ∀ h₁ tk cells, Fr s.heap s.heap.objs.size h₁ (bindL (envOfC qual scope s.heap.objs.size f cdv).kindOf binds fun _ => none) → News s.heap s.heap.objs.size h₁ cells →
      CellsAre (bindC (envOfC qual scope s.heap.objs.size f cdv).kindOf binds fun _ => none) (cellsFrom (s.heap.objs.size + 1) scope.names []) cells →
      wpAny (model prog w) (A.deeper (envOfC qual scope s.heap.objs.size f cdv)) (execs body (envOfC qual scope s.heap.objs.size f cdv))
        (fun fl s' => R (.ok (.ret (match fl with | .ret v => v | _ => .none))) s')
        (fun _ _ => False)
        { s with heap := h₁, toks := tk })
    (hco : scope.isCoroutine = false := by rfl) (hgen : scope.isGenerator = false := by rfl) (hk : scope.kind = .function := by rfl) : codeAny (model prog w) A (.call (.ref f) args) R s := by
  refine codeAny_call_function (fd := fnOf name qual params body scope dV kV doc pm an cdv ct) (body := body) hroom (KX _ _ ho) rfl hco hgen rfl (codeRec_of KX hcd) (hbind _ _ _ _ ?_)
  refine wpAny_newFunctionEnv_cells hk (kindsX hkind _) fun env' he s' x => ?_
  subst he
  refine ⟨T.nolimit.keeps x.toInCall.keep, codeAny_func ?_⟩
  obtain ⟨h₁, tk, rfl, _⟩ := x.done
  obtain ⟨cells, NC, Y⟩ := Cl.news (h₀ := s.heap) (Nat.le_refl _) fun n c hm => ⟨x.cell n c (lookup_of_mem_nodup (cellsFrom_names scope.names 0 (s.heap.objs.size + 1) [] [] rfl ▸ hnd) hm), x.above n c hm⟩
  exact wpAny_mono (h h₁ tk cells ⟨x.toInCall.ns, x.toInCall.keep, Nat.le_refl _⟩ NC Y) (fun _ _ z => z) fun _ _ z => z.elim
end
/-- what lies in a ledger -/
def Led (G : List (Addr × Obj)) : Sto := fun a o => (a, o) ∈ G
theorem Led.mono {G G' : List (Addr × Obj)} (hs : ∀ p ∈ G, p ∈ G') : ∀ a o, Led G a o → Led G' a o := fun _ _ h => hs _ h
def wordsP (ts : List Int) : Nat → List (List Int)
  | 0 => [[]]
  | d + 1 => (wordsP ts d).flatMap fun w => ts.map fun t => w ++ [t]
def embW (w : List Int) : PyData := .list (w.map fun t => .list [.int t])
def wpart (ts : List Int) (W : List (List Int)) (i j : Nat) : List (List Int) := (W.take i).flatMap (fun w => ts.map fun t => w ++ [t]) ++ W[i]?.toList.flatMap fun w => (ts.take j).map fun t => w ++ [t]
theorem wpart_next {ts : List Int} {W : List (List Int)} {i : Nat} : wpart ts W i ts.length = wpart ts W (i + 1) 0 := by
  unfold wpart
  rw [List.take_add_one, List.flatMap_append, List.take_length]
  simp
theorem wpart_step {ts : List Int} {W : List (List Int)} {i j : Nat} {w : List Int} {t : Int} (hw : W[i]? = some w) (ht : ts[j]? = some t) : wpart ts W i (j + 1) = wpart ts W i j ++ [w ++ [t]] := by
  unfold wpart
  rw [hw, List.take_add_one, ht]
  simp
theorem wpart_all {ts : List Int} {W : List (List Int)} : wpart ts W W.length 0 = W.flatMap fun w => ts.map fun t => w ++ [t] := by
  unfold wpart
  simp
theorem wordsP_len (ts : List Int) : ∀ d, (wordsP ts d).length = ts.length ^ d
  | 0 => rfl
  | d + 1 => by
    have key : ∀ l : List (List Int), (l.flatMap fun w => ts.map fun t => w ++ [t]).length = l.length * ts.length := by
      intro l
      induction l with
      | nil => simp
      | cons x r ih => rw [List.flatMap_cons, List.length_append, ih, List.length_map, List.length_cons, Nat.succ_mul, Nat.add_comm]
    rw [wordsP, key, Nat.pow_succ, wordsP_len ts d]
theorem wordsP_le {ts : List Int} {d : Nat} (h : ts.length ≤ 4) (hd : d ≤ 4) : (wordsP ts d).length ≤ 256 := by
  rw [wordsP_len]
  exact Nat.le_trans (Nat.pow_le_pow_left h d) (Nat.pow_le_pow_right (by decide) hd)
theorem wordsP_mem {ts : List Int} : ∀ {d : Nat} {w : List Int}, w ∈ wordsP ts d → w.length = d
  | 0, w, h => by rw [wordsP, List.mem_singleton] at h; rw [h]; rfl
  | d + 1, w, h => by
    rw [wordsP, List.mem_flatMap] at h
    obtain ⟨u, hu, h⟩ := h
    obtain ⟨t, _, rfl⟩ := List.mem_map.mp h
    rw [List.length_append, wordsP_mem hu]; rfl
section
local macro_rules | `(tactic| walk_at "exec For Name Call cons nil") => `(tactic| refine Hold.out ?_)
local macro_rules | `(tactic| walk_at "pyIter ref") => `(tactic| refine Hold.out ?_)
local macro_rules | `(tactic| walk_at "binaryOp Add ref ref") => `(tactic| refine Hold.out ?_)
theorem words_spec {prog : Program} {w : World} {mean : ExcName → Option Value} {mg mb : Str → Option Value} {A : Around} {R : Result → Shared → Prop} {s : Shared} {v : Value} {ts : List Int} {d : Nat} {dt : Tok}
    (hh : A.handled = none) (hdep : A.depth + 8 < recursionLimit) (hu : A.units + 200 < cLine) (KX : (hd.heap_39 w.params).In s.heap) (T : Top VW LS mean mg mb s.heap)
    (rv : InL (fun a o => s.heap.get? a = some o) v (.list (ts.map .int))) (hd4 : d ≤ 4) (hts : ts.length ≤ 4)
    (ret : ∀ a ws k G h' tk, s.heap.StaysIn h' → (∀ p ∈ G, h'.get? p.1 = some p.2 ∧ s.heap.get? p.1 = none) → (a, W.listOf ws k) ∈ G → InLs (Led G) ws.toList ((wordsP ts d).map embW) → R (.ok (.ret (.ref a))) { s with heap := h', toks := tk }) :
    codeAny (model prog w) A (.call (.ref 165) ⟨[v, .int (d : Int) dt], []⟩) R s := by
  obtain ⟨hdl, dp, fr, gd, un'⟩ := A
  obtain rfl : hdl = none := hh
  have hu0 : un' + 200 < cLine := hu
  have hd0 : dp + 8 < recursionLimit := hdep
  have e1 : codeIn (hd.heap_39 w.params) (.ref 164) (Str.ofString "_law_words") = true := by rfl
  refine enterC (K := hd.heap_39 w.params) (binds := [(Str.ofString "tickets", v), (Str.ofString "draws", .int (d : Int) dt)]) KX T rfl e1 (by show dp < _; omega) ?hb (by rfl) (by decide) fun h₁ tk cells F N X => ?_
  case hb => exact BindsTo.of_eq rfl
  obtain ⟨ax, vs, n, rfl, p1, p4⟩ := rv.ofList
  have X1 : CellsAre (fun y => if y = Str.ofString "tickets" then some (.ref ax) else none) [(Str.ofString "tickets", s.heap.objs.size + 1)] cells := X
  obtain ⟨oc, rfl, hoc⟩ := X1.one
  have F1 : Fr s.heap s.heap.objs.size h₁ (fun y => if y = Str.ofString "draws" then some (.int (d : Int) dt) else none) := F
  simp only [if_true] at hoc
  clear F X X1
  k_steps
  unfold Hold
  rename Fr _ _ _ _ => F4
  (with_unfolding_all refine' For_invVF F4 ?k1 ?k2 ?_; (case k1 => exact rfl); (case k2 => exact rfl); k_whole)
  k_steps
  unfold Hold
  rename Fr _ _ _ _ => F5
  rename News _ _ _ _ => N5
  rename IsRange _ _ _ _ _ _ _ _ => hR1
  rename_i l0 _ lt0 l1 _ lt1 _ _ _ _ _ _ _ _ _
  have hLL : s.heap.objs.size + 1 ≠ s.heap.objs.size := by omega
  refine iter_rng (n := ((d : Int) - 0).toNat) (fun i m nw => ∃ wl ws k, (wl, W.listOf ws k) ∈ nw ∧ (s.heap.objs.size + 1, oc) ∈ nw ∧ InLs (Led nw) ws.toList ((wordsP ts i).map embW) ∧ Has m [(Str.ofString "words", .ref wl), (Str.ofString "draws", .int (d : Int) dt)])
    rfl hR1 (small_one (by omega) (by omega) (by omega) (by omega)) (rangeSize_nat _ _) F5 N5 ?hJ0 ?hturn ?hdone
  case hJ0 =>
    refine ⟨_, _, _, .head _, .tail _ (.tail _ (.head _)), .cons (.list (.tail _ (.head _)) .nil) .nil, rfl, rfl, trivial⟩
  case hdone =>
    rintro m₁ nw h tk ⟨wl, ws, k, hw, hcell, hW, hm⟩ F6 N6
    rw [hm.put] at F6
    dsimp only [putAll] at F6
    have hdd : ((d : Int) - 0).toNat = d := by omega
    rw [hdd] at hW
    clear F5 N5
    k_steps
    exact ret wl ws k nw _ _ F6.keep (fun p hp => ⟨(N6 p hp).1, (N6 p hp).2.2⟩) hw hW
  case hturn =>
    rintro i tt m₁ nw h tk I oI hi ⟨wl, ws, k, hw, hcell, hW, hm⟩ off F6 N6
    rw [hm.store] at F6
    dsimp only [putAll] at F6
    clear F5 N5
    have hwl : (wordsP ts i).length ≤ 256 := wordsP_le hts (by omega)
    have hwsz : ws.size = (wordsP ts i).length := by have := hW.length; simpa using this
    have hvs : vs.size = ts.length := by have := p4.length; simpa using this
    refine wpAny_execs_cons ?_
    refine assign_comp2 (h₀ := s.heap) (l1 := wl) (l2 := ax) (its1 := ws) (its2 := vs) (k1 := k) (cl := [(Str.ofString "tickets", s.heap.objs.size + 1)])
      (fun i' j ys nw' => i' ≤ ws.size ∧ j ≤ vs.size ∧ ys.length = i' * vs.size + j ∧ ∃ nx, nw' = (I, oI) :: nx ∧ (∀ p ∈ nx, p.1 ≠ I) ∧ (∀ p ∈ nw, p ∈ nx) ∧ InLs (Led nx) ys ((wpart ts (wordsP ts i) i' j).map embW))
      rfl ?hclos ?hcellz rfl ?hnames rfl rfl (by decide) rfl rfl rfl ?hit1 F6 N6 ?hj0 ?hS1 ⟨_, p1, rfl, _, rfl⟩ ?hsz ?hjj ?hi2 ?helt ?hfin
    case hclos => rfl
    case hcellz => decide
    case hnames => decide
    case hit1 =>
      k_steps
    case hj0 =>
      exact ⟨Nat.zero_le _, Nat.zero_le _, by simp, nw, rfl, off, fun _ h => h, by
        have : wpart ts (wordsP ts i) 0 0 = [] := by unfold wpart; simp
        rw [this]; exact .nil⟩
    case hS1 =>
      rintro _ _ _ _ ⟨_, _, _, nx, rfl, _, hsub, _⟩
      exact .tail _ (hsub _ hw)
    case hsz =>
      rintro i' j ys _ ⟨h1, h2, h3, _⟩
      rw [h3, sizeLine_eq]
      have : i' * vs.size ≤ 256 * 4 := Nat.mul_le_mul (by omega) (by omega)
      omega
    case hjj =>
      rintro i' ys _ hlt ⟨h1, h2, h3, nx, rfl, h4, h5, h6⟩
      refine ⟨hlt, Nat.zero_le _, by rw [h3, Nat.succ_mul]; rfl, nx, rfl, h4, h5, ?_⟩
      rw [← wpart_next, ← hvs]
      exact h6
    case hi2 =>
      rintro C h' tk' _ i' ys E' ⟨_, _, _, nx, rfl, _, h5, _⟩ N7
      exact wpAny_Name (wpAny_loadName_cell rfl rfl (c := s.heap.objs.size + 1) rfl ⟨oc, (N7 _ (.tail _ (h5 _ hcell))).1, hoc⟩ ⟨rfl, rfl⟩) (by decide)
    case hfin =>
      rintro D h' tk' ys _ ⟨h1, h2, h3, nx, rfl, h4, h5, h6⟩ F7 N7 offD
      k_steps
      refine ⟨_, _, _, (D, lst ys) :: nx, rfl, F7, fun p hp => N7 p ?_, fun p hp => ?_, D, ys.toArray, ys.length, .head _, .tail _ (h5 _ hcell), ?_, rfl, rfl, trivial⟩
      · rcases List.mem_cons.mp hp with rfl | hp
        · exact .tail _ (.head _)
        · rcases List.mem_cons.mp hp with rfl | hp
          · exact .head _
          · exact .tail _ (.tail _ hp)
      · rcases List.mem_cons.mp hp with rfl | hp
        · exact Ne.symm (offD _ (.head _))
        · exact h4 p hp
      · rw [hwsz, wpart_all] at h6
        exact h6.mono (Led.mono fun _ hp => .tail _ hp)
    case helt =>
      rintro i' j v1 v2 ys _ I1 oI1 I2 oI2 C oC D m₂ h' tk' E' hlt hv1 hv2 ⟨h1, h2, h3, nx, rfl, h4, h5, h6⟩ hC hm1 hm2 F7 N7 off7
      obtain ⟨dw, hdw, hDw⟩ := hW.get (i := i') (v := v1) (by simpa using hv1)
      obtain ⟨w1, hw1, rfl⟩ : ∃ w1, (wordsP ts i)[i']? = some w1 ∧ dw = embW w1 := by
        rw [List.getElem?_map] at hdw
        cases e : (wordsP ts i)[i']? with
        | none => rw [e] at hdw; cases hdw
        | some z => rw [e] at hdw; exact ⟨z, rfl, (Option.some.inj hdw).symm⟩
      obtain ⟨b, bs, bk, rfl, hb, hbs⟩ := InL.ofList (xs := w1.map fun t => .list [.int t]) hDw
      obtain ⟨dt2, hdt2, hDt⟩ := p4.get (i := j) (v := v2) (by simpa using hv2)
      obtain ⟨t1, ht1, rfl⟩ : ∃ t1, ts[j]? = some t1 ∧ dt2 = .int t1 := by
        rw [List.getElem?_map] at hdt2
        cases e : ts[j]? with
        | none => rw [e] at hdt2; cases hdt2
        | some z => rw [e] at hdt2; exact ⟨z, rfl, (Option.some.inj hdt2).symm⟩
      obtain ⟨tok, rfl⟩ := hDt.ofInt
      have hjv : j < vs.size := (Array.getElem?_eq_some_iff.mp hv2).1
      have hbl : bs.size = w1.length := by have := hbs.length; simpa using this
      have hwl1 : w1.length = i := wordsP_mem (List.mem_of_getElem? hw1)
      have hb7 : h'.get? b = some (W.listOf bs bk) := by
        exact (N7 _ (.tail _ (.tail _ (.tail _ (.tail _ (.tail _ (h5 _ hb))))))).1
      have hbL : b ≠ s.heap.objs.size := by
        exact (N6 _ (.tail _ hb)).2.1
      k_steps
      unfold Hold
      rename Fr _ _ _ _ => F8
      rename News _ _ _ _ => N8
      rename_i l3 h8a q3 l4 h8 q4
      have hb8 : h8.get? b = some (W.listOf bs bk) := by
        exact (N8 _ (.tail _ (.tail _ (.tail _ (.tail _ (.tail _ (.tail _ (.tail _ (h5 _ hb))))))))).1
      refine add_lists (vs := bs.toList) (ws := [.ref l3]) F8 N8 ⟨_, hb8, rfl, bk, by simp⟩ ⟨_, (N8 _ (.head _)).1, rfl, 0, rfl⟩ (fun h9 F9 N9 => ?_) (by rw [sizeLine_eq]; simp; omega)
      have lt8 : ∀ p ∈ (l4, W.listOf #[Value.ref l3] 0) :: (l3, W.listOf #[Value.int t1 tok] 0) :: (I2, oI2) :: (I1, oI1) :: (C, oC) :: (D, lst ys) :: (I, oI) :: nx, @LT.lt Nat _ p.1 h8.objs.size := fun p hp => Heap.lt_size (N8 p hp).1
      have z2 := lt8 _ (.tail _ (.tail _ (.head _)))
      have z1 := lt8 _ (.tail _ (.tail _ (.tail _ (.head _))))
      have zC := lt8 _ (.tail _ (.tail _ (.tail _ (.tail _ (.head _)))))
      have zD := lt8 _ (.tail _ (.tail _ (.tail _ (.tail _ (.tail _ (.head _))))))
      have zI := lt8 _ (.tail _ (.tail _ (.tail _ (.tail _ (.tail _ (.tail _ (.head _)))))))
      obtain ⟨y1, y2, y3, y4, y5, -⟩ := q3
      obtain ⟨u0, u1, u2, u3, u4, u5, -⟩ := q4
      have hsub : ∀ p ∈ nx, p ∈ (h8.objs.size, ({ cls := .type "list", data := .seq (bs.toList ++ [Value.ref l3]).toArray } : Obj)) :: (l4, W.listOf #[Value.ref l3] 0) :: (l3, W.listOf #[Value.int t1 tok] 0) :: nx := fun p hp => .tail _ (.tail _ (.tail _ hp))
      refine ⟨h9, _, (I, oI) :: (h8.objs.size, { cls := .type "list", data := .seq (bs.toList ++ [Value.ref l3]).toArray }) :: (l4, W.listOf #[Value.ref l3] 0) :: (l3, W.listOf #[Value.int t1 tok] 0) :: nx, rfl, F9, fun p hp => N9 p ?_, fun p hp => ?_, Nat.le_of_lt hlt, hjv, ?_, _, rfl, fun p hp => ?_, fun p hp => hsub p (h5 p hp), ?_⟩
      · simp only [List.mem_cons] at hp ⊢
        rcases hp with h | h | h | h | h | h | h | h | h <;> simp [h]
      · rcases List.mem_cons.mp hp with rfl | hp
        · exact off7 _ (.head _)
        · rcases List.mem_cons.mp hp with rfl | hp
          · exact ⟨Nat.ne_of_gt z2, Nat.ne_of_gt z1, Nat.ne_of_gt zC, Nat.ne_of_gt zD⟩
          · rcases List.mem_cons.mp hp with rfl | hp
            · exact ⟨Nat.ne_of_gt u1, Nat.ne_of_gt u2, Nat.ne_of_gt u3, Nat.ne_of_gt u4⟩
            · rcases List.mem_cons.mp hp with rfl | hp
              · exact ⟨Nat.ne_of_gt y1, Nat.ne_of_gt y2, Nat.ne_of_gt y3, Nat.ne_of_gt y4⟩
              · exact off7 _ (.tail _ hp)
      · rw [List.length_append, h3]; rfl
      · rcases List.mem_cons.mp hp with rfl | hp
        · exact Nat.ne_of_gt zI
        · rcases List.mem_cons.mp hp with rfl | hp
          · exact Nat.ne_of_gt u5
          · rcases List.mem_cons.mp hp with rfl | hp
            · exact Nat.ne_of_gt y5
            · exact h4 p hp
      · rw [wpart_step hw1 ht1, List.map_append]
        refine (h6.mono (Led.mono hsub)).append (.cons ?_ .nil)
        refine InL.list (n := 0) (vs := (bs.toList ++ [Value.ref l3]).toArray) (.head _) ?_
        show InLs _ (bs.toList ++ [Value.ref l3]) ((w1 ++ [t1]).map fun t => .list [.int t])
        rw [List.map_append]
        exact (hbs.mono (Led.mono fun p hp => hsub p (h5 p hp))).append (.cons (.list (.tail _ (.tail _ (.head _))) (.cons (.int t1 tok) .nil)) .nil)
end
end Mine
namespace Mine
section
variable {prog : Program} {w : World} {A : Around} {E : Value → Shared → Prop} {s : Shared} {h : Heap}
theorem gi150 (KX : (hd.heap_39 w.params).In h) : Looks (model prog w) h (typeLookup (.ref 150) "__getitem__") (some (.builtin "tuple.__getitem__")) := Looks.of_peek KX (by kernel_rfl)
theorem sk150 (KX : (hd.heap_39 w.params).In h) : Looks (model prog w) h (seqItemTypes.anyM fun n => isSubtype (.ref 150) (.type n)) false := Looks.of_peek KX (by kernel_rfl)
theorem bt_gi : typeOf (.builtin "tuple.__getitem__") = pure (.type "wrapper_descriptor") := by show builtinType _ = _; rw [builtinType_eq_fast]; kernel_rfl
theorem item150 {value slice : Expr} {x dx : Addr} {a b v r : Value} {k : Nat} {u : Tok} {Q : Value → Shared → Prop} (KX : (hd.heap_39 w.params).In s.heap) (hx : s.heap.get? x = some (mmO dx a b v)) (hk : (#[a, b, v] : Array Value)[k]? = some r) (h : Q r s)
    (hs : subscripted slice false (.ref x) (.int (k : Int) u) = operate [.ref x, .int (k : Int) u] (getItem (.ref x) (.int (k : Int) u)) := by with_unfolding_all rfl) (hg : ∀ r, letTemporaryGo value (.ref x) r = pure () := by intro _; with_unfolding_all rfl) :
    wpAny (model prog w) A (subscriptTail value slice (.ref x) (.int (k : Int) u)) Q E s := by
  have hk3 : k < 3 := (Array.getElem?_eq_some_iff.mp hk).1
  unfold subscriptTail
  refine wpAny_bind ?_
  rw [getitemInPython_of_ne (o := .ref x) (by intro e; cases e)]
  refine wpAny_bind (wpAny_bind (wpAny_typeOf_ref hx ((gi150 KX).here ?_)))
  have body : ∀ {A' : Around} {P : Fin → Shared → Prop} {E' : Value → Shared → Prop}, P (.done (.ret r)) s → wpAny (model prog w) A' (Builtin.«tuple.__getitem__» ⟨[.ref x, .int (k : Int) u], []⟩) P E' s := fun {A' P E'} hP => by
    unfold Builtin.«tuple.__getitem__»
    show wpAny _ _ (Builtin.Tuple.tupleItemsOf (.ref x) >>= _) _ _ s
    refine wpAny_bind ?_
    unfold Builtin.Tuple.tupleItemsOf
    refine wpAny_bind (wpAny_seqItems hx rfl (wpAny_pure ?_))
    refine wpAny_bind (wpAny_typeOf (typeIs_int s k u) ?_)
    rw [if_neg (by decide)]
    refine wpAny_bind (wpAny_specialOf (T := "int") (typeIs_int s k u) int_index ?_)
    rw [if_neg (by simp)]
    refine wpAny_bind (wpAny_of_eq (a := (k : Int)) rfl ?_)
    rw [if_neg (by simp only [Bool.or_eq_true, decide_eq_true_eq]; omega)]
    have hj : seqIndex? (k : Int) 3 = some k := by
      unfold seqIndex?
      simp
      omega
    show wpAny _ _ (match (seqIndex? (k : Int) 3).bind (#[a, b, v][·]?) with | some x => ret x | none => _) _ _ _
    rw [hj]
    simp only [Option.bind_some, hk]
    exact wpAny_pure hP
  have fin : wpAny (model prog w) A (subscripted slice false (.ref x) (.int (k : Int) u)) (fun r s₃ => wpAny (model prog w) A (letTemporaryGo value (.ref x) r >>= fun _ => pure r) Q E s₃) E s := by
    rw [hs]
    refine wpAny_operating ?_
    unfold getItem
    refine wpAny_holding ?_
    refine wpAny_bind ?_
    unfold sequenceKey
    refine wpAny_bind (wpAny_typeOf_ref hx ?_)
    dsimp only
    refine wpAny_bind ((sk150 KX).here ?_)
    refine wpAny_ite_true (by decide) ?_
    refine wpAny_pure ?_
    refine wpAny_bind ?_
    unfold callSpecial?
    refine wpAny_bind (wpAny_bind (wpAny_typeOf_ref hx ((gi150 KX).here ?_)))
    dsimp only
    refine wpAny_holding ?_
    refine wpAny_bind ?_
    unfold bindSpecial
    refine wpAny_bind (wpAny_of_eq bt_gi ?_)
    refine wpAny_ite_true (by decide) ?_
    refine wpAny_pure ?_
    dsimp only
    refine wpAny_bind (wpAny_call (codeAny_call_builtin (by decide +kernel) PySem.F.entry_tuple_getitem ?_))
    have hk1 : builtinKind "tuple.__getitem__" = some .slot := by decide +kernel
    have hk2 : splitId "tuple.__getitem__" = some ("tuple", "__getitem__") := by decide +kernel
    have ha := PySem.F.args_tuple_getitem_2 (.ref x) (.int (k : Int) u)
    simp only [checkBuiltinCall, hk1, hk2]
    refine wpAny_bind ?_
    unfold isInstance
    refine wpAny_bind (wpAny_typeOf_ref hx ((sub150 KX).here ?_))
    simp only [Bool.not_true, Bool.false_eq_true, if_false]
    cases hsig : Manifest.signature? "tuple.__getitem__" with
    | none =>
      refine wpAny_pure ?_
      exact body (wpAny_pure (wpAny_pure (wpAny_bind (wpAny_of_eq (hg r) (wpAny_pure h)))))
    | some sig =>
      simp only [argsOk, hsig] at ha
      have h2 : Bind.checkArgs "tuple.__getitem__" sig ⟨[.ref x, .int (k : Int) u], []⟩ = pure () := ha
      show wpAny _ _ (Bind.checkArgs "tuple.__getitem__" sig ⟨[.ref x, .int (k : Int) u], []⟩) _ _ s
      rw [h2]
      refine wpAny_pure ?_
      exact body (wpAny_pure (wpAny_pure (wpAny_bind (wpAny_of_eq (hg r) (wpAny_pure h)))))
  first
    | exact wpAny_pure (wpAny_bind fin)
    | exact wpAny_bind (wpAny_pure (wpAny_bind fin))
    | exact wpAny_bind fin
end
end Mine
namespace Mine
theorem eqv_letter (a b : Int) : PyData.eqv (letterD a) (letterD b) = decide (a = b) := by
  show (PyData.eqvAll [.int a] [.int b]) = _
  simp only [PyData.eqvAll, PyData.eqv, Bool.and_true]
  rw [Bool.eq_iff_iff]; simp
theorem eqvAll_letters : ∀ a b : List Int, PyData.eqvAll (a.map letterD) (b.map letterD) = decide (a = b)
  | [], [] => rfl
  | [], _ :: _ => by simp [PyData.eqvAll]
  | _ :: _, [] => by simp [PyData.eqvAll]
  | x :: a, y :: b => by
    simp only [List.map_cons, PyData.eqvAll, eqv_letter, eqvAll_letters a b, List.cons.injEq, Bool.decide_and]
theorem eqv_word (a b : List Int) : PyData.eqv (embW a) (embW b) = decide (a = b) := eqvAll_letters a b
theorem dedupP_map {α : Type} [DecidableEq α] (emb : α → PyData) (heq : ∀ a b, PyData.eqv (emb a) (emb b) = decide (a = b)) (xs : List α) : dedupP (xs.map emb) = (dedupT xs).map emb := by
  have key : ∀ (xs acc : List α), (xs.map emb).foldl putNew (acc.map emb) = (xs.foldl (fun acc x => if x ∈ acc then acc else acc ++ [x]) acc).map emb := by
    intro xs
    induction xs with
    | nil => intro acc; rfl
    | cons x r ih =>
      intro acc
      rw [List.map_cons, List.foldl_cons, List.foldl_cons, ← ih]
      congr 1
      unfold putNew
      have : ((acc.map emb).any fun y => PyData.eqv y (emb x)) = decide (x ∈ acc) := by
        rw [List.any_map]
        rw [Bool.eq_iff_iff]
        simp only [List.any_eq_true, Function.comp, heq, decide_eq_true_eq]
        constructor
        · rintro ⟨y, hy, rfl⟩; exact hy
        · intro h; exact ⟨x, h, rfl⟩
      rw [this]
      by_cases h : x ∈ acc <;> simp [h]
  exact key xs []
def ordersP (ts : List Int) (d : Nat) : List (List Int) := (wordsP ts d).map dedupT
def drawsP (ts : List Int) : Nat := if ts.length = 2 then 4 else 3
def ticketsP (ns : List Int) : List Int := [0, 1] ++ (ns.take 2).map (·.fmod 3)
def goodP (ts : List Int) : Bool := (rowsT (ordersP ts (drawsP ts))).all (fun p => decide (waysP ts p.2 (drawsP ts) = (p.1 : Int)) && decide (p.2.length ≤ drawsP ts)) && decide (((rowsT (ordersP ts (drawsP ts))).map fun p => (p.1 : Int)).sum = ((ts.length ^ drawsP ts : Nat) : Int))
theorem good0 : goodP [0, 1] = true := by decide +kernel
theorem good1 : ∀ a ∈ [(0 : Int), 1, 2], goodP [0, 1, a] = true := by decide +kernel
theorem good2 : ∀ a ∈ [(0 : Int), 1, 2], ∀ b ∈ [(0 : Int), 1, 2], goodP [0, 1, a, b] = true := by decide +kernel
theorem mod3_mem (a : Int) : a.fmod 3 ∈ [(0 : Int), 1, 2] := by
  have h1 := Int.fmod_nonneg_of_pos a (show (0 : Int) < 3 by decide)
  have h2 := Int.fmod_lt_of_pos a (show (0 : Int) < 3 by decide)
  have : a.fmod 3 = 0 ∨ a.fmod 3 = 1 ∨ a.fmod 3 = 2 := by omega
  rcases this with h | h | h <;> rw [h] <;> decide
theorem good_all (ns : List Int) : goodP (ticketsP ns) = true := by
  unfold ticketsP
  match ns with
  | [] => exact good0
  | [a] => exact good1 _ (mod3_mem a)
  | a :: b :: r => exact good2 _ (mod3_mem a) _ (mod3_mem b)
theorem tickets_len (ns : List Int) : 2 ≤ (ticketsP ns).length ∧ (ticketsP ns).length ≤ 4 := by
  unfold ticketsP
  rw [List.length_append, List.length_map, List.length_take]
  simp
  omega
end Mine
namespace Mine
section
variable {prog : Program} {w : World} {A : Around} {h₀ : Heap} {L : Addr} {m : Str → Option Value} {env : Env} {elt : Expr} {x : Str} {scope : Scope} {cl : List (Str × Addr)} {s : Shared} {S : List (Addr × Obj) → Prop} {P : Nat → Value → Prop} {Fin : List Value → List (Addr × Obj) → Prop}
theorem rest_ind (Inv : Nat → List Value → List (Addr × Obj) → Prop) {n : Nat} {news : List (Addr × Obj)}
    (step : ∀ i ys nw v I oI C oC D m₂ h tk (E' : Value → Shared → Prop), i < n → Inv i ys nw → P i v → NsObj oC m₂ → m₂ x = some v → Fr h₀ L h m → News h₀ L h ((I, oI) :: (C, oC) :: (D, lst ys) :: nw) → Off3 I C D nw → ((@Ne Nat I C) ∧ (@Ne Nat I D) ∧ (@Ne Nat C D)) →
      wpAny (model prog w) A (eval elt (compEnvC scope cl C env)) (CompEnd h₀ L m { s with heap := h, toks := tk } I oI C oC D (lst ys) S (fun y nw' => Inv (i + 1) (ys ++ [y]) nw')) E' { s with heap := h, toks := tk })
    (fin : ∀ ys nw, Inv n ys nw → Fin ys nw) (h0 : Inv 0 [] news) : CompRest prog w A h₀ L m env elt x scope cl s S P Fin n 0 [] news := by
  have key : ∀ j i ys nw, i + j = n → Inv i ys nw → CompRest prog w A h₀ L m env elt x scope cl s S P Fin j i ys nw := by
    intro j
    induction j with
    | zero => intro i ys nw hi hI; obtain rfl : i = n := by omega
              exact CompRest.zero (fin _ _ hI)
    | succ j ih =>
      intro i ys nw hi hI
      refine CompRest.succ fun v I oI C oC D m₂ h tk E' hP hC hx F N off ne => ?_
      refine wpAny_mono (step i ys nw v I oI C oC D m₂ h tk E' (by omega) hI hP hC hx F N off ne) (fun y s₂ hh => ?_) fun _ _ e => e
      obtain ⟨h', tk', nw', e, F', N', o', hS, r⟩ := hh
      exact ⟨h', tk', nw', e, F', N', o', hS, ih _ _ _ (by omega) r⟩
  exact key n 0 [] news (by omega) h0
end
end Mine
namespace Mine
theorem carried_ints : ∀ {vs : List Value} {ns : List Int}, CarriedAll vs (ns.map .int) → IntsAre vs ns
  | _, [], .nil => .nil
  | _, n :: ns, h => by
    obtain ⟨t, vs', rfl, h'⟩ := carriedAll_int_inv h
    exact .cons n t (carried_ints h')
theorem name_ints {vs : List Value} {ns : List Int} (_ : IntsAre vs ns) : ∃ us ms, us = vs ∧ ms = ns := ⟨vs, ns, rfl, rfl⟩
theorem name_s {s : Shared} {w : World} (_ : (hd.heap_39 w.params).In s.heap) : ∃ s' w', s' = s ∧ w' = w := ⟨s, w, rfl, rfl⟩
theorem news_sub {h₀ h : Heap} {L : Addr} {news news' : List (Addr × Obj)} (N : News h₀ L h news) (k : ∀ p ∈ news', p ∈ news) : News h₀ L h news' := fun p hp => N p (k p hp)
theorem add_ints_led {prog : Program} {w : World} {A : Around} {E : Value → Shared → Prop} {s : Shared} {h₀ : Heap} {L l b : Addr} {m : Str → Option Value} {news : List (Addr × Obj)} {vs ws : List Value} {ns ms : List Int} {Q : Value → Shared → Prop} (F : Fr h₀ L s.heap m) (N : News h₀ L s.heap news) (hl : s.heap.IsList l vs.toArray) (hb : s.heap.IsList b ws.toArray)
    (hi : IntsAre vs ns) (hj : IntsAre ws ms) (h : ∀ a h', Fr h₀ L h' m → News h₀ L h' ((a, W.listOf (vs ++ ws).toArray 0) :: news) → IntsAre (vs ++ ws) (ns ++ ms) → Q (.ref a) { s with heap := h' })
    (hsz : ns.length + ms.length ≤ sizeLine) : wpAny (model prog w) A (binaryOp .Add (.ref l) (.ref b)) Q E s := add_lists_ints F N hl hb hi hj (fun h' F' N' I' => h _ h' F' N' I') hsz
theorem letters_lay (w : List Int) : PyData.canLayAll0 (w.map letterD) = true := canLayAll0_iff.mpr fun x hx => by
  obtain ⟨a, _, rfl⟩ := List.mem_map.mp hx
  rfl
theorem letters_depth (w : List Int) : PyData.depthAll (w.map letterD) ≤ 8 := depthAll_iff.mpr fun x hx => by
  obtain ⟨a, _, rfl⟩ := List.mem_map.mp hx
  show PyData.depth (.list [.int a]) ≤ 8
  simp [PyData.depth, PyData.depthAll]
theorem dedupT_le {α : Type} [DecidableEq α] (ys : List α) : (dedupT ys).length ≤ ys.length := by
  have key : ∀ (ys acc : List α), (ys.foldl (fun acc x => if x ∈ acc then acc else acc ++ [x]) acc).length ≤ acc.length + ys.length := by
    intro ys
    induction ys with
    | nil => intro acc; simp
    | cons y r ih =>
      intro acc
      rw [List.foldl_cons, List.length_cons]
      refine Nat.le_trans (ih _) ?_
      split <;> simp <;> omega
  simpa [dedupT] using key ys []
theorem RowsIn.length {α : Type} {emb : α → PyData} {P : Sto} {G : List (Addr × Obj)} : ∀ {vs : List Value} {rs : List (Nat × α)}, RowsIn emb P G vs rs → vs.length = rs.length
  | _, _, .nil => rfl
  | _, _, .cons _ _ h => by rw [List.length_cons, List.length_cons, h.length]
theorem RowsIn.get {α : Type} {emb : α → PyData} {P : Sto} {G : List (Addr × Obj)} : ∀ {vs : List Value} {rs : List (Nat × α)}, RowsIn emb P G vs rs → ∀ {i : Nat} {v : Value}, vs[i]? = some v →
    ∃ x dx c t t' e y, v = .ref x ∧ (x, mmO dx (.int ((c : Nat) : Int) t) (.int 0 t') e) ∈ G ∧ InL P e (emb y) ∧ rs[i]? = some (c, y)
  | _, _, .nil, i, v, e => by simp at e
  | _, _, .cons h1 h2 h3, i, v, e => by
    cases i with
    | zero => simp at e; subst e; exact ⟨_, _, _, _, _, _, _, rfl, h1, h2, by simp⟩
    | succ i =>
      simp at e
      obtain ⟨x, dx, c, t, t', e', y, a1, a2, a3, a4⟩ := h3.get e
      exact ⟨x, dx, c, t, t', e', y, a1, a2, a3, by simpa using a4⟩
theorem eqvAll_map {α : Type} [DecidableEq α] (emb : α → PyData) (heq : ∀ a b, PyData.eqv (emb a) (emb b) = decide (a = b)) : ∀ a b : List α, PyData.eqvAll (a.map emb) (b.map emb) = decide (a = b)
  | [], [] => rfl
  | [], _ :: _ => by simp [PyData.eqvAll]
  | _ :: _, [] => by simp [PyData.eqvAll]
  | x :: a, y :: b => by simp only [List.map_cons, PyData.eqvAll, heq, eqvAll_map emb heq a b, List.cons.injEq, Bool.decide_and]
theorem word_lay (w : List Int) : (embW w).canLay0 = true := letters_lay w
theorem word_depth (w : List Int) : (embW w).depth ≤ 8 := by
  show PyData.depth (.list (w.map letterD)) ≤ 8
  have : PyData.depthAll (w.map letterD) ≤ 2 := depthAll_iff.mpr fun x hx => by
    obtain ⟨a, _, rfl⟩ := List.mem_map.mp hx
    show PyData.depth (.list [.int a]) ≤ 2
    simp [PyData.depth, PyData.depthAll]
  simp only [PyData.depth]
  omega
theorem words_lay (l : List (List Int)) : PyData.canLayAll0 (l.map embW) = true := canLayAll0_iff.mpr fun x hx => by
  obtain ⟨a, _, rfl⟩ := List.mem_map.mp hx
  exact word_lay a
theorem words_depth (l : List (List Int)) : PyData.depthAll (l.map embW) ≤ 8 := depthAll_iff.mpr fun x hx => by
  obtain ⟨a, _, rfl⟩ := List.mem_map.mp hx
  exact word_depth a
theorem news_join {h₀ h h' : Heap} {L : Addr} {m : Str → Option Value} {news G : List (Addr × Obj)} (F : Fr h₀ L h m) (N : News h₀ L h news) (st : h.StaysIn h') (hG : ∀ p ∈ G, h'.get? p.1 = some p.2 ∧ h.get? p.1 = none) : News h₀ L h' (G ++ news) := fun p hp => by
  rcases List.mem_append.mp hp with hp | hp
  · refine ⟨(hG p hp).1, fun z => ?_, ?_⟩
    · have := (hG p hp).2
      rw [z] at this
      obtain ⟨o, _, _, e, _⟩ := F.ns
      exact absurd (this.symm.trans e) (by simp)
    · cases z : h₀.get? p.1 with
      | none => rfl
      | some o => exact absurd ((hG p hp).2.symm.trans (F.keep _ _ z)) (by simp)
  · exact N.grown st p hp
section
local macro_rules | `(tactic| walk_at "binaryOp Add ref ref") => `(tactic| refine Hold.out ?_)
local macro_rules | `(tactic| walk_at "call ref") => `(tactic| refine Hold.out ?_)
local macro_rules | `(tactic| walk_at "exec Assign cons ListComp") => `(tactic| refine Hold.out ?_)
local macro_rules | `(tactic| walk_at "exec For Name Name cons nil") => `(tactic| refine Hold.out ?_)
local macro_rules | `(tactic| walk_at "subscriptTail Name Constant ref int") => `(tactic| refine Hold.out ?_)
local macro_rules | `(tactic| walk_at "eval ListComp") => `(tactic| ((rename Has _ _ => hasX); refine Hold.out ?_))
local macro_rules | `(tactic| walk_at "eval IfExp") => `(tactic| refine Hold.out ?_)
local macro_rules | `(tactic| k_all) => `(tactic| assumption)
theorem T : PySem.Challenge.rw_ik0113_01.Holds := Mine.hd (by
  k_go0
  rename Frag.In _ _ => KX
  rename Top _ _ _ _ _ _ => TT
  rename Below _ _ _ _ => B0
  rename Fr _ _ _ _ => F0
  rename News _ _ _ _ => N0
  rename IntsAre _ _ => I0
  obtain ⟨svs, ns, e1, e2⟩ := name_ints I0
  subst e1
  subst e2
  obtain ⟨s1, wd, e1, e2⟩ := name_s KX
  subst e1
  subst e2
  k_steps
  unfold Hold
  rename Fr _ _ _ _ => F1
  rename News _ _ _ _ => N1
  rename CarriedAll _ _ => CA
  rename_i h1 l0 h2 _ D1 ws1 h3 F00 N00 hI1 hC1 hL1 lt1 D2 ys2 h4 tk4 a3 aL aP
  have I2 : IntsAre ys2 ((ns.take 2).map (·.fmod 3)) := carried_ints (by
    have := CA
    rw [show List.filter (fun _ => true) (List.take 2 ns) = List.take 2 ns from List.filter_eq_self.mpr fun _ _ => rfl] at this
    rw [List.map_map]; exact this)
  refine add_ints_led (ns := [0, 1]) (vs := [_, _]) F1 N1 ⟨_, (N1 _ (.tail _ (.head _))).1, rfl, 0, rfl⟩ aL (.cons 0 _ (.cons 1 _ .nil)) I2 (fun tl h5 F5 N5 IT => ?_) (by rw [sizeLine_eq]; simp; omega)
  have N5' := news_sub N5 (news' := [_]) (fun p hp => by rw [List.mem_singleton.mp hp]; exact .head _)
  change IntsAre _ (ticketsP ns) at IT
  generalize ([_, _] ++ ys2 : List Value) = tvs at IT N5'
  generalize hts : ticketsP ns = ts at IT
  clear N1 F1 N5 F00 N00 hI1 CA aP aL a3 I2
  have hT2 : 2 ≤ ts.length := hts ▸ (tickets_len ns).1
  have hT4 : ts.length ≤ 4 := hts ▸ (tickets_len ns).2
  have hgood : goodP ts = true := hts ▸ good_all ns
  k_steps
  unfold Hold
  rename Fr _ _ _ _ => F6
  rename News _ _ _ _ => N6
  rename_i h6
  refine wpAny_mono (Q := fun v s' => ∃ t k, v = .int (drawsP ts : Int) t ∧ s' = { s1 with heap := h6, toks := k }) (E := _) ?ev (fun v s' hv => ?_) (fun _ _ e => e)
  case ev =>
    refine IfExp_ ?_
    have hlen : tvs.length = ts.length := IT.length
    k_steps
    · have hdr : drawsP ts = 4 := by unfold drawsP; rw [if_pos (by omega)]
      rw [hdr]; rfl
    · have hdr : drawsP ts = 3 := by unfold drawsP; rw [if_neg (by omega)]
      rw [hdr]; rfl
  obtain ⟨dt, k, rfl, rfl⟩ := hv
  have hd4 : drawsP ts ≤ 4 := by unfold drawsP; split <;> omega
  generalize hd : drawsP ts = d at *
  k_steps
  unfold Hold
  rename Fr _ _ _ _ => F7
  rename News _ _ _ _ => N7
  rename_i h7
  refine wpAny_call (words_spec (ts := ts) (d := d) rfl ?_ ?_ (KX.keeps F7.keep) (TT.keeps F7.keep) (.list (N7 _ (.head _)).1 (InLs.ofInts IT)) hd4 hT4 fun wl ws wk GW h8 tk8 st8 hG hwl hW => ?_)
  · simp only [depth_deeper]; decide
  · simp only [units_deeper]; decide
  have F8 := F7.keeps st8
  have NL : @Ne Nat wl tl := fun z => by
    have := (hG _ hwl).2
    rw [show wl = tl from z, (N7 _ (.head _)).1] at this
    cases this
  have N8 : News s1.heap s1.heap.objs.size h8 ((tl, W.listOf tvs.toArray 0) :: GW) := fun p hp => by
    rcases List.mem_cons.mp hp with rfl | hp
    · exact (N7.grown st8) _ (.head _)
    · refine ⟨(hG p hp).1, fun z => ?_, ?_⟩
      · have := (hG p hp).2
        rw [z] at this
        obtain ⟨o, _, _, e, _⟩ := F7.ns
        exact absurd (this.symm.trans e) (by simp)
      · cases z : s1.heap.get? p.1 with
        | none => rfl
        | some o => exact absurd ((hG p hp).2.symm.trans (F7.keep _ _ z)) (by simp)
  clear F7 N7 st8 hG
  k_steps
  unfold Hold
  rename Fr _ _ _ _ => F9
  rename News _ _ _ _ => N9
  rename_i h9
  have hwsz : ws.size = (wordsP ts d).length := by have := hW.length; simpa using this
  have hwl256 : (wordsP ts d).length ≤ 256 := wordsP_le hT4 hd4
  have base9 : ∀ p ∈ (tl, W.listOf tvs.toArray 0) :: GW, p ∈ (tl, W.listOf tvs.toArray 0) :: GW := fun _ h => h
  refine Assign_ListComp_U F9 rfl rfl rfl (by decide) rfl (by decide) rfl rfl rfl ?hcomp
  case hcomp =>
    k_steps
    refine CompSrc.ledger rfl F9 N9 (.tail _ hwl) (by rw [sizeLine_eq]; omega) fun g => ?_
    refine rest_ind (fun i ys nw => (∀ p ∈ (tl, W.listOf tvs.toArray 0) :: GW, p ∈ nw) ∧ InLs (Led nw) ys (((wordsP ts d).take i).map fun q => embW (dedupT q))) ?step ?fin ⟨base9, .nil⟩
    case step =>
      rintro i ys nw v I oI C oC D m₂ h tk E' hi ⟨hsub, hys⟩ hv hC hx F10 N10 off ne
      obtain ⟨dw, hdw, hDw⟩ := hW.get (i := i) (v := v) (by simpa using hv)
      obtain ⟨w1, hw1, rfl⟩ : ∃ w1, (wordsP ts d)[i]? = some w1 ∧ dw = embW w1 := by
        rw [List.getElem?_map] at hdw
        cases e : (wordsP ts d)[i]? with
        | none => rw [e] at hdw; cases hdw
        | some z => rw [e] at hdw; exact ⟨z, rfl, (Option.some.inj hdw).symm⟩
      have hwl1 : w1.length = d := wordsP_mem (List.mem_of_getElem? hw1)
      k_steps
      unfold Hold
      refine wpAny_call (dedup_spec (P := Led nw) (xs := w1.map letterD) rfl ?_ ?_ (KX.keeps F10.keep) (TT.keeps F10.keep) (fun a o e => (N10 _ (.tail _ (.tail _ (.tail _ e)))).1) (hDw.mono (Led.mono fun p hp => hsub _ (.tail _ hp))) (letters_lay w1) (letters_depth w1) (by rw [List.length_map]; omega) fun b ws' n' h' tk' st hb hb0 hW' => ?_)
      · simp only [depth_deeper]; decide
      · simp only [units_deeper]; decide
      have F11 := F10.keeps st
      have N11 := News.more F11 (N10.grown st) hb (fun _ _ z => nomatch z) (by
        cases z : s1.heap.get? b with
        | none => rfl
        | some o => exact absurd (hb0.symm.trans (F10.keep _ _ z)) (by simp))
      have bne : ∀ p ∈ (I, oI) :: (C, oC) :: (D, lst ys) :: nw, b ≠ p.1 := fun p hp z => by
        have := (N10 _ hp).1
        rw [← z] at this
        exact absurd (hb0.symm.trans this) (by simp)
      refine CompEnd.intro F11 N11 ((b, listOf ws' n') :: nw) (fun p hp => ?_) ⟨⟨bne _ (.head _), bne _ (.tail _ (.head _)), bne _ (.tail _ (.tail _ (.head _)))⟩, off⟩ (.inr ⟨_, .tail _ (hsub _ (.tail _ hwl)), rfl, wk, rfl⟩) ⟨fun p hp => .tail _ (hsub p hp), ?_⟩
      · simp only [List.mem_cons] at hp ⊢
        rcases hp with h | h | h | h | h <;> simp [h]
      · rw [List.take_add_one, hw1, List.map_append]
        refine (hys.mono (Led.mono fun p hp => .tail _ hp)).append (.cons ?_ .nil)
        refine .list (.head _) ?_
        have := hW'.mono (Led.mono (G' := (b, listOf ws' n') :: nw) fun p hp => .tail _ hp)
        rw [dedupP_map letterD eqv_letter] at this
        exact this
    case fin =>
      rintro ys nw ⟨hsub, hys⟩
      rw [hwsz, List.take_length, show ((wordsP ts d).map fun q => embW (dedupT q)) = (ordersP ts d).map embW from by unfold ordersP; rw [List.map_map]; rfl] at hys
      clear F9 N9
      intro ol h10 tk10 F10 N10 off1
      k_steps
      unfold Hold
      rename Fr _ _ _ _ => F12
      rename News _ _ _ _ => N12
      rename_i el h12 _
      have hol : (ordersP ts d).length ≤ 256 := by unfold ordersP; rw [List.length_map]; exact hwl256
      refine wpAny_call (count_spec (P := Led ((el, W.listOf #[] 0) :: (ol, lst ys) :: nw)) embW word_lay word_depth eqv_word (fun a => ⟨_, rfl⟩) (ys := ordersP ts d) rfl ?_ ?_ (KX.keeps F12.keep) (TT.keeps F12.keep) (fun a o e => (N12 _ e).1)
        (.list (vs := ys.toArray) (n := ys.length) (.tail _ (.head _)) (hys.mono (Led.mono fun p hp => .tail _ (.tail _ hp)))) (.list (.head _) .nil) (by omega) fun rl rs rk G h13 tk13 st13 hG13 hR => ?_)
      · simp only [depth_deeper]; decide
      · simp only [units_deeper]; decide
      have F13 := F12.keeps st13
      have N13 := news_join F12 N12 st13 hG13
      have N14 : News s1.heap _ h13 ((rl, W.listOf rs rk) :: (G ++ (el, W.listOf #[] 0) :: (ol, lst ys) :: nw)) := N13
      clear F12 N12 N13
      obtain ⟨o1, os1, hos⟩ : ∃ o1 os1, ordersP ts d = o1 :: os1 := by
        cases h : ordersP ts d with
        | cons a b => exact ⟨a, b, rfl⟩
        | nil =>
          have := congrArg List.length h
          unfold ordersP at this
          rw [List.length_map, wordsP_len] at this
          have h2 : 0 < ts.length ^ d := Nat.pow_pos (by omega)
          exact absurd this (Nat.ne_of_gt h2)
      k_steps
      unfold Hold
      rename Fr _ _ _ _ => F15
      rename News _ _ _ _ => N15
      rename_i h15 _
      have hrs : rs.size ≤ 256 := by
        have h1 := hR.length
        have h2 : (rowsT (ordersP ts d)).length ≤ (ordersP ts d).length := by unfold rowsT; rw [List.length_map]; exact dedupT_le _
        have h3 : rs.toList.length = rs.size := by simp
        omega
      have rv : InL (St0 s1.heap ((rl, W.listOf rs rk) :: (G ++ (el, W.listOf #[] 0) :: (ol, lst ys) :: nw))) (.ref ol) (.list (embW o1 :: os1.map embW)) :=
        .list (vs := ys.toArray) (n := ys.length) (.inr (.tail _ (List.mem_append_right _ (.tail _ (.head _))))) (by
          have := hys
          rw [hos] at this
          exact this.mono fun a o h => .inr (.tail _ (List.mem_append_right _ (.tail _ (.tail _ h)))))
      refine wpAny_call (dedup2_led (cs := _) rfl rfl ?_ ?_ F15 N15 KX TT rfl rv (words_lay (o1 :: os1)) (words_depth (o1 :: os1)) (by
        have := congrArg List.length hos
        simp at this ⊢
        omega) fun b bws bn h16 tk16 F16 N16 hB => ?_)
      · simp only [depth_deeper]; decide
      · simp only [units_deeper]; decide
      clear F15 N15
      refine ListComp_U F16 rfl (by decide) rfl (by decide) rfl ?hcomp2
      k_steps
      refine CompSrc.ledger rfl F16 N16 (.tail _ (.head _)) (by rw [sizeLine_eq]; omega) fun g => ?_
      refine rest_ind (fun i zs nw' => nw' = (b, listOf bws bn) :: (rl, W.listOf rs rk) :: (G ++ (el, W.listOf #[] 0) :: (ol, lst ys) :: nw) ∧ InLs (Led ((el, W.listOf #[] 0) :: (ol, lst ys) :: nw)) zs (((rowsT (ordersP ts d)).take i).map fun q => embW q.2)) ?step2 ?fin2 ⟨rfl, .nil⟩
      case step2 =>
        rintro i zs _ v I oI C oC D m₂ h tk E' hi ⟨rfl, hzs⟩ hv hC hx F17 N17 off ne
        obtain ⟨x, dx, c, t, t', e, y, rfl, hmem, he, hrow⟩ := hR.get (i := i) (v := v) (by simpa using hv)
        refine Subscript_ ?_
        refine wpAny_Name (wpAny_loadName_local rfl rfl (hC.ns (N17 _ (.tail _ (.head _))).1) hx ?_) (by decide)
        refine wpAny_Constant_int ?_
        refine item150 (k := 2) (r := e) (dx := dx) (a := .int (c : Int) t) (b := .int 0 t') (v := e) (KX.keeps F17.keep) (N17 _ (.tail _ (.tail _ (.tail _ (.tail _ (.tail _ (List.mem_append_left _ hmem))))))).1 rfl ?_
        refine CompEnd.intro F17 N17 _ (fun p hp => hp) off (.inr ⟨_, .tail _ (.head _), rfl, rk, rfl⟩) ⟨rfl, ?_⟩
        rw [List.take_add_one, hrow, List.map_append]
        exact hzs.append (.cons he .nil)
      case fin2 =>
        rintro zs _ ⟨rfl, hzs⟩
        intro zl h17 tk17 F17 N17 off2
        have hrl : (rowsT (ordersP ts d)).length = rs.size := by have := hR.length; simpa using this.symm
        rw [← hrl, List.take_length, show ((rowsT (ordersP ts d)).map fun q => embW q.2) = (dedupT (ordersP ts d)).map embW from by unfold rowsT; rw [List.map_map]; rfl] at hzs
        have hB2 : InLs (St0 s1.heap ((rl, W.listOf rs rk) :: (G ++ (el, W.listOf #[] 0) :: (ol, lst ys) :: nw))) bws.toList ((dedupT (ordersP ts d)).map embW) := by
          have := hB
          rw [show (PyData.list (o1.map fun t => .list [.int t]) :: os1.map embW) = (ordersP ts d).map embW from by rw [hos]; rfl, dedupP_map embW eqv_word] at this
          exact this
        obtain ⟨as1, r1⟩ := InL.reads (P := fun a o => h17.get? a = some o) (fun _ _ e => e) (.list (vs := bws) (n := bn) (N17 _ (.tail _ (.head _))).1 (hB2.mono fun a o q => q.elim (fun e => F17.keep _ _ e) fun hm => (N17 _ (.tail _ (.tail _ hm))).1))
        obtain ⟨as2, r2⟩ := InL.reads (P := fun a o => h17.get? a = some o) (fun _ _ e => e) (.list (vs := zs.toArray) (n := zs.length) (N17 _ (.head _)).1 (hzs.mono fun a o hm => (N17 _ (.tail _ (.tail _ (.tail _ (List.mem_append_right _ hm))))).1))
        have sh : SeqAt.shaped (.list ((dedupT (ordersP ts d)).map embW)) = true := Bool.and_eq_true_iff.mpr ⟨words_lay _, decide_eq_true (by have := words_depth (dedupT (ordersP ts d)); simp only [PyData.depth]; omega)⟩
        refine ne_dataH r1 r2 sh sh (by simp only [units_deeper]; decide) ?_
        rw [show PyData.eqv (.list ((dedupT (ordersP ts d)).map embW)) (.list ((dedupT (ordersP ts d)).map embW)) = true from (eqvAll_map embW eqv_word _ _).trans (by simp)]
        rw [Bool.not_true]
        have hg2 := hgood
        unfold goodP at hg2
        rw [hd] at hg2
        simp only [Bool.and_eq_true, List.all_eq_true, decide_eq_true_eq] at hg2
        k_steps
        unfold Hold
        rename Fr _ _ _ _ => F18
        rename News _ _ _ _ => N18
        (with_unfolding_all refine' For_invVF F18 ?k1 ?k2 ?_; (case k1 => exact rfl); (case k2 => exact rfl); k_whole)
        refine wpAny_Name (wpAny_loadName_local rfl rfl F18.ns rfl ?_) (by decide)
        refine iter_src (ol := W.listOf rs rk) (vs := rs) (n := rk) (fun i m nw' => nw' = (zl, lst zs) :: (b, listOf bws bn) :: (rl, W.listOf rs rk) :: (G ++ (el, W.listOf #[] 0) :: (ol, lst ys) :: nw) ∧ Has m [(Str.ofString "rows", .ref rl), (Str.ofString "draws", .int (d : Int) dt), (Str.ofString "tickets", .ref tl)])
          rfl rfl ?hS3 rfl F18 N18 ?hJ3 ?turn3 ?done3
        case hS3 =>
          rintro _ _ _ ⟨rfl, _⟩
          exact .inr (.tail _ (.tail _ (.head _)))
        case hJ3 => exact ⟨rfl, rfl, rfl, rfl, trivial⟩
        case turn3 =>
          rintro i v m₁ _ h tk I oI hv ⟨rfl, hm⟩ off F19 N19
          rw [hm.store] at F19
          dsimp only [putAll] at F19
          clear F18 N18
          obtain ⟨x, dx, c, t, t', e, y, rfl, hmem, he, hrow⟩ := hR.get (i := i) (v := v) (by simpa using hv)
          have hxo : h.get? x = some (mmO dx (.int (c : Int) t) (.int 0 t') e) := (N19 _ (.tail _ (.tail _ (.tail _ (.tail _ (List.mem_append_left _ hmem)))))).1
          have hcy := hg2.1 (c, y) (List.mem_of_getElem? hrow)
          have hleds : ∀ p ∈ nw, p ∈ (zl, lst zs) :: (b, listOf bws bn) :: (rl, W.listOf rs rk) :: (G ++ (el, W.listOf #[] 0) :: (ol, lst ys) :: nw) := fun p hp => .tail _ (.tail _ (.tail _ (List.mem_append_right _ (.tail _ (.tail _ hp)))))
          k_steps
          unfold Hold
          refine item150 (k := 0) (r := .int (c : Int) t) (dx := dx) (a := .int (c : Int) t) (b := .int 0 t') (v := e) (KX.keeps F19.keep) hxo rfl ?_
          k_steps
          unfold Hold
          refine item150 (k := 2) (r := e) (dx := dx) (a := .int (c : Int) t) (b := .int 0 t') (v := e) (KX.keeps F19.keep) hxo rfl ?_
          k_steps
          unfold Hold
          refine wpAny_call (ways_spec (P := Led ((zl, lst zs) :: (b, listOf bws bn) :: (rl, W.listOf rs rk) :: (G ++ (el, W.listOf #[] 0) :: (ol, lst ys) :: nw))) (ts := ts) (os := y) (d := d) rfl ?_ ?_ (KX.keeps F19.keep) (TT.keeps F19.keep) (fun a o e => (N19 _ (.tail _ e)).1)
            (.list (vs := tvs.toArray) (n := 0) (hleds _ (hsub _ (.head _))) (InLs.ofInts (by simpa using IT))) (he.mono (Led.mono fun p hp => .tail _ (.tail _ (.tail _ (List.mem_append_right _ hp))))) hT4 hcy.2 hd4 fun h20 tk20 t20 st20 => ?_)
          · simp only [depth_deeper]; decide
          · simp only [units_deeper]; decide
          have F20 := F19.keeps st20
          have N20 := N19.grown st20
          have hxo2 := st20 _ _ hxo
          clear F19 N19
          rw [hcy.1]
          show wpAny _ _ (compareOp .NotEq (.int (c : Int) t) (.int (c : Int) t20)) _ _ _
          k_steps
          · exact absurd rfl ‹((c : Nat) : Int) ≠ ((c : Nat) : Int)›
          unfold Hold
          refine item150 (k := 1) (r := .int 0 t') (dx := dx) (a := .int (c : Int) t) (b := .int 0 t') (v := e) (KX.keeps F20.keep) hxo2 rfl ?_
          k_steps
          exact ⟨_, _, _, _, rfl, F20, N20, off, rfl, rfl, rfl, rfl, trivial⟩
        case done3 =>
          rintro m₁ _ h tk ⟨rfl, hm⟩ F19 N19
          rw [hm.put] at F19
          dsimp only [putAll] at F19
          clear F18 N18
          k_steps
          unfold Hold
          refine ListComp_U F19 rfl (by decide) rfl (by decide) rfl ?hcomp4
          refine wpAny_Name (wpAny_loadName_local rfl rfl F19.ns rfl ?_) (by decide)
          refine CompSrc.ledger rfl F19 N19 (.tail _ (.tail _ (.head _))) (by rw [sizeLine_eq]; omega) fun g => ?_
          refine rest_ind (fun i qs nw' => nw' = (zl, lst zs) :: (b, listOf bws bn) :: (rl, W.listOf rs rk) :: (G ++ (el, W.listOf #[] 0) :: (ol, lst ys) :: nw) ∧ IntsAre qs (((rowsT (ordersP ts d)).take i).map fun q => (q.1 : Int))) ?step4 ?fin4 ⟨rfl, .nil⟩
          case step4 =>
            rintro i qs _ v I oI C oC D m₂ h tk E' hi ⟨rfl, hqs⟩ hv hC hx F17 N17 off ne
            obtain ⟨x, dx, c, t, t', e, y, rfl, hmem, he, hrow⟩ := hR.get (i := i) (v := v) (by simpa using hv)
            refine Subscript_ ?_
            refine wpAny_Name (wpAny_loadName_local rfl rfl (hC.ns (N17 _ (.tail _ (.head _))).1) hx ?_) (by decide)
            refine wpAny_Constant_int ?_
            refine item150 (k := 0) (r := .int (c : Int) t) (dx := dx) (a := .int (c : Int) t) (b := .int 0 t') (v := e) (KX.keeps F17.keep) (N17 _ (.tail _ (.tail _ (.tail _ (.tail _ (.tail _ (.tail _ (List.mem_append_left _ hmem)))))))).1 rfl ?_
            refine CompEnd.intro F17 N17 _ (fun p hp => hp) off (.inr ⟨_, .tail _ (.tail _ (.head _)), rfl, rk, rfl⟩) ⟨rfl, ?_⟩
            rw [List.take_add_one, hrow, List.map_append]
            exact hqs.append (.cons _ _ .nil)
          case fin4 =>
            rintro qs _ ⟨rfl, hqs⟩
            intro ql h21 tk21 F21 N21 off4
            rw [← hrl, List.take_length] at hqs
            have N22 : News s1.heap _ h21 [(ql, W.listOf qs.toArray qs.length), (tl, W.listOf tvs.toArray 0)] := fun p hp => by
              rcases List.mem_cons.mp hp with rfl | hp
              · exact N21 _ (.head _)
              · rw [List.mem_singleton.mp hp]
                exact N21 _ (.tail _ (.tail _ (.tail _ (.tail _ (List.mem_append_right _ (.tail _ (.tail _ (hsub _ (.head _)))))))))
            clear F19 N19 N21
            k_steps
  )
end
end Mine

theorem PySem.Challenge.cw_ik0113_01_holds : PySem.Challenge.rw_ik0113_01.Holds := by
  exact Mine.T
