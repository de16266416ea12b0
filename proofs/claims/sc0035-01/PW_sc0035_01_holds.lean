import PyProof.Rows.All
import Wide.All
import OpenK.AllK
import Wide.FinOn
import Lean
import PySem.Challenge.RW_sc0035_01
set_option Elab.async false
set_option genSizeOf false
set_option genSizeOfSpec false
set_option genInjectivity false
section
open PySem PySem.W PyProof.Rows
set_option maxRecDepth 100000
set_option maxHeartbeats 8000000
namespace Mine
open_top hd for PySem.Challenge.rw_sc0035_01
end Mine
end
section
open PySem PySem.W PyProof.Rows PySem.Calls PySem.Spec
set_option maxRecDepth 100000
set_option maxHeartbeats 8000000
namespace Mine

noncomputable def Keeps (h h' : Heap) : Prop := ∀ b o, h.get? b = some o → h'.get? b = some o

theorem own_call {prog : Program} {w : World} {A : Around} {s : Shared} {K : Frag} {p : Program} {loose : List Str} {mean : ExcName → Option Value} {mg mb : Str → Option Value} {Q E : Value → Shared → Prop}
    {f : Addr} {oc : Value} {od : Option Addr} {osl : Array (Option Value)} {name qual : Str} {params : Arguments} {body : List Stmt} {scope : Scope} {dV kV doc pm cdv ct : Value} {an : Option Addr} {vals : List Value} (binds : List (Str × Value))
    (X : Frag.In K s.heap) (T : Top p loose mean mg mb s.heap) (ho : K.lookup f = some ⟨oc, od, .func (fnOf name qual params body scope dV kV doc pm an cdv ct), osl⟩) (hcd : codeIn K cdv qual = true) (hroom : A.depth < recursionLimit)
    (hbind : BindsTo s (fnOf name qual params body scope dV kV doc pm an cdv ct) ⟨vals, []⟩ binds) (hloc : ∀ y ∈ binds, scope.names.lookup y.1 = some .local)
    (h : ∀ L h₁ tk, Fr s.heap L h₁ (fun y => binds.reverse.lookup y) → News s.heap L h₁ [] →
      wpAny (model prog w) (A.deeper (envOf qual scope L f cdv)) (execs body (envOf qual scope L f cdv)) (fun fl s' => Q (match fl with | .ret v => v | _ => .none) s') (fun _ _ => False) { s with heap := h₁, toks := tk })
    (hcell : ∀ x ∈ scope.names, x.2 ≠ .cell) (hco : scope.isCoroutine = false) (hgen : scope.isGenerator = false) (hk : scope.kind = .function) :
    wpAny (model prog w) A (call (.ref f) vals) Q E s := by
  refine wpAny_call (codeAny_call_def (fd := fnOf name qual params body scope dV kV doc pm an cdv ct) (body := body) (binds := binds) hroom (X _ _ ho) rfl T.nolimit (codeRec_of X hcd) rfl hbind hcell hloc (fun h₁ hns hk₁ => ?_) hco hgen hk)
  exact wpAny_mono (h s.heap.objs.size h₁ _ ⟨hns, hk₁, Nat.le_refl _⟩ News.nil) (fun fl s' q => q) fun _ _ x => x.elim

noncomputable abbrev PR : Program := PySem.Challenge.rw_sc0035_01.row.prog

/-- what a call of the text's own needs -/
structure Cx (r : Nat) (w : World) (A : Around) (h : Heap) : Prop where
  X : Frag.In (hd.heap_39 w.params) h
  T : ∃ p loose mean mg mb, Top p loose mean mg mb h
  hh : A.handled = none
  room : A.depth + r < recursionLimit
  un : A.units + (20 * r + 20) < cLine
theorem fold1 (f : Int → Int → Int) (ns : List Int) : ∀ a, (ns.foldl (fun (σ : Int × Unit) n => (f σ.1 n, ())) (a, ())).1 = ns.foldl f a := by
  induction ns with
  | nil => intro a; rfl
  | cons n r ih => intro a; exact ih _
theorem Fr.keepsK {h₀ h h' : Heap} {L : Addr} {m : Str → Option Value} (F : Fr h₀ L h m) (k : Keeps h h') : Fr h₀ L h' m := F.keeps k
theorem News.keepsK {h₀ h h' : Heap} {L : Addr} {news : List (Addr × Obj)} (N : News h₀ L h news) (k : Keeps h h') : News h₀ L h' news := fun p hp => ⟨k _ _ (N p hp).1, (N p hp).2⟩
/-- a new object that a call hands back -/
theorem News.addK {h₀ h h' : Heap} {L a : Addr} {o : Obj} {m : Str → Option Value} {news : List (Addr × Obj)} (F : Fr h₀ L h m) (N : News h₀ L h news) (k : Keeps h h') (hn : h.get? a = none) (ha : h'.get? a = some o) : News h₀ L h' ((a, o) :: news) := by
  intro p hp
  rcases List.mem_cons.mp hp with rfl | hp
  · refine ⟨ha, fun e => ?_, ?_⟩
    · obtain ⟨oL, _, _, hL, _⟩ := F.ns
      have e' : a = L := e
      rw [e', hL] at hn; cases hn
    · cases q : h₀.get? a with
      | none => rfl
      | some o' => rw [F.keep _ _ q] at hn; cases hn
  · exact News.keepsK N k p hp
theorem fill_it : PySem.Challenge.rw_sc0035_01.foot = 8 ∧ hd.heap_39 = hd.heap_39 := by
  w_top off
  k_fill
  exact ⟨rfl, rfl⟩
end Mine
end
section
open PySem PySem.W PyProof.Rows PySem.Calls PySem.Spec
set_option maxRecDepth 100000
set_option maxHeartbeats 8000000
namespace Mine
section
variable {prog : Program} {w : World} {A : Around} {E : Value → Shared → Prop} {s : Shared} {env : Env} {h₀ : Heap} {x : Str} {body : List Stmt} {Q : Flow → Shared → Prop}

theorem fr_of {h₀ h : Heap} {L : Addr} {m₁ : Str → Option Value} {ps : List (Str × Value)} (h1 : ∀ p ∈ ps, m₁ p.1 = some p.2) (F : Fr h₀ L h m₁) : Fr h₀ L h (kstB m₁ ps) := by
  have e : kstB m₁ ps = m₁ := by
    funext z
    exact kstB_eq h1 fun _ => rfl
  rw [e]; exact F
theorem fr_ofX {h₀ h : Heap} {L : Addr} {x : Str} {v : Value} {m₁ : Str → Option Value} {ps : List (Str × Value)} (h1 : ∀ p ∈ ps, m₁ p.1 = some p.2) (F : Fr h₀ L h (fun y => if y = x then some v else m₁ y)) : Fr h₀ L h (fun y => if y = x then some v else kstB m₁ ps y) := by
  have e : kstB m₁ ps = m₁ := by
    funext z
    exact kstB_eq h1 fun _ => rfl
  rw [e]; exact F

/-- behind a turn of a for: io is the iterator -/
noncomputable def TurnP {σ : Type} (h₀ : Heap) (L : Addr) (I : Addr) (io : Obj) (const : List (Addr × Obj)) (led : σ → List (Addr × Obj)) (ps : σ → List (Str × Value)) (P : σ → Prop) (s₁ : Shared) (Q : Flow → Shared → Prop) (f : Flow) (s₂ : Shared) : Prop :=
  match f with
  | .ret v => Q (.ret v) s₂
  | .brk => Q .next s₂
  | _ => ∃ c h' tk m', s₂ = { s₁ with heap := h', toks := tk } ∧ Fr h₀ L h' m' ∧ News h₀ L h' ((I, io) :: (const ++ led c)) ∧ (∀ p ∈ led c, p.1 ≠ I) ∧ (∀ p ∈ ps c, m' p.1 = some p.2) ∧ P c

theorem TurnP.next2 {σ : Type} {h₀ : Heap} {L : Addr} {I : Addr} {io : Obj} {const : List (Addr × Obj)} {led : σ → List (Addr × Obj)} {ps : σ → List (Str × Value)} {P : σ → Prop} {s₁ : Shared} {Q : Flow → Shared → Prop} {h' : Heap} {tk : Nat} {m' : Str → Option Value} {news' : List (Addr × Obj)} (c : σ)
    (F : Fr h₀ L h' m') (N : News h₀ L h' news') (hn : ∀ p ∈ (I, io) :: (const ++ led c), p ∈ news') (hc : ∀ p ∈ led c, p.1 ≠ I) (hp : ∀ p ∈ ps c, m' p.1 = some p.2) (h : P c) :
    TurnP h₀ L I io const led ps P s₁ Q .next { s₁ with heap := h', toks := tk } := ⟨c, h', tk, m', rfl, F, fun p q => N p (hn p q), hc, hp, h⟩
theorem TurnP.next {σ : Type} {h₀ : Heap} {L : Addr} {I : Addr} {io : Obj} {const : List (Addr × Obj)} {led : σ → List (Addr × Obj)} {ps : σ → List (Str × Value)} {P : σ → Prop} {s₁ : Shared} {Q : Flow → Shared → Prop} {h' : Heap} {tk : Nat} {m' : Str → Option Value} {news' : List (Addr × Obj)} (c : σ)
    (F : Fr h₀ L h' m') (N : News h₀ L h' news') (hn : ∀ p ∈ (I, io) :: (const ++ led c), p ∈ news') (hc : ∀ p ∈ led c, p.2.cls ≠ io.cls) (hp : ∀ p ∈ ps c, m' p.1 = some p.2) (h : P c) :
    TurnP h₀ L I io const led ps P s₁ Q .next { s₁ with heap := h', toks := tk } := TurnP.next2 c F N hn (fun p q e => by
    have h1 := (N p (hn p (.tail _ (List.mem_append_right _ q)))).1
    have h2 := (N (I, io) (hn _ (.head _))).1
    rw [e, h2] at h1
    exact hc p q (by rw [← Option.some.inj h1])) hp h

/-- the loop over whatever walks -/
theorem loop_mine {σ : Type} {I : Addr} {fp : List Addr} {n : Nat} {Pv : Nat → Value → Prop} {St : Nat → Heap → Prop} {m₀ : Str → Option Value} {const : List (Addr × Obj)} {ic : Value} (led : σ → List (Addr × Obj)) (ps : σ → List (Str × Value)) (P : Nat → σ → Prop) (c₀ : σ)
    (W : Walks prog w A I fp [I] n Pv St) (hfp : ∀ b ∈ fp, b = I ∨ (∃ o, h₀.get? b = some o) ∨ ∃ o, (b, o) ∈ const) (hcI : ∀ p ∈ const, p.1 ≠ I) (hI0 : h₀.get? I = none) (hst : St 0 s.heap) (hic : ∀ i h, St i h → ∃ o, h.get? I = some o ∧ o.cls = ic) (hIf : I ∈ fp)
    (F : Fr h₀ env.locals s.heap m₀) (N : News h₀ env.locals s.heap (const ++ led c₀)) (hl₀ : ∀ p ∈ led c₀, p.1 ≠ I) (hp₀ : ∀ p ∈ ps c₀, m₀ p.1 = some p.2) (hj : P 0 c₀) (hLI : env.locals ≠ I)
    (turn : ∀ i v c u h tk io, i < n → Pv i v → P i c → io.cls = ic → Fr h₀ env.locals h (fun y => if y = x then some v else kstB u (ps c) y) → News h₀ env.locals h ((I, io) :: (const ++ led c)) → (∀ p ∈ led c, p.1 ≠ I) → (∀ p ∈ const, p.1 ≠ I) →
      wpAny (model prog w) A (execs body env) (TurnP h₀ env.locals I io const led ps (P (i + 1)) { s with heap := h, toks := tk } Q) E { s with heap := h, toks := tk })
    (done : ∀ c u h tk, P n c → Fr h₀ env.locals h (kstB u (ps c)) → News h₀ env.locals h (const ++ led c) → Q .next { s with heap := h, toks := tk }) :
    LoopAtV prog w A h₀ env x body Q E (.ref I) s := by
  have hLf : env.locals ∉ fp := by
    intro hm
    rcases hfp _ hm with e | ⟨o, e⟩ | ⟨o, e⟩
    · exact hLI e
    · exact absurd (Heap.lt_size e) (Nat.not_lt.mpr F.above)
    · exact (N _ (List.mem_append_left _ e)).2.1 rfl
  refine ⟨I, fp, [I], n, Pv, St, m₀, const ++ led c₀, fun i m nx => ∃ c, nx = const ++ led c ∧ (∀ p ∈ ps c, m p.1 = some p.2) ∧ P i c, rfl, W, hLf, ?_, ?_, hst, F, N, ⟨c₀, rfl, hp₀, hj⟩, ?_, ?_⟩
  · intro b hb; rw [List.mem_singleton.mp hb]; exact hI0
  · intro p hp hb
    rcases List.mem_append.mp hp with q | q
    · exact hcI p q (List.mem_singleton.mp hb)
    · exact hl₀ p q (List.mem_singleton.mp hb)
  · rintro i v m₁ news₁ s₁ own ⟨h, tk, rfl⟩ hi hv ⟨c, rfl, hps, hP⟩ hoff hown hget hfpn hst' F₁ N₁
    obtain ⟨io, hio, hcls⟩ := hic _ _ hst'
    have hIo : (I, io) ∈ own := hfpn I hIf hI0 io hio
    have N₂ : News h₀ env.locals h ((I, io) :: (const ++ led c)) := by
      intro p hp
      rcases List.mem_cons.mp hp with rfl | hp
      · exact N₁ _ (List.mem_append_left _ hIo)
      · exact N₁ _ (List.mem_append_right _ hp)
    refine wpAny_mono (turn i v c m₁ h tk io hi hv hP hcls (fr_ofX hps F₁) N₂ (fun p hp e => hoff p (List.mem_append_right _ hp) (List.mem_singleton.mpr e)) hcI) (fun f s₂ q => ?_) fun _ _ e => e
    have fin : (∃ c' h' tk' m', s₂ = { s with heap := h', toks := tk' } ∧ Fr h₀ env.locals h' m' ∧ News h₀ env.locals h' ((I, io) :: (const ++ led c')) ∧ (∀ p ∈ led c', p.1 ≠ I) ∧ (∀ p ∈ ps c', m' p.1 = some p.2) ∧ P (i + 1) c') →
        LoopStepU h₀ env.locals [I] own (fun m nx => ∃ c, nx = const ++ led c ∧ (∀ p ∈ ps c, m p.1 = some p.2) ∧ P (i + 1) c) { s with heap := h, toks := tk } .next s₂ := by
      rintro ⟨c', h', tk', m', rfl, F', N', hc', hp', hP'⟩
      refine ⟨rfl, h', tk', m', const ++ led c', rfl, F', ?_, ?_, c', rfl, hp', hP'⟩
      · intro p hp
        rcases List.mem_append.mp hp with q | q
        · have hpg := hget p q
          rcases hfp _ (hown p q) with e | ⟨o, e⟩ | ⟨o, e⟩
          · have h2 : p.2 = io := by rw [e, hio] at hpg; exact (Option.some.inj hpg).symm
            have h3 : p = (I, io) := Prod.ext e h2
            rw [h3]; exact N' _ (.head _)
          · have := (N₁ p (List.mem_append_left _ q)).2.2
            rw [e] at this; cases this
          · have h2 := (N₁ _ (List.mem_append_right own (List.mem_append_left (led c) e))).1
            rw [hpg] at h2
            have h3 : p = (p.1, o) := Prod.ext rfl (Option.some.inj h2)
            rw [h3]; exact N' _ (.tail _ (List.mem_append_left _ e))
        · exact N' p (.tail _ q)
      · intro p hp hb
        have e := List.mem_singleton.mp hb
        rcases List.mem_append.mp hp with q | q
        · exact hcI p q e
        · exact hc' p q e
    cases f with
    | ret v => exact q
    | brk => exact q
    | next => exact fin q
    | cont => exact fin q
  · rintro h' tk m' news' F' N' _ ⟨c, rfl, hp, hP⟩
    exact done c m' h' tk hP (fr_of hp F') N'

theorem for_range {σ : Type} {r : Addr} {a₀ b₀ st : Int} {t₀ u₀ v₀ : Tok} {m₀ : Str → Option Value} {news : List (Addr × Obj)} (n : Nat) (g : Nat → Int) (const : List (Addr × Obj)) (led : σ → List (Addr × Obj)) (ps : σ → List (Str × Value)) (P : Nat → σ → Prop) (c₀ : σ)
    (hh : A.handled = none) (hr : IsRange s.heap r a₀ b₀ st t₀ u₀ v₀) (hsmall : Builtin.Range.small a₀ b₀ st = true) (hn : Builtin.Range.rangeSize a₀ b₀ st = (n : Int)) (hg : ∀ i : Nat, a₀ + (i : Int) * st = g i) (F : Fr h₀ env.locals s.heap m₀) (N : News h₀ env.locals s.heap news) (hnews : ∀ p ∈ const ++ led c₀, p ∈ news) (hp₀ : ∀ p ∈ ps c₀, m₀ p.1 = some p.2) (hj : P 0 c₀)
    (turn : ∀ i t c u h tk I io, i < n → P i c → io.cls = .type "range_iterator" → Fr h₀ env.locals h (fun y => if y = x then some (.int (g i) t) else kstB u (ps c) y) → News h₀ env.locals h ((I, io) :: (const ++ led c)) → (∀ p ∈ led c, p.1 ≠ I) → (∀ p ∈ const, p.1 ≠ I) →
      wpAny (model prog w) A (execs body env) (TurnP h₀ env.locals I io const led ps (P (i + 1)) { s with heap := h, toks := tk } Q) E { s with heap := h, toks := tk })
    (done : ∀ c u h tk, P n c → Fr h₀ env.locals h (kstB u (ps c)) → News h₀ env.locals h (const ++ led c) → Q .next { s with heap := h, toks := tk }) :
    wpAny (model prog w) A (pyIter (.ref r)) (fun it s₂ => LoopAtV prog w A h₀ env x body Q E it s₂) E s := by
  refine wpAny_pyIter_range hr hsmall ?_
  have W := Walks.range (prog := prog) (w := w) hh s.heap.objs.size a₀ st n
  have hlt : ∀ p ∈ const ++ led c₀, p.1 ≠ s.heap.objs.size := fun p hp => Nat.ne_of_lt (Heap.lt_size (N p (hnews p hp)).1)
  refine loop_mine (ic := .type "range_iterator") led ps P c₀ W ?_ (fun p hp => hlt p (List.mem_append_left _ hp)) (next_is_new F) ?_ ?_ (.head _) (F.push _) (fun p hp => ⟨Heap.get?_push_of_some _ (N p (hnews p hp)).1, (N p (hnews p hp)).2⟩) (fun p hp => hlt p (List.mem_append_right _ hp)) hp₀ hj (Nat.ne_of_lt F.ns.lt) ?_ ?_
  · intro b hb; exact .inl (List.mem_singleton.mp hb)
  · show IsRangeIter _ _ _ _ _
    rw [hn]; simpa using Heap.get?_push_size _ rfl
  · intro i h hst; exact ⟨_, hst, rfl⟩
  · rintro i v c u h tk io hi ⟨t, rfl⟩ hP hc F₁ N₁ h1 h2
    rw [hg] at F₁
    exact turn i t c u h tk _ io hi hP hc F₁ N₁ h1 h2
  · exact done

theorem for_list {σ : Type} {l : Addr} {vs : List Value} {m₀ : Str → Option Value} {news : List (Addr × Obj)} (const : List (Addr × Obj)) (led : σ → List (Addr × Obj)) (ps : σ → List (Str × Value)) (P : Nat → σ → Prop) (c₀ : σ)
    (hh : A.handled = none) (hl : s.heap.IsList l vs.toArray) (hlc : (∃ o, h₀.get? l = some o) ∨ ∃ o, (l, o) ∈ const) (F : Fr h₀ env.locals s.heap m₀) (N : News h₀ env.locals s.heap news) (hnews : ∀ p ∈ const ++ led c₀, p ∈ news) (hp₀ : ∀ p ∈ ps c₀, m₀ p.1 = some p.2) (hj : P 0 c₀)
    (turn : ∀ i v c u h tk I io, vs[i]? = some v → P i c → io.cls = .type "list_iterator" → Fr h₀ env.locals h (fun y => if y = x then some v else kstB u (ps c) y) → News h₀ env.locals h ((I, io) :: (const ++ led c)) → (∀ p ∈ led c, p.1 ≠ I) → (∀ p ∈ const, p.1 ≠ I) →
      wpAny (model prog w) A (execs body env) (TurnP h₀ env.locals I io const led ps (P (i + 1)) { s with heap := h, toks := tk } Q) E { s with heap := h, toks := tk })
    (done : ∀ c u h tk, P vs.length c → Fr h₀ env.locals h (kstB u (ps c)) → News h₀ env.locals h (const ++ led c) → Q .next { s with heap := h, toks := tk }) :
    wpAny (model prog w) A (pyIter (.ref l)) (fun it s₂ => LoopAtV prog w A h₀ env x body Q E it s₂) E s := by
  obtain ⟨ol, hol, _⟩ := id hl
  have hne : l ≠ s.heap.objs.size := Nat.ne_of_lt (Heap.lt_size hol)
  refine wpAny_pyIter_list hl ?_
  have W := Walks.list (prog := prog) (w := w) hh s.heap.objs.size l hne vs.toArray
  have hlt : ∀ p ∈ const ++ led c₀, p.1 ≠ s.heap.objs.size := fun p hp => Nat.ne_of_lt (Heap.lt_size (N p (hnews p hp)).1)
  refine loop_mine (ic := .type "list_iterator") led ps P c₀ W ?_ (fun p hp => hlt p (List.mem_append_left _ hp)) (next_is_new F) ⟨⟨_, Heap.get?_push_size _ rfl, rfl, rfl⟩, hl.at fun o e => Heap.get?_push_of_some _ e⟩ ?_ (.head _) (F.push _) (fun p hp => ⟨Heap.get?_push_of_some _ (N p (hnews p hp)).1, (N p (hnews p hp)).2⟩) (fun p hp => hlt p (List.mem_append_right _ hp)) hp₀ hj (Nat.ne_of_lt F.ns.lt) ?_ ?_
  · intro b hb
    rcases List.mem_cons.mp hb with e | e
    · exact .inl e
    · rw [List.mem_singleton.mp e]; exact .inr hlc
  · rintro i h ⟨⟨o, ho, hc, _⟩, _⟩; exact ⟨o, ho, hc⟩
  · rintro i v c u h tk io hi hv hP hc F₁ N₁ h1 h2
    exact turn i v c u h tk _ io (by simpa using hv) hP hc F₁ N₁ h1 h2
  · simpa using done

/-- behind a turn of a while -/
noncomputable def TurnW {σ : Type} (h₀ : Heap) (L : Addr) (led : σ → List (Addr × Obj)) (ps : σ → List (Str × Value)) (P : σ → Prop) (μ : σ → Nat) (n : Nat) (s₁ : Shared) (Q : Flow → Shared → Prop) (f : Flow) (s₂ : Shared) : Prop :=
  match f with
  | .ret v => Q (.ret v) s₂
  | .brk => Q .next s₂
  | _ => ∃ c h' tk m', s₂ = { s₁ with heap := h', toks := tk } ∧ Fr h₀ L h' m' ∧ News h₀ L h' (led c) ∧ (∀ p ∈ ps c, m' p.1 = some p.2) ∧ P c ∧ μ c < n
theorem TurnW.next {σ : Type} {h₀ : Heap} {L : Addr} {led : σ → List (Addr × Obj)} {ps : σ → List (Str × Value)} {P : σ → Prop} {μ : σ → Nat} {n : Nat} {s₁ : Shared} {Q : Flow → Shared → Prop} {h' : Heap} {tk : Nat} {m' : Str → Option Value} {news' : List (Addr × Obj)} (c : σ)
    (F : Fr h₀ L h' m') (N : News h₀ L h' news') (hn : ∀ p ∈ led c, p ∈ news') (hp : ∀ p ∈ ps c, m' p.1 = some p.2) (h : P c) (hm : μ c < n) :
    TurnW h₀ L led ps P μ n s₁ Q .next { s₁ with heap := h', toks := tk } := ⟨c, h', tk, m', rfl, F, fun p q => N p (hn p q), hp, h, hm⟩
theorem while_mine {σ : Type} {test : PySem.Expr} {pos : Pos} {L : Addr} {m₀ : Str → Option Value} {news : List (Addr × Obj)} (led : σ → List (Addr × Obj)) (ps : σ → List (Str × Value)) (P : σ → Prop) (μ : σ → Nat) (c₀ : σ)
    (F : Fr h₀ L s.heap m₀) (N : News h₀ L s.heap news) (hnews : ∀ p ∈ led c₀, p ∈ news) (hp₀ : ∀ p ∈ ps c₀, m₀ p.1 = some p.2) (hj : P c₀)
    (turn : ∀ c u h tk, P c → Fr h₀ L h (kstB u (ps c)) → News h₀ L h (led c) →
      wpAny (model prog w) A (isTrue test env (eval test env)) (fun b s₂ =>
        if b = true then wpAny (model prog w) A (execs body env) (TurnW h₀ L led ps P μ (μ c) s Q) E s₂ else Q .next s₂) E { s with heap := h, toks := tk })
    (hE : PassesOwn (model prog w) A env E := by passes_own) :
    wpAny (model prog w) A (exec (.While test body [] pos) env) Q E s := by
  refine While_inv2 (fun n m nx => ∃ c : σ, nx = led c ∧ μ c = n ∧ (∀ p ∈ ps c, m p.1 = some p.2) ∧ P c) F (fun p hp => N p (hnews p hp)) ⟨c₀, rfl, rfl, hp₀, hj⟩ ?_ hE
  rintro n m₁ nx h tk F₁ N₁ ⟨c, rfl, rfl, hps, hP⟩
  refine wpAny_mono (turn c m₁ h tk hP (fr_of hps F₁) N₁) (fun b s₂ p => ?_) fun _ _ x => x
  cases b with
  | false => simpa using p
  | true =>
    simp only [if_true] at p ⊢
    refine wpAny_mono p (fun f s₃ q => ?_) fun _ _ x => x
    cases f with
    | ret v => exact q
    | brk => exact q
    | next =>
      obtain ⟨c', h', tk', m', rfl, F', N', hp', hP', hm⟩ := q
      exact ⟨h', tk', m', led c', μ c', rfl, F', N', hm, c', rfl, rfl, hp', hP'⟩
    | cont =>
      obtain ⟨c', h', tk', m', rfl, F', N', hp', hP', hm⟩ := q
      exact ⟨h', tk', m', led c', μ c', rfl, F', N', hm, c', rfl, rfl, hp', hP'⟩

/-- what stands when a loop or a statement is left -/
noncomputable def ExitW {σ : Type} (h₀ : Heap) (L : Addr) (led : σ → List (Addr × Obj)) (ps : σ → List (Str × Value)) (X : σ → Prop) (s₁ s₂ : Shared) : Prop :=
  ∃ c h' tk m', s₂ = { s₁ with heap := h', toks := tk } ∧ Fr h₀ L h' m' ∧ News h₀ L h' (led c) ∧ (∀ p ∈ ps c, m' p.1 = some p.2) ∧ X c
theorem ExitW.here {σ : Type} {h₀ : Heap} {L : Addr} {led : σ → List (Addr × Obj)} {ps : σ → List (Str × Value)} {X : σ → Prop} {s₁ : Shared} {h' : Heap} {tk : Nat} {m' : Str → Option Value} {news' : List (Addr × Obj)} (c : σ)
    (F : Fr h₀ L h' m') (N : News h₀ L h' news') (hn : ∀ p ∈ led c, p ∈ news') (hp : ∀ p ∈ ps c, m' p.1 = some p.2) (h : X c) :
    ExitW h₀ L led ps X s₁ { s₁ with heap := h', toks := tk } := ⟨c, h', tk, m', rfl, F, fun p q => N p (hn p q), hp, h⟩
theorem while_mine2 {σ : Type} {test : PySem.Expr} {pos : Pos} {L : Addr} {m₀ : Str → Option Value} {news : List (Addr × Obj)} (led : σ → List (Addr × Obj)) (ps : σ → List (Str × Value)) (P : σ → Prop) (μ : σ → Nat) (X : σ → Prop) (c₀ : σ)
    (F : Fr h₀ L s.heap m₀) (N : News h₀ L s.heap news) (hnews : ∀ p ∈ led c₀, p ∈ news) (hp₀ : ∀ p ∈ ps c₀, m₀ p.1 = some p.2) (hj : P c₀)
    (turn : ∀ c u h tk, P c → Fr h₀ L h (kstB u (ps c)) → News h₀ L h (led c) →
      wpAny (model prog w) A (isTrue test env (eval test env)) (fun b s₂ =>
        if b = true then wpAny (model prog w) A (execs body env) (TurnW h₀ L led ps P μ (μ c) s Q) E s₂ else ExitW h₀ L led ps X s s₂) E { s with heap := h, toks := tk })
    (done : ∀ c u h tk, X c → Fr h₀ L h (kstB u (ps c)) → News h₀ L h (led c) → Q .next { s with heap := h, toks := tk })
    (hE : PassesOwn (model prog w) A env E := by passes_own) :
    wpAny (model prog w) A (exec (.While test body [] pos) env) Q E s := by
  refine while_mine led ps P μ c₀ F N hnews hp₀ hj (fun c u h tk a b d => wpAny_mono (turn c u h tk a b d) (fun t s₂ q => ?_) fun _ _ x => x) hE
  cases t with
  | true => exact q
  | false =>
    simp only [Bool.false_eq_true, if_false] at q ⊢
    obtain ⟨c', h', tk', m', rfl, F', N', hp', hX⟩ := q
    exact done c' m' h' tk' hX (fr_of hp' F') N'
/-- a statement whose ways meet behind it -/
theorem execs_mid {σ : Type} {st : Stmt} {rest : List Stmt} {L : Addr} (h₀ : Heap) (led : σ → List (Addr × Obj)) (ps : σ → List (Str × Value)) (X : σ → Prop)
    (h : wpAny (model prog w) A (exec st env) (fun f s' => match f with | .next => ExitW h₀ L led ps X s s' | f => Q f s') E s)
    (done : ∀ c u h tk, X c → Fr h₀ L h (kstB u (ps c)) → News h₀ L h (led c) → wpAny (model prog w) A (execs rest env) Q E { s with heap := h, toks := tk }) :
    wpAny (model prog w) A (execs (st :: rest) env) Q E s := by
  refine wpAny_execs_cons (wpAny_mono h (fun f s' q => ?_) fun _ _ x => x)
  cases f with
  | next =>
    obtain ⟨c', h', tk', m', rfl, F', N', hp', hX⟩ := q
    exact done c' m' h' tk' hX (fr_of hp' F') N'
  | _ => exact q
theorem exec_mid {σ : Type} {st : Stmt} {L : Addr} (h₀ : Heap) (led : σ → List (Addr × Obj)) (ps : σ → List (Str × Value)) (X : σ → Prop)
    (h : wpAny (model prog w) A (exec st env) (fun f s' => match f with | .next => ExitW h₀ L led ps X s s' | f => Q f s') E s)
    (done : ∀ c u h tk, X c → Fr h₀ L h (kstB u (ps c)) → News h₀ L h (led c) → Q .next { s with heap := h, toks := tk }) :
    wpAny (model prog w) A (exec st env) Q E s := by
  refine wpAny_mono h (fun f s' q => ?_) fun _ _ x => x
  cases f with
  | next =>
    obtain ⟨c', h', tk', m', rfl, F', N', hp', hX⟩ := q
    exact done c' m' h' tk' hX (fr_of hp' F') N'
  | _ => exact q
end
end Mine
end
section
open PySem PySem.W PyProof.Rows PySem.Calls PySem.Spec
set_option maxRecDepth 100000
set_option maxHeartbeats 8000000
namespace Mine
theorem small_mine {a b c : Int} (ha : -1000 ≤ a ∧ a ≤ 1000) (hb : -1000 ≤ b ∧ b ≤ 1000) (hc : -1000 ≤ c ∧ c ≤ 1000 ∧ c ≠ 0) : Builtin.Range.small a b c = true := by
  have h1 : 0 ≤ Builtin.Range.rangeSize a b c ∧ Builtin.Range.rangeSize a b c ≤ 2000 := by
    unfold Builtin.Range.rangeSize
    split
    · split
      · have := Int.ediv_le_self (a := b - a - 1) c (by omega)
        have := Int.ediv_nonneg (a := b - a - 1) (b := c) (by omega) (by omega)
        omega
      · omega
    · split
      · have := Int.ediv_le_self (a := a - b - 1) (-c) (by omega)
        have := Int.ediv_nonneg (a := a - b - 1) (b := -c) (by omega) (by omega)
        omega
      · omega
  unfold Builtin.Range.small
  simp only [Builtin.Range.rangeFitsLong, Bool.and_eq_true, Bool.or_eq_true, decide_eq_true_eq, beq_iff_eq]
  refine ⟨⟨⟨⟨?_, ?_⟩, ?_⟩, ?_⟩, .inr ?_⟩
  · omega
  · omega
  · omega
  · omega
  · split <;> simp only [Bool.and_eq_true, decide_eq_true_eq] <;> omega
noncomputable def rangeL (a c : Int) (n : Nat) : List Int := (List.range n).map fun (i : Nat) => a + (i : Int) * c
theorem rangeL_length (a c : Int) (n : Nat) : (rangeL a c n).length = n := by simp [rangeL]
theorem intsAre_of : ∀ {vs : List Value} {ns : List Int}, vs.length = ns.length → (∀ i v, vs[i]? = some v → ∃ t : Tok, v = Value.int (ns.getD i 0) t) → IntsAre vs ns
  | [], [], _, _ => .nil
  | [], n :: ns, h, _ => by cases h
  | v :: vs, [], h, _ => by cases h
  | v :: vs, n :: ns, h, hh => by
    obtain ⟨t, ht⟩ := hh 0 v rfl
    have e : v = Value.int n t := ht
    rw [e]
    exact .cons n t (intsAre_of (by simpa using h) fun i u hu => hh (i + 1) u hu)
section
variable {prog : Program} {w : World} {A : Around} {E : Value → Shared → Prop} {s : Shared} {h₀ : Heap} {L : Addr} {m : Str → Option Value} {news : List (Addr × Obj)} {Q : Value → Shared → Prop}
theorem list_range {r : Addr} {a b c : Int} {t u v : Tok} (n : Nat) (hh : A.handled = none) (F : Fr h₀ L s.heap m) (N : News h₀ L s.heap news)
    (hr : IsRange s.heap r a b c t u v) (hsmall : Builtin.Range.small a b c = true) (hn : Builtin.Range.rangeSize a b c = (n : Int)) (hlen : n ≤ 1000)
    (h : ∀ l vs k h' tk, IntsAre vs (rangeL a c n) → (∀ p ∈ news, p.1 < l) → Fr h₀ L h' m → News h₀ L h' ((l, listOf vs.toArray k) :: news) → Q (.ref l) { s with heap := h', toks := tk }) :
    wpAny (model prog w) A (call (.type "list") [.ref r]) Q E s := by
  refine call_list_range hh hr hsmall hn (by omega) fun h' tk acc' c' hk hS' hacc => ?_
  refine h _ acc'.toList c' h' tk ?_ (fun p hp => Heap.lt_size (N p hp).1) (F.keeps hk) ?_
  · refine intsAre_of ?_ ?_
    · rw [rangeL_length]; simpa using hacc.1
    · intro i v hv
      have hi : i < n := by
        have := (List.getElem?_eq_some_iff.mp hv).1
        have h2 := hacc.1
        simp only [Array.length_toList] at this
        omega
      obtain ⟨t, ht⟩ := hacc.2 i v (by simpa using hv)
      refine ⟨t, ?_⟩
      rw [ht]
      simp [rangeL, List.getD_eq_getElem?_getD, hi]
  · refine News.addK F N hk (Heap.get?_none_of_le (Nat.le_refl _)) ?_
    rw [hS']
variable {value slice : PySem.Expr}
theorem intsAre_at {vs : List Value} {ns : List Int} (hi : IntsAre vs ns) {p : Nat} (hlt : p < ns.length) : ∃ t, vs[p]? = some (.int (ns.getD p 0) t) := by
  refine hi.get p _ ?_
  rw [List.getD_eq_getElem?_getD, List.getElem?_eq_getElem hlt]; rfl
theorem at_list {l : Addr} {vs : List Value} {ns : List Int} {i : Int} {p : Nat} {u : Tok} (hl : s.heap.IsList l vs.toArray) (hi : IntsAre vs ns) (hp : i = (p : Int)) (hlt : p < ns.length) (hz : ns.length ≤ 1000)
    (h : ∀ t, Q (.int (ns.getD p 0) t) s)
    (hs : subscripted slice false (.ref l) (.int i u) = operate [.ref l, .int i u] (getItem (.ref l) (.int i u)) := by with_unfolding_all rfl) :
    wpAny (model prog w) A (subscriptTail value slice (.ref l) (.int i u)) Q E s := by
  obtain ⟨t, ht⟩ := intsAre_at hi hlt
  exact tail_any hl.typeIs slot_list_getitem.lookup (wpAny_getItem_list hl (by omega) (by omega) (by rw [hp]; simpa using ht) (h t)) hs
theorem isList_news {l : Addr} {vs : List Value} {k : Nat} (N : News h₀ L s.heap news) (hm : (l, listOf vs.toArray k) ∈ news) : s.heap.IsList l vs.toArray := ⟨_, (N _ hm).1, rfl, k, rfl⟩
theorem ki_setL_some {v : Value} : ∀ {l : List Value} {p : Nat}, p < l.length → ki_setL l p v = some (l.set p v)
  | [], _, h => by cases h
  | a :: r, 0, _ => rfl
  | a :: r, p + 1, h => by
    have := ki_setL_some (v := v) (l := r) (p := p) (by simpa using h)
    simp [ki_setL, this]
theorem put_list {l : Addr} {vs : List Value} {k : Nat} {i : Int} {p : Nat} {u : Tok} {v : Value} {news' : List (Addr × Obj)} {Q : Unit → Shared → Prop} (F : Fr h₀ L s.heap m) (N : News h₀ L s.heap news) (hp : i = (p : Int)) (hlt : p < vs.length) (hz : vs.length ≤ 1000)
    (U : Upd l (listOf vs.toArray k) (listOf (vs.set p v).toArray k) news news') (h : ∀ h', Fr h₀ L h' m → News h₀ L h' news' → Q () { s with heap := h' }) : wpAny (model prog w) A (setItem (.ref l) (.int i u) v) Q E s :=
  ki_set F N (by omega) (by omega) (by rw [hp, Int.toNat_natCast]; exact ki_setL_some hlt) U h
theorem intsAre_set : ∀ {vs : List Value} {ns : List Int}, IntsAre vs ns → ∀ (p : Nat) (n : Int) (t : Tok), IntsAre (vs.set p (.int n t)) (ns.set p n)
  | _, _, .nil, _, _, _ => .nil
  | _, _, .cons a ta h, 0, n, t => .cons n t h
  | _, _, .cons a ta h, p + 1, n, t => .cons a ta (intsAre_set h p n t)
theorem rng2 {a b : Int} {t u : Tok} (F : Fr h₀ L s.heap m) (N : News h₀ L s.heap news)
    (h : ∀ r h' tk t₁ u₁ v₁, IsRange h' r a b 1 t₁ u₁ v₁ → Fr h₀ L h' m → News h₀ L h' news → Q (.ref r) { s with heap := h', toks := tk }) :
    wpAny (model prog w) A (call (.type "range") [.int a t, .int b u]) Q E s :=
  call_range_2 (h _ _ _ _ _ _ (IsRange.new ..) (F.push _) (N.pushKeep _))
end
end Mine
end
section
open PySem PySem.W PyProof.Rows PySem.Calls PySem.Spec
set_option maxRecDepth 100000
set_option maxHeartbeats 8000000
namespace Mine
noncomputable abbrev one (c : Nat) : Str := ⟨#[c]⟩
noncomputable abbrev txt (l : List Nat) : Str := ⟨l.toArray⟩
theorem txt_len (l : List Nat) : Str.length (txt l) = l.length := by show l.toArray.size = _; simp
theorem slice_from_txt {l : List Nat} {p : Nat} (h : p ≤ l.length) : Txt.slice (txt l) (some (p : Int)) none = txt (l.drop p) := by
  rw [slice_from_eq (b := ((txt l).length : Int)) (by omega) (by rw [txt_len]; omega) rfl]
  rw [txt_len]
  congr 2
  show ((l.toArray.toList.drop (p : Int).toNat).take _) = _
  rw [Int.toNat_natCast]
  rw [List.take_of_length_le (by simp)]
theorem slice_to_txt {l : List Nat} {j : Nat} (h : j ≤ l.length) : Txt.slice (txt l) none (some (j : Int)) = txt (l.take j) := by
  have e := eq_of_beq (slice_closes_toL (x := txt l) (j := (j : Int)) (by omega) (by rw [txt_len]; omega))
  rw [e]
  show (⟨(List.take _ (List.drop 0 l)).toArray⟩ : Str) = _
  rw [Int.sub_zero, Int.toNat_natCast, List.drop_zero]
theorem slice_neg_txt {l : List Nat} {q : Nat} (h0 : 0 < q) (h : q ≤ l.length) : Txt.slice (txt l) none (some (-(q : Int))) = txt (l.take (l.length - q)) := by
  rw [slice_to_neg (by omega), txt_len]
  rw [show (max 0 ((l.length : Int) + -(q : Int))) = ((l.length - q : Nat) : Int) by omega]
  exact slice_to_txt (by omega)
theorem slice_all (x : Str) : Txt.slice x none none = x := by
  unfold Txt.slice
  rw [if_pos]
  simp only [PySem.Builtin.Str.strSliceIndices, sliceRange]
  simp
  by_cases h : 0 < x.length
  · simp [h]
  · have : x.length = 0 := by omega
    simp [this]
theorem charAt_txt {l : List Nat} {i : Int} (h0 : -(l.length : Int) ≤ i) (h1 : i < l.length) : Txt.charAt (txt l) i = l[(if i < 0 then i + l.length else i).toNat]? := by
  unfold Txt.charAt seqIndex?
  simp only [txt_len]
  have h2 : 0 ≤ (if i < 0 then i + (l.length : Int) else i) := by split <;> omega
  have h3 : (if i < 0 then i + (l.length : Int) else i) < (l.length : Int) := by split <;> omega
  rw [if_pos (by simp only [Bool.and_eq_true, decide_eq_true_eq]; exact ⟨h2, h3⟩)]
  simp
theorem item_txt {l : List Nat} {i : Int} {p : Nat} (hp : i = (p : Int)) (h1 : p < l.length) : Txt.item (txt l) i = one (l.getD p 0) := by
  show (⟨#[_]⟩ : Str) = ⟨#[_]⟩
  rw [charAt_txt (by omega) (by omega), if_neg (by omega), hp, Int.toNat_natCast]
  rfl
theorem item_neg {l : List Nat} {i : Int} {q : Nat} (hp : i = -(q : Int) - 1) (h1 : q < l.length) : Txt.item (txt l) i = one (l.getD (l.length - 1 - q) 0) := by
  show (⟨#[_]⟩ : Str) = ⟨#[_]⟩
  rw [charAt_txt (by omega) (by omega), if_pos (by omega), show (i + (l.length : Int)).toNat = l.length - 1 - q by omega]
  rfl
section
variable {prog : Program} {w : World} {A : Around} {E : Value → Shared → Prop} {s : Shared} {value slice : PySem.Expr} {l : List Nat} {t : Tok} {h₀ : Heap} {L : Addr} {m : Str → Option Value} {news : List (Addr × Obj)} {Q : Value → Shared → Prop}
theorem cut_from {i : Int} {p : Nat} {ui : Tok} (hp : i = (p : Int)) (hF : Fr h₀ L s.heap m) (hN : News h₀ L s.heap news) (hl : p ≤ l.length) (hz : l.length ≤ 100) (h : ∀ h' t' k, Fr h₀ L h' m → News h₀ L h' news → Q (.str (txt (l.drop p)) t') { s with heap := h', toks := k })
    (hs : subscripted slice false (.str (txt l) t) (.ref s.heap.objs.size) = operate [.ref s.heap.objs.size, .str (txt l) t] (getItem (.str (txt l) t) (.ref s.heap.objs.size)) := by with_unfolding_all rfl)
    (ht : ∀ r, letTemporaryGo value (.str (txt l) t) r = pure () := by intro _; with_unfolding_all rfl) :
    wpAny (model prog w) A (subscriptTail value slice (.str (txt l) t) (.ref s.heap.objs.size)) Q E { s with heap := s.heap.push { cls := .type "slice", data := .fields #[.int i ui, .none, .none] } } :=
  slice_strN_sn hF hN (fun h' t' k a b => by rw [hp, slice_from_txt hl]; exact h h' t' k a b) hs ht (by rw [txt_len, sizeLine_eq]; omega)
theorem cut_to {i : Int} {q : Nat} {ui : Tok} (hp : i = -(q : Int)) (h0 : 0 < q) (hF : Fr h₀ L s.heap m) (hN : News h₀ L s.heap news) (hl : q ≤ l.length) (hz : l.length ≤ 100) (h : ∀ h' t' k, Fr h₀ L h' m → News h₀ L h' news → Q (.str (txt (l.take (l.length - q))) t') { s with heap := h', toks := k })
    (hs : subscripted slice false (.str (txt l) t) (.ref s.heap.objs.size) = operate [.ref s.heap.objs.size, .str (txt l) t] (getItem (.str (txt l) t) (.ref s.heap.objs.size)) := by with_unfolding_all rfl)
    (ht : ∀ r, letTemporaryGo value (.str (txt l) t) r = pure () := by intro _; with_unfolding_all rfl) :
    wpAny (model prog w) A (subscriptTail value slice (.str (txt l) t) (.ref s.heap.objs.size)) Q E { s with heap := s.heap.push { cls := .type "slice", data := .fields #[.none, .int i ui, .none] } } :=
  slice_strN_ns hF hN (fun h' t' k a b => by rw [hp, slice_neg_txt h0 hl]; exact h h' t' k a b) hs ht (by rw [txt_len, sizeLine_eq]; omega)
theorem cut_all (hF : Fr h₀ L s.heap m) (hN : News h₀ L s.heap news) (hz : l.length ≤ 100) (h : ∀ h' t' k, Fr h₀ L h' m → News h₀ L h' news → Q (.str (txt l) t') { s with heap := h', toks := k })
    (hs : subscripted slice false (.str (txt l) t) (.ref s.heap.objs.size) = operate [.ref s.heap.objs.size, .str (txt l) t] (getItem (.str (txt l) t) (.ref s.heap.objs.size)) := by with_unfolding_all rfl)
    (ht : ∀ r, letTemporaryGo value (.str (txt l) t) r = pure () := by intro _; with_unfolding_all rfl) :
    wpAny (model prog w) A (subscriptTail value slice (.str (txt l) t) (.ref s.heap.objs.size)) Q E { s with heap := s.heap.push { cls := .type "slice", data := .fields #[.none, .none, .none] } } :=
  slice_strN_nn hF hN (fun h' t' k a b => by rw [slice_all]; exact h h' t' k a b) hs ht (by rw [txt_len, sizeLine_eq]; omega)
theorem at_txt {i : Int} {p : Nat} {u : Tok} (hp : i = (p : Int)) (hl : p < l.length) (hz : l.length ≤ 100) (h : Q (.str (one (l.getD p 0)) s.toks) { s with toks := s.toks + 1 })
    (hs : subscripted slice false (.str (txt l) t) (.int i u) = operate [.str (txt l) t, .int i u] (getItem (.str (txt l) t) (.int i u)) := by with_unfolding_all rfl)
    (ht : ∀ r, letTemporaryGo value (.str (txt l) t) r = pure () := by intro _; with_unfolding_all rfl) :
    wpAny (model prog w) A (subscriptTail value slice (.str (txt l) t) (.int i u)) Q E s :=
  item_str (fitsSsize_of (N := 9223372036854775808) (by omega) (by omega) (Int.le_refl _)) (by rw [txt_len]; omega) (by rw [txt_len]; omega) (fun _ => by rw [item_txt hp hl]; exact h) hs ht
theorem at_neg {i : Int} {q : Nat} {u : Tok} (hp : i = -(q : Int) - 1) (hl : q < l.length) (hz : l.length ≤ 100) (h : Q (.str (one (l.getD (l.length - 1 - q) 0)) s.toks) { s with toks := s.toks + 1 })
    (hs : subscripted slice false (.str (txt l) t) (.int i u) = operate [.str (txt l) t, .int i u] (getItem (.str (txt l) t) (.int i u)) := by with_unfolding_all rfl)
    (ht : ∀ r, letTemporaryGo value (.str (txt l) t) r = pure () := by intro _; with_unfolding_all rfl) :
    wpAny (model prog w) A (subscriptTail value slice (.str (txt l) t) (.int i u)) Q E s :=
  item_str (fitsSsize_of (N := 9223372036854775808) (by omega) (by omega) (Int.le_refl _)) (by rw [txt_len]; omega) (by rw [txt_len]; omega) (fun _ => by rw [item_neg hp hl]; exact h) hs ht
theorem len_txt (hz : l.length ≤ 100) (h : Q (.int (l.length : Int) (s.toks + 1)) { s with toks := s.toks + 1 + 1 }) : wpAny (model prog w) A (call (.builtin "len") [.str (txt l) t]) Q E s :=
  PyProof.Rows.len_str (by rw [txt_len]; omega) (by rw [txt_len]; exact h)
theorem tru_txt {Q : Bool → Shared → Prop} (hz : l.length ≤ 100) (h1 : 0 < l.length → Q true { s with toks := s.toks + 1 + 1 }) (h2 : l.length = 0 → Q false { s with toks := s.toks + 1 + 1 }) : wpAny (model prog w) A (truthy (.str (txt l) t)) Q E s := by
  refine SBL.truthy (by rw [txt_len]; omega) ?_
  rw [txt_len]
  cases l with
  | nil => exact h2 rfl
  | cons a r => exact h1 (Nat.succ_pos _)
theorem eq_one {a b : Nat} {u : Tok} (h1 : a = b → Q (.bool true) s) (h2 : a ≠ b → Q (.bool false) s) : wpAny (model prog w) A (compareOp .Eq (.str (one a) t) (.str (one b) u)) Q E s := by
  refine PyProof.Rows.eq_str ?_
  by_cases h : a = b
  · subst h; rw [show ((one a : Str) == one a) = true from beq_self_eq_true _]; exact h1 rfl
  · rw [show ((one a : Str) == one b) = false from beq_eq_false_iff_ne.mpr (fun e => h (by injection e with e; injection e with e; injection e with e))]; exact h2 h
end
end Mine
end
section
open PySem PySem.W PyProof.Rows PySem.Calls PySem.Spec
set_option maxRecDepth 100000
set_option maxHeartbeats 8000000
namespace Mine

noncomputable def cost (x y : Nat) : Int := if x = y then 0 else 2
noncomputable def rowStep (bc : Nat) : Int → Int → Int → List Nat → List Int → List Int × Int × Int
  | d, r, m, c :: as, x :: xs =>
    let r' := min (min r x + 2) (d + cost bc c)
    let y := rowStep bc x r' (if r' < m then r' else m) as xs
    (r' :: y.1, y.2.1, y.2.2)
  | _, r, m, _, _ => ([], r, m)
noncomputable def bigM : Int := 9223372036854775807
noncomputable def rowsF (mc : Int) (a : List Nat) : Nat → List Nat → List Int → Int → Int
  | i, bc :: bs, row, _ =>
    let y := rowStep bc ((i : Int) * 2) ((i : Int) * 2) bigM a row
    if y.2.2 > mc then mc + 1 else rowsF mc a (i + 1) bs y.1 y.2.1
  | _, [], _, res => res
noncomputable def core (a b : List Nat) (mc : Int) : Int :=
  if ((b.length : Int) - (a.length : Int)) * 2 > mc then mc + 1
  else rowsF mc a 0 b ((List.range a.length).map fun (i : Nat) => 2 * ((i : Int) + 1)) 0
noncomputable def strip2 (a b : List Nat) (mc : Int) : Int :=
  if a.length = 0 ∨ b.length = 0 then 2 * ((a.length : Int) + (b.length : Int))
  else if b.length < a.length then core b a mc else core a b mc
noncomputable def cpl : List Nat → List Nat → Nat
  | x :: a, y :: b => if x = y then cpl a b + 1 else 0
  | _, _ => 0
noncomputable def strip1 (a b : List Nat) (mc : Int) : Int := strip2 (a.take (a.length - cpl a.reverse b.reverse)) (b.take (b.length - cpl a.reverse b.reverse)) mc
noncomputable def levF (a b : List Nat) (mc : Int) : Int := if a = b then 0 else strip1 (a.drop (cpl a b)) (b.drop (cpl a b)) mc
theorem cpl_of : ∀ (a b : List Nat) (p : Nat), p ≤ a.length → p ≤ b.length → a.take p = b.take p → (a.length = p ∨ b.length = p ∨ a.getD p 0 ≠ b.getD p 0) → cpl a b = p
  | [], b, p, h1, _, _, _ => by have : p = 0 := by simpa using h1
                                subst this; rfl
  | x :: a, [], p, _, h2, _, _ => by have : p = 0 := by simpa using h2
                                     subst this; rfl
  | x :: a, y :: b, 0, _, _, _, h => by
    have : x ≠ y := by
      rcases h with h | h | h
      · cases h
      · cases h
      · exact h
    simp [cpl, this]
  | x :: a, y :: b, p + 1, h1, h2, h3, h => by
    simp only [List.take_succ_cons, List.cons.injEq] at h3
    simp only [List.length_cons, Nat.add_le_add_iff_right, Nat.add_right_cancel_iff, List.getD_cons_succ] at h1 h2 h
    simp [cpl, h3.1, cpl_of a b p h1 h2 h3.2 h]
theorem take_getD {l : List Nat} {p : Nat} (h : p < l.length) : l.take (p + 1) = l.take p ++ [l.getD p 0] := by
  rw [List.take_add_one, List.getD_eq_getElem?_getD, List.getElem?_eq_getElem h]; rfl
theorem drop_getD {l : List Nat} {q : Nat} (h : q < l.length) : l.drop (l.length - (q + 1)) = l.getD (l.length - 1 - q) 0 :: l.drop (l.length - q) := by
  rw [show l.length - q = (l.length - (q + 1)) + 1 by omega, ← List.getElem_cons_drop (as := l) (i := l.length - (q + 1)) (by omega)]
  rw [List.getD_eq_getElem?_getD, List.getElem?_eq_getElem (by omega)]
  simp only [Option.getD_some]
  congr 2
  omega
theorem cpl_rev (a b : List Nat) (q : Nat) (h1 : q ≤ a.length) (h2 : q ≤ b.length) (h3 : a.drop (a.length - q) = b.drop (b.length - q)) (h : a.length = q ∨ b.length = q ∨ a.getD (a.length - 1 - q) 0 ≠ b.getD (b.length - 1 - q) 0) : cpl a.reverse b.reverse = q := by
  refine cpl_of _ _ q (by simpa using h1) (by simpa using h2) ?_ ?_
  · rw [List.take_reverse, List.take_reverse, h3]
  · simp only [List.length_reverse]
    rcases h with h | h | h
    · exact .inl h
    · exact .inr (.inl h)
    · by_cases ha : a.length = q
      · exact .inl ha
      by_cases hb : b.length = q
      · exact .inr (.inl hb)
      refine .inr (.inr ?_)
      simpa [List.getD_eq_getElem?_getD, List.getElem?_reverse (show q < a.length by omega), List.getElem?_reverse (show q < b.length by omega)] using h
theorem strip2_zero {a b : List Nat} {mc : Int} (h : a.length = 0 ∨ b.length = 0) : 2 * ((a.length : Int) + (b.length : Int)) = strip2 a b mc := by unfold strip2; rw [if_pos h]
theorem strip2_swap {a b : List Nat} {mc : Int} (h1 : 0 < a.length) (h2 : 0 < b.length) (h : b.length < a.length) : strip2 a b mc = core b a mc := by unfold strip2; rw [if_neg (by omega), if_pos h]
theorem strip2_keep {a b : List Nat} {mc : Int} (h1 : 0 < a.length) (h2 : 0 < b.length) (h : ¬ b.length < a.length) : strip2 a b mc = core a b mc := by unfold strip2; rw [if_neg (by omega), if_neg h]
theorem core_out {a b : List Nat} {mc : Int} (h : mc < ((b.length : Int) - (a.length : Int)) * 2) : mc + 1 = core a b mc := by unfold core; rw [if_pos h]
theorem core_in {a b : List Nat} {mc : Int} (h : ¬ mc < ((b.length : Int) - (a.length : Int)) * 2) : core a b mc = rowsF mc a 0 b ((List.range a.length).map fun (i : Nat) => 2 * ((i : Int) + 1)) 0 := by unfold core; rw [if_neg h]
theorem rs2 (n : Nat) : PySem.Builtin.Range.rangeSize 2 (2 * ((n : Int) + 1)) 2 = (n : Int) := by
  unfold PySem.Builtin.Range.rangeSize
  simp only [show (2 : Int) > 0 by decide, if_true]
  split <;> omega
theorem rs1 (n : Nat) : PySem.Builtin.Range.rangeSize 0 (n : Int) 1 = (n : Int) := by
  unfold PySem.Builtin.Range.rangeSize
  simp only [show (1 : Int) > 0 by decide, if_true]
  split <;> omega
structure LO where
  (l : Addr) (vs : List Value) (ns : List Int) (k : Nat) (res : Int) (t : Nat)
structure LI where
  (vs : List Value) (ns : List Int) (k : Nat) (d r m : Int) (td tr tm : Nat)
theorem row0 (n : Nat) : rangeL 2 2 n = (List.range n).map fun (i : Nat) => 2 * ((i : Int) + 1) := by
  unfold rangeL
  refine List.map_congr_left fun i _ => ?_
  omega
theorem drop_cons {l : List Nat} {i : Nat} (h : i < l.length) : l.drop i = l.getD i 0 :: l.drop (i + 1) := by
  rw [← List.getElem_cons_drop (as := l) (i := i) h, List.getD_eq_getElem?_getD, List.getElem?_eq_getElem h]; rfl
theorem drop_consI {l : List Int} {i : Nat} (h : i < l.length) : l.drop i = l.getD i 0 :: l.drop (i + 1) := by
  rw [← List.getElem_cons_drop (as := l) (i := i) h, List.getD_eq_getElem?_getD, List.getElem?_eq_getElem h]; rfl
theorem rowsF_step {mc : Int} {a y : List Nat} {i : Nat} {row : List Int} {res : Int} (h : i < y.length) :
    rowsF mc a i (y.drop i) row res = (if (rowStep (y.getD i 0) ((i : Int) * 2) ((i : Int) * 2) bigM a row).2.2 > mc then mc + 1 else rowsF mc a (i + 1) (y.drop (i + 1)) (rowStep (y.getD i 0) ((i : Int) * 2) ((i : Int) * 2) bigM a row).1 (rowStep (y.getD i 0) ((i : Int) * 2) ((i : Int) * 2) bigM a row).2.1) := by
  rw [drop_cons h]; rfl
theorem rowStep_step {bc : Nat} {d r m : Int} {x : List Nat} {ns : List Int} {j : Nat} (h1 : j < x.length) (h2 : j < ns.length) :
    rowStep bc d r m (x.drop j) (ns.drop j) = (let r' := min (min r (ns.getD j 0) + 2) (d + cost bc (x.getD j 0)); let y := rowStep bc (ns.getD j 0) r' (if r' < m then r' else m) (x.drop (j + 1)) (ns.drop (j + 1)); (r' :: y.1, y.2.1, y.2.2)) := by
  rw [drop_cons h1, drop_consI h2]; rfl
theorem rowStep_inv {bc : Nat} {d r m : Int} {x : List Nat} {ns : List Int} {j : Nat} {full : List Int × Int × Int} (h1 : j < x.length) (h2 : j < ns.length)
    (hf : full = (ns.take j ++ (rowStep bc d r m (x.drop j) (ns.drop j)).1, (rowStep bc d r m (x.drop j) (ns.drop j)).2)) (r' : Int) (hr : r' = min (min r (ns.getD j 0) + 2) (d + cost bc (x.getD j 0))) (m' : Int) (hm : m' = if r' < m then r' else m) :
    full = ((ns.set j r').take (j + 1) ++ (rowStep bc (ns.getD j 0) r' m' (x.drop (j + 1)) ((ns.set j r').drop (j + 1))).1, (rowStep bc (ns.getD j 0) r' m' (x.drop (j + 1)) ((ns.set j r').drop (j + 1))).2) := by
  rw [hf, rowStep_step h1 h2]
  subst hr
  subst hm
  simp only
  rw [List.drop_set_of_lt (by omega)]
  have e : (ns.set j (min (min r (ns.getD j 0) + 2) (d + cost bc (x.getD j 0)))).take (j + 1) = ns.take j ++ [min (min r (ns.getD j 0) + 2) (d + cost bc (x.getD j 0))] := by
    rw [List.take_add_one, List.getElem?_set_self h2, List.take_set_of_le (Nat.le_refl _)]; rfl
  rw [e]
  simp
theorem step_is {x y : Nat} {n r d : Int} : (if (d + if x = y then (0 : Int) else 2) < (if n < r then n else r) + 2 then (d + if x = y then (0 : Int) else 2) else (if n < r then n else r) + 2) = min (min r n + 2) (d + cost x y) := by
  have e : (if x = y then (0 : Int) else 2) = cost x y := rfl
  rw [e]
  generalize cost x y = c
  split <;> split <;> omega
theorem step_lt {r m : Int} : (if r < m then r else m) = if r < m then r else m := rfl
end Mine
end
section
open PySem PySem.W PyProof.Rows PySem.Calls PySem.Spec
set_option maxRecDepth 100000
set_option maxHeartbeats 8000000
namespace Mine
theorem fill_C1s : PySem.Challenge.rw_sc0035_01.foot = 8 ∧ hd.heap_39 = hd.heap_39 := by
  w_top off
  k_fill
  exact ⟨rfl, rfl⟩
theorem one_lower : ∀ c : Nat, c < 81 → 65 ≤ c → Txt.lower (one c) = one (c + 32) := by decide +kernel
theorem oneb_eq {a b : Nat} : (one a == one b) = true ↔ a = b := by
  rw [beq_iff_eq]; constructor
  · intro e; injection e with e; injection e with e; injection e with e
  · rintro rfl; rfl
theorem c_subst {w : World} {A : Around} {s : Shared} {Q E : Value → Shared → Prop} (C : Cx 1 w A s.heap)
    {a b : Nat} {ta tb : Tok} (ha : 65 ≤ a ∧ a < 81) (hb : 65 ≤ b ∧ b < 81)
    (h : ∀ t h' tk, Keeps s.heap h' → Q (.int (if a = b then 0 else 2) t) { s with heap := h', toks := tk }) :
    wpAny (model PR w) A (call (.ref 21) [.str (one a) ta, .str (one b) tb]) Q E s := by
  obtain ⟨X, ⟨prg, loose, mean, mg, mb, T⟩, hh, hroom, hun⟩ := C
  obtain ⟨_, dp, fr, gd, un⟩ := A
  cases hh
  replace hroom : dp + 1 < recursionLimit := hroom
  replace hun : un + 40 < cLine := hun
  have h2 : ∀ z t h' tk, z = (if a = b then (0 : Int) else 2) → Keeps s.heap h' → Q (.int z t) { s with heap := h', toks := tk } := by rintro _ t h' tk rfl k; exact h t h' tk k
  have h1 : (one a).length ≤ 10 := by show 1 ≤ 10; omega
  have h3 : (one b).length ≤ 10 := by show 1 ≤ 10; omega
  refine own_call [(Str.ofString "ch_a", .str (one a) ta), (Str.ofString "ch_b", .str (one b) tb)] X T (by k_is) (by k_is) (by (show dp < _); omega) (BindsTo.of_eq rfl) (locs rfl) (fun L h₁ tk F N => ?_) (by decide) rfl rfl rfl
  k_fold
  (repeat' (first | (k_unfold; (try dsimp only)) | ((fail_if_success (with_reducible show wpAny _ _ (PySem.exec (PySem.Stmt.While _ _ _ _) _) _ _ _)); (fail_if_success (with_reducible show wpAny _ _ (PySem.exec (PySem.Stmt.For _ _ _ _ _) _) _ _ _)); (fail_if_success (with_reducible show wpAny _ _ (PySem.pyIter _) _ _ _)); first | walk1 | (dsimp only; walk1) | (leave1; try dsimp only))))
  all_goals (refine h2 _ _ _ _ ?_ (Fr.keep (by assumption)))
  · rename ((one a == one b) = true) => e
    rw [oneb_eq] at e; simp [e]
  · rename ((one a == one b) = false) => e
    rename ((Txt.lower (one a) == Txt.lower (one b)) = true) => e'
    rw [one_lower a ha.2 ha.1, one_lower b hb.2 hb.1, oneb_eq] at e'
    have e2 : a = b := by omega
    rw [e2] at e; simp at e
  · rename ((one a == one b) = false) => e
    have e2 : ¬ a = b := fun z => by rw [z] at e; simp at e
    simp [e2]
end Mine
end
section
open PySem PySem.W PyProof.Rows PySem.Calls PySem.Spec
set_option maxRecDepth 100000
set_option maxHeartbeats 8000000
namespace Mine
theorem fill_C1n : PySem.Challenge.rw_sc0035_01.foot = 8 ∧ hd.heap_39 = hd.heap_39 := by
  w_top off
  k_fill
  exact ⟨rfl, rfl⟩
theorem c_number {w : World} {A : Around} {s : Shared} {Q E : Value → Shared → Prop} (C : Cx 1 w A s.heap)
    {l : Addr} {vs : List Value} {ns : List Int} (hl : s.heap.IsList l vs.toArray) (hi : IntsAre vs ns)
    (h : ∀ t h' tk, Keeps s.heap h' → Q (.int (ns.foldl (fun a n => 16 * a + n) 0) t) { s with heap := h', toks := tk }) :
    wpAny (model PR w) A (call (.ref 89) [.ref l]) Q E s := by
  obtain ⟨X, ⟨prg, loose, mean, mg, mb, T⟩, hh, hroom, hun⟩ := C
  obtain ⟨_, dp, fr, gd, un⟩ := A
  cases hh
  refine own_call [(Str.ofString "cards", .ref l)] X T (by k_is) (by k_is) (by (show dp < _); (replace hroom : dp + 1 < recursionLimit := hroom); omega) (BindsTo.of_eq rfl) (locs rfl) (fun L h₁ tk F N => ?_) (by decide) rfl rfl rfl
  k_fold
  try k_steps
  have h2 : ∀ z t h' tk, z = ns.foldl (fun a n => 16 * a + n) 0 → Keeps s.heap h' → Q (.int z t) { s with heap := h', toks := tk } := by rintro _ t h' tk rfl k; exact h t h' tk k
  exact h2 _ _ _ _ (fold1 (fun a n => 16 * a + n) ns 0) (Fr.keep (by assumption))
end Mine
end
section
open PySem PySem.W PyProof.Rows PySem.Calls PySem.Spec
set_option maxRecDepth 100000
set_option maxHeartbeats 8000000
namespace Mine
theorem fill_C1ap : PySem.Challenge.rw_sc0035_01.foot = 8 ∧ hd.heap_39 = hd.heap_39 := by
  w_top off
  k_fill
  exact ⟨rfl, rfl⟩
noncomputable def val16 (ds : List Nat) : Nat := ds.foldl (fun a d => 16 * a + d) 0
theorem val16_snoc (ds : List Nat) (d : Nat) : val16 (ds ++ [d]) = 16 * val16 ds + d := by simp [val16]
theorem val16_ge (ds : List Nat) : ∀ a, a ≤ ds.foldl (fun a d => 16 * a + d) a := by
  induction ds with
  | nil => intro a; exact Nat.le_refl _
  | cons d r ih => intro a; have := ih (16 * a + d); simp only [List.foldl_cons]; omega
noncomputable def ap (ds : List Nat) : Array UInt8 := (ds.map fun d => UInt8.ofNat (65 + d)).toArray
noncomputable abbrev APs : Array UInt8 := #[65, 66, 67, 68, 69, 70, 71, 72, 73, 74, 75, 76, 77, 78, 79, 80]
theorem ap_cut : ∀ d : Nat, d < 16 → KBy.whole APs (some (d : Int)) (some ((d : Int) + 1)) = false ∧ KBy.picked APs (some (d : Int)) (some ((d : Int) + 1)) = #[UInt8.ofNat (65 + d)] := by decide +kernel
theorem c_ap {w : World} {A : Around} {s : Shared} {Q E : Value → Shared → Prop} (C : Cx 1 w A s.heap)
    {n : Int} {tn : Tok} {ds : List Nat} (hn : n.natAbs = val16 ds) (hd : ∀ d ∈ ds, d < 16) (h0 : ds.head? ≠ some 0) (hlen : ds.length ≤ 8)
    (h : ∀ t h' tk, Keeps s.heap h' → Q (.bytes (ap ds) t) { s with heap := h', toks := tk }) :
    wpAny (model PR w) A (call (.ref 49) [.int n tn]) Q E s := by
  obtain ⟨X, ⟨prg, loose, mean, mg, mb, T⟩, hh, hroom, hun⟩ := C
  obtain ⟨_, dp, fr, gd, un⟩ := A
  cases hh
  replace hroom : dp + 1 < recursionLimit := hroom
  replace hun : un + 40 < cLine := hun
  refine own_call [(Str.ofString "num", .int n tn)] X T (by k_is) (by k_is) (by (show dp < _); omega) (BindsTo.of_eq rfl) (locs rfl) (fun L h₁ tk F N => ?_) (by decide) rfl rfl rfl
  k_fold
  (repeat' (first | (k_unfold; (try dsimp only)) | ((fail_if_success (with_reducible show wpAny _ _ (PySem.exec (PySem.Stmt.While _ _ _ _) _) _ _ _)); (fail_if_success (with_reducible show wpAny _ _ (PySem.exec (PySem.Stmt.For _ _ _ _ _) _) _ _ _)); (fail_if_success (with_reducible show wpAny _ _ (PySem.pyIter _) _ _ _)); first | walk1 | (dsimp only; walk1) | (leave1; try dsimp only))))
  have e : (if n < 0 then -n else n) = ((val16 ds : Nat) : Int) := by rw [← hn]; split <;> omega
  rename Fr _ _ _ _ => F1
  rename News _ _ _ _ => N1
  refine while_mine (σ := List Nat × List Nat × Nat × Nat × Nat) (fun _ => []) (fun c => [(Str.ofString "num", .int ((val16 c.1 : Nat) : Int) c.2.2.1), (Str.ofString "val", .bytes (ap c.2.1) c.2.2.2.1), (Str.ofString "AP", .bytes APs c.2.2.2.2)])
    (fun c => c.1 ++ c.2.1 = ds) (fun c => c.1.length) ⟨ds, [], ?ta, ?tb, ?tc⟩ F1 N1 (fun _ h => nomatch h) ?hp (by simp) (fun c u h tk hP F2 N2 => ?turn)
  case hp =>
    rw [← e]
    ((repeat' (first | exact List.forall_mem_nil _ | (refine List.forall_mem_cons.mpr ⟨by with_unfolding_all rfl, ?_⟩))))
  case turn =>
  obtain ⟨pre, post, t1, t2, t3⟩ := c
  dsimp only at hP F2 N2 ⊢
  k_fold
  (repeat' (first | (k_unfold; (try dsimp only)) | ((fail_if_success (with_reducible show wpAny _ _ (PySem.exec (PySem.Stmt.While _ _ _ _) _) _ _ _)); (fail_if_success (with_reducible show wpAny _ _ (PySem.exec (PySem.Stmt.For _ _ _ _ _) _) _ _ _)); (fail_if_success (with_reducible show wpAny _ _ (PySem.pyIter _) _ _ _)); first | walk1 | (dsimp only; walk1) | (leave1; try dsimp only))))
  · rename ((val16 _ : Nat) : Int) ≠ 0 => hne
    rename Fr _ _ _ _ => F'
    rename News _ _ _ _ => N'
    have hd2 : ∀ d ∈ pre, d < 16 := fun d hm => hd d (hP ▸ List.mem_append_left _ hm)
    obtain ⟨pre', d, rfl⟩ : ∃ pre' d, pre = pre' ++ [d] := by
      rcases List.eq_nil_or_concat pre with e | ⟨p, d, e⟩
      · subst e; exact absurd rfl hne
      · exact ⟨p, d, by simpa using e⟩
    have hd3 : d < 16 := hd2 d (by simp)
    have e1 : ((val16 (pre' ++ [d]) : Nat) : Int).fmod 16 = (d : Int) := by rw [val16_snoc, Int.fmod_eq_emod_of_nonneg _ (by decide)]; omega
    have e2 : ((val16 (pre' ++ [d]) : Nat) : Int).fdiv 16 = ((val16 pre' : Nat) : Int) := by rw [val16_snoc, Int.fdiv_eq_ediv_of_nonneg _ (by decide)]; omega
    have hlen2 : post.length ≤ 8 := by rw [← hP] at hlen; simp at hlen; omega
    have hc := ap_cut d hd3
    rw [← e1] at hc
    refine KBy.slice_N (s := ⟨_, _, _, _, _⟩) F' N' (by constructor) (by constructor) hc.1 (by rw [hc.2]; simp) ?_
    intro h5 t5 k5 F5 N5
    (repeat' (first | (k_unfold; (try dsimp only)) | ((fail_if_success (with_reducible show wpAny _ _ (PySem.exec (PySem.Stmt.While _ _ _ _) _) _ _ _)); (fail_if_success (with_reducible show wpAny _ _ (PySem.exec (PySem.Stmt.For _ _ _ _ _) _) _ _ _)); (fail_if_success (with_reducible show wpAny _ _ (PySem.pyIter _) _ _ _)); first | walk1 | (dsimp only; walk1) | (leave1; try dsimp only))))
    refine KBy.add_bytes ?_ ?_
    · rw [hc.2]; simp [ap]; omega
    intro t6 k6
    (repeat' (first | (k_unfold; (try dsimp only)) | ((fail_if_success (with_reducible show wpAny _ _ (PySem.exec (PySem.Stmt.While _ _ _ _) _) _ _ _)); (fail_if_success (with_reducible show wpAny _ _ (PySem.exec (PySem.Stmt.For _ _ _ _ _) _) _ _ _)); (fail_if_success (with_reducible show wpAny _ _ (PySem.pyIter _) _ _ _)); first | walk1 | (dsimp only; walk1) | (leave1; try dsimp only))))
    have e3 : KBy.picked APs (some ((↑(val16 (pre' ++ [d])) : Int).fmod 16)) (some ((↑(val16 (pre' ++ [d])) : Int).fmod 16 + 1)) ++ ap post = ap (d :: post) := by rw [hc.2]; simp [ap]
    refine TurnW.next (pre', d :: post, ?ua, ?ub, ?uc) (by assumption) (by assumption) (fun _ h => nomatch h) ?hp2 (by simpa using hP) (by simp)
    case hp2 =>
      rw [← e2, ← e3]
      ((repeat' (first | exact List.forall_mem_nil _ | (refine List.forall_mem_cons.mpr ⟨by with_unfolding_all rfl, ?_⟩))))
  · have hpre : pre = [] := by
      cases pre with
      | nil => rfl
      | cons x r =>
        exfalso
        rename ((val16 _ : Nat) : Int) = 0 => hz
        have h1 := val16_ge r (16 * 0 + x)
        have h2 : val16 (x :: r) = 0 := by omega
        have h3 : x = 0 := by simp only [val16, List.foldl_cons] at h2; omega
        rw [← hP, h3] at h0
        exact h0 rfl
    subst hpre
    have e4 : post = ds := hP
    subst e4
    exact h _ _ _ (Fr.keep F2)
end Mine
end
section
open PySem PySem.W PyProof.Rows PySem.Calls PySem.Spec
set_option maxRecDepth 100000
set_option maxHeartbeats 8000000
namespace Mine
theorem fill_C1lev : PySem.Challenge.rw_sc0035_01.foot = 8 ∧ hd.heap_39 = hd.heap_39 := by
  w_top off
  k_fill
  exact ⟨rfl, rfl⟩
theorem mins (a q : Nat) : min (a - q) a = a - q := Nat.min_eq_left (Nat.sub_le _ _)
theorem sub100 {l : List Nat} {q : Nat} (h : l.length ≤ 8) : (l.drop q).length ≤ 100 := by rw [List.length_drop]; exact Nat.le_trans (Nat.sub_le _ _) (Nat.le_trans h (by decide))
theorem min100 {l : List Nat} {q : Nat} (h : l.length ≤ 8) : (l.take q).length ≤ 100 := by rw [List.length_take]; exact Nat.le_trans (Nat.min_le_right _ _) (Nat.le_trans h (by decide))
theorem msub {n q : Nat} (h : q < n) : n - (q + 1) < n - q := by omega
theorem negS (q : Nat) : (-(q : Int) - 1) = -((q + 1 : Nat) : Int) := by omega
theorem c_lev {w : World} {A : Around} {s : Shared} {Q E : Value → Shared → Prop} (C : Cx 2 w A s.heap)
    {a b : List Nat} {ta tb tm : Tok} {mc : Int} (ha : ∀ c ∈ a, 65 ≤ c ∧ c < 81) (hb : ∀ c ∈ b, 65 ≤ c ∧ c < 81) (hla : a.length ≤ 8) (hlb : b.length ≤ 8)
    (h : ∀ t h' tk, Keeps s.heap h' → Q (.int (levF a b mc) t) { s with heap := h', toks := tk }) :
    wpAny (model PR w) A (call (.ref 28) [.str (txt a) ta, .str (txt b) tb, .int mc tm]) Q E s := by
  obtain ⟨X, ⟨prg, loose, mean, mg, mb, T⟩, hh, hroom, hun⟩ := C
  obtain ⟨_, dp, fr, gd, un⟩ := A
  cases hh
  replace hroom : dp + 2 < recursionLimit := hroom
  replace hun : un + 60 < cLine := hun
  have h2 : ∀ z t h' tk, z = levF a b mc → Keeps s.heap h' → Q (.int z t) { s with heap := h', toks := tk } := by rintro _ t h' tk rfl k; exact h t h' tk k
  refine own_call [(Str.ofString "a", .str (txt a) ta), (Str.ofString "b", .str (txt b) tb), (Str.ofString "max_cost", .int mc tm)] X T (by k_is) (by k_is) (by (show dp < _); omega) (BindsTo.of_eq rfl) (locs rfl) (fun L h₁ tk F N => ?_) (by decide) rfl rfl rfl
  k_fold
  (repeat' (first | (k_unfold; (try dsimp only)) | ((fail_if_success (with_reducible show wpAny _ _ (PySem.exec (PySem.Stmt.While _ _ _ _) _) _ _ _)); (fail_if_success (with_reducible show wpAny _ _ (PySem.exec (PySem.Stmt.For _ _ _ _ _) _) _ _ _)); (fail_if_success (with_reducible show wpAny _ _ (PySem.pyIter _) _ _ _)); (fail_if_success (with_reducible show wpAny _ _ (PySem.setItem _ _ _) _ _ _)); first | ((with_reducible show wpAny _ _ (PySem.call (Value.ref _) _) _ _ _); (k_dflt (refine c_subst (by (exact ⟨Frag.In.keeps (by assumption) (Fr.keep (by assumption)), ⟨_, _, _, _, _, Top.keeps (by assumption) (Fr.keep (by assumption))⟩, rfl, by (simp only [Around.deeper, Around.in1]; omega), by (simp only [Around.deeper, Around.in1]; omega)⟩)) (by assumption) (by assumption) ?_; intro _ _ _ k9q; (rename Fr _ _ _ _ => F9q); (rename News _ _ _ _ => N9q); (have F8q := Fr.keepsK F9q k9q); (have N8q := News.keepsK N9q k9q); clear F9q N9q k9q))) | ((k_dflt ((with_reducible show wpAny _ _ (call (Value.type _) [Value.ref _]) _ _ _); (refine list_range _ (by rfl) (by assumption) (by assumption) (by assumption) (by exact small_mine (by omega) (by omega) (by omega)) (by assumption) (by omega) ?_; intro _ _ _ _ _ _ l1q _ _; (try k_lt l1q))))) | ((k_dflt ((with_reducible show wpAny _ _ (call (Value.builtin "len") [Value.str _ _]) _ _ _); (refine len_txt (by first | exact Nat.le_trans (by with_reducible assumption) (by decide) | exact sub100 (by with_reducible assumption) | exact min100 (by with_reducible assumption) | ((try simp only [List.length_drop, List.length_take]); omega)) ?_)))) | ((k_dflt ((with_reducible show wpAny _ _ (compareOp _ (Value.str (one _) _) (Value.str (one _) _)) _ _ _); (refine eq_one ?_ ?_; all_goals intro _)))) | ((with_reducible show wpAny _ _ (truthy (Value.str _ _)) _ _ _); (k_dflt (refine tru_txt (by first | exact Nat.le_trans (by with_reducible assumption) (by decide) | exact sub100 (by with_reducible assumption) | exact min100 (by with_reducible assumption) | ((try simp only [List.length_drop, List.length_take]); omega)) ?_ ?_; all_goals (intro hl9q; (try simp only [List.length_drop, List.length_take, mins, Nat.sub_pos_iff_lt, Nat.sub_eq_zero_iff_le] at hl9q))))) | ((with_reducible show wpAny _ _ (subscriptTail (Expr.Name _ _) (Expr.BinOp _ _ _ _) (Value.str _ _) (Value.int _ _)) _ _ _); (k_dflt (refine at_neg (by rfl) (by first | with_reducible assumption | ((try simp only [List.length_drop, List.length_take] at *); omega)) (by first | exact Nat.le_trans (by with_reducible assumption) (by decide) | exact sub100 (by with_reducible assumption) | exact min100 (by with_reducible assumption) | ((try simp only [List.length_drop, List.length_take]); omega)) ?_))) | ((k_dflt ((with_reducible show wpAny _ _ (subscriptTail _ (Expr.Slice none (some _) none _) _ _) _ _ _); (refine cut_all (s := ⟨_, _, _, _, _⟩) (by assumption) (by assumption) (by first | exact Nat.le_trans (by with_reducible assumption) (by decide) | exact sub100 (by with_reducible assumption) | exact min100 (by with_reducible assumption) | ((try simp only [List.length_drop, List.length_take]); omega)) ?_); intro _ _ _ _ _))) | ((k_dflt ((with_reducible show wpAny _ _ (subscriptTail _ (Expr.Slice none (some _) none _) _ _) _ _ _); (refine cut_to (s := ⟨_, _, _, _, _⟩) (by rfl) (by omega) (by assumption) (by assumption) (by first | with_reducible assumption | ((try simp only [List.length_drop, List.length_take] at *); omega)) (by first | exact Nat.le_trans (by with_reducible assumption) (by decide) | exact sub100 (by with_reducible assumption) | exact min100 (by with_reducible assumption) | ((try simp only [List.length_drop, List.length_take]); omega)) ?_); intro _ _ _ _ _))) | ((with_reducible show wpAny _ _ (subscriptTail (Expr.Name _ _) (Expr.Name _ _) (Value.str _ _) (Value.int _ _)) _ _ _); (k_dflt (refine at_txt (by rfl) (by first | with_reducible assumption | ((try simp only [List.length_drop, List.length_take] at *); omega)) (by first | exact Nat.le_trans (by with_reducible assumption) (by decide) | exact sub100 (by with_reducible assumption) | exact min100 (by with_reducible assumption) | ((try simp only [List.length_drop, List.length_take]); omega)) ?_))) | ((k_dflt ((with_reducible show wpAny _ _ (subscriptTail _ (Expr.Slice (some _) none none _) _ _) _ _ _); (refine cut_from (s := ⟨_, _, _, _, _⟩) (by rfl) (by assumption) (by assumption) (by first | with_reducible assumption | ((try simp only [List.length_drop, List.length_take] at *); omega)) (by first | exact Nat.le_trans (by with_reducible assumption) (by decide) | exact sub100 (by with_reducible assumption) | exact min100 (by with_reducible assumption) | ((try simp only [List.length_drop, List.length_take]); omega)) ?_); intro _ _ _ _ _))) | walk1 | (dsimp only; walk1) | (leave1; try dsimp only))))
  · refine h2 _ _ _ _ ?_ (Fr.keep (by assumption))
    rename (_ == _) = true => e
    have e2 : a = b := by have := eq_of_beq e; injection this with this; injection this
    simp [levF, e2]
  have hne : a ≠ b := by
    rename (_ == _) = false => e
    intro e2; rw [e2] at e; simp at e
  rename Fr _ _ _ _ => F1
  rename News _ _ _ _ => N1
  refine while_mine2 (σ := Nat × Nat) (fun _ => []) (fun c => [(Str.ofString "pre", .int (c.1 : Int) c.2), (Str.ofString "a", .str (txt a) ta), (Str.ofString "b", .str (txt b) tb), (Str.ofString "max_cost", .int mc tm)])
    (fun c => c.1 ≤ a.length ∧ c.1 ≤ b.length ∧ a.take c.1 = b.take c.1) (fun c => a.length - c.1) (fun c => c.1 ≤ a.length ∧ c.1 ≤ b.length ∧ cpl a b = c.1) ⟨0, ?ta⟩ F1 N1 (fun _ h => nomatch h) ?hp (by simp) (fun c u h tk hP F2 N2 => ?turn) (fun c u h tk hP F2 N2 => ?done)
  case hp => ((repeat' (first | exact List.forall_mem_nil _ | (refine List.forall_mem_cons.mpr ⟨by with_unfolding_all rfl, ?_⟩))))
  case turn =>
    clear F1 N1
    obtain ⟨p, t1⟩ := c
    dsimp only at hP F2 N2 ⊢
    obtain ⟨hp1, hp2, hp3⟩ := hP
    k_fold
    (repeat' (first | (k_unfold; (try dsimp only)) | ((fail_if_success (with_reducible show wpAny _ _ (PySem.exec (PySem.Stmt.While _ _ _ _) _) _ _ _)); (fail_if_success (with_reducible show wpAny _ _ (PySem.exec (PySem.Stmt.For _ _ _ _ _) _) _ _ _)); (fail_if_success (with_reducible show wpAny _ _ (PySem.pyIter _) _ _ _)); (fail_if_success (with_reducible show wpAny _ _ (PySem.setItem _ _ _) _ _ _)); first | ((with_reducible show wpAny _ _ (PySem.call (Value.ref _) _) _ _ _); (k_dflt (refine c_subst (by (exact ⟨Frag.In.keeps (by assumption) (Fr.keep (by assumption)), ⟨_, _, _, _, _, Top.keeps (by assumption) (Fr.keep (by assumption))⟩, rfl, by (simp only [Around.deeper, Around.in1]; omega), by (simp only [Around.deeper, Around.in1]; omega)⟩)) (by assumption) (by assumption) ?_; intro _ _ _ k9q; (rename Fr _ _ _ _ => F9q); (rename News _ _ _ _ => N9q); (have F8q := Fr.keepsK F9q k9q); (have N8q := News.keepsK N9q k9q); clear F9q N9q k9q))) | ((k_dflt ((with_reducible show wpAny _ _ (call (Value.type _) [Value.ref _]) _ _ _); (refine list_range _ (by rfl) (by assumption) (by assumption) (by assumption) (by exact small_mine (by omega) (by omega) (by omega)) (by assumption) (by omega) ?_; intro _ _ _ _ _ _ l1q _ _; (try k_lt l1q))))) | ((k_dflt ((with_reducible show wpAny _ _ (call (Value.builtin "len") [Value.str _ _]) _ _ _); (refine len_txt (by first | exact Nat.le_trans (by with_reducible assumption) (by decide) | exact sub100 (by with_reducible assumption) | exact min100 (by with_reducible assumption) | ((try simp only [List.length_drop, List.length_take]); omega)) ?_)))) | ((k_dflt ((with_reducible show wpAny _ _ (compareOp _ (Value.str (one _) _) (Value.str (one _) _)) _ _ _); (refine eq_one ?_ ?_; all_goals intro _)))) | ((with_reducible show wpAny _ _ (truthy (Value.str _ _)) _ _ _); (k_dflt (refine tru_txt (by first | exact Nat.le_trans (by with_reducible assumption) (by decide) | exact sub100 (by with_reducible assumption) | exact min100 (by with_reducible assumption) | ((try simp only [List.length_drop, List.length_take]); omega)) ?_ ?_; all_goals (intro hl9q; (try simp only [List.length_drop, List.length_take, mins, Nat.sub_pos_iff_lt, Nat.sub_eq_zero_iff_le] at hl9q))))) | ((with_reducible show wpAny _ _ (subscriptTail (Expr.Name _ _) (Expr.BinOp _ _ _ _) (Value.str _ _) (Value.int _ _)) _ _ _); (k_dflt (refine at_neg (by rfl) (by first | with_reducible assumption | ((try simp only [List.length_drop, List.length_take] at *); omega)) (by first | exact Nat.le_trans (by with_reducible assumption) (by decide) | exact sub100 (by with_reducible assumption) | exact min100 (by with_reducible assumption) | ((try simp only [List.length_drop, List.length_take]); omega)) ?_))) | ((k_dflt ((with_reducible show wpAny _ _ (subscriptTail _ (Expr.Slice none (some _) none _) _ _) _ _ _); (refine cut_all (s := ⟨_, _, _, _, _⟩) (by assumption) (by assumption) (by first | exact Nat.le_trans (by with_reducible assumption) (by decide) | exact sub100 (by with_reducible assumption) | exact min100 (by with_reducible assumption) | ((try simp only [List.length_drop, List.length_take]); omega)) ?_); intro _ _ _ _ _))) | ((k_dflt ((with_reducible show wpAny _ _ (subscriptTail _ (Expr.Slice none (some _) none _) _ _) _ _ _); (refine cut_to (s := ⟨_, _, _, _, _⟩) (by rfl) (by omega) (by assumption) (by assumption) (by first | with_reducible assumption | ((try simp only [List.length_drop, List.length_take] at *); omega)) (by first | exact Nat.le_trans (by with_reducible assumption) (by decide) | exact sub100 (by with_reducible assumption) | exact min100 (by with_reducible assumption) | ((try simp only [List.length_drop, List.length_take]); omega)) ?_); intro _ _ _ _ _))) | ((with_reducible show wpAny _ _ (subscriptTail (Expr.Name _ _) (Expr.Name _ _) (Value.str _ _) (Value.int _ _)) _ _ _); (k_dflt (refine at_txt (by rfl) (by first | with_reducible assumption | ((try simp only [List.length_drop, List.length_take] at *); omega)) (by first | exact Nat.le_trans (by with_reducible assumption) (by decide) | exact sub100 (by with_reducible assumption) | exact min100 (by with_reducible assumption) | ((try simp only [List.length_drop, List.length_take]); omega)) ?_))) | ((k_dflt ((with_reducible show wpAny _ _ (subscriptTail _ (Expr.Slice (some _) none none _) _ _) _ _ _); (refine cut_from (s := ⟨_, _, _, _, _⟩) (by rfl) (by assumption) (by assumption) (by first | with_reducible assumption | ((try simp only [List.length_drop, List.length_take] at *); omega)) (by first | exact Nat.le_trans (by with_reducible assumption) (by decide) | exact sub100 (by with_reducible assumption) | exact min100 (by with_reducible assumption) | ((try simp only [List.length_drop, List.length_take]); omega)) ?_); intro _ _ _ _ _))) | walk1 | (dsimp only; walk1) | (leave1; try dsimp only))))
    · refine TurnW.next (p + 1, ?u1) (by assumption) (by assumption) (fun _ h => nomatch h) ?hp2 ⟨Nat.succ_le_of_lt (by with_reducible assumption), Nat.succ_le_of_lt (by with_reducible assumption), ?_⟩ (msub (by with_reducible assumption))
      case hp2 => ((repeat' (first | exact List.forall_mem_nil _ | (refine List.forall_mem_cons.mpr ⟨by with_unfolding_all rfl, ?_⟩))))
      dsimp only
      rw [take_getD (by with_reducible assumption), take_getD (by with_reducible assumption), hp3]
      congr 2
    all_goals
      refine ExitW.here (p, t1) (by assumption) (by assumption) (fun _ h => nomatch h) ?hp2 ⟨hp1, hp2, cpl_of _ _ _ hp1 hp2 hp3 ?_⟩
      case hp2 => ((repeat' (first | exact List.forall_mem_nil _ | (refine List.forall_mem_cons.mpr ⟨by with_unfolding_all rfl, ?_⟩))))
    · exact .inr (.inr (by assumption))
    · exact .inr (.inl (Nat.le_antisymm (by with_reducible assumption) hp2))
    · exact .inl (Nat.le_antisymm (by with_reducible assumption) hp1)
  case done =>
  clear F1 N1
  obtain ⟨p, t1⟩ := c
  dsimp only at hP F2 N2 ⊢
  obtain ⟨hp1, hp2, hp3⟩ := hP
  (repeat' (first | (k_unfold; (try dsimp only)) | ((fail_if_success (with_reducible show wpAny _ _ (PySem.exec (PySem.Stmt.While _ _ _ _) _) _ _ _)); (fail_if_success (with_reducible show wpAny _ _ (PySem.exec (PySem.Stmt.For _ _ _ _ _) _) _ _ _)); (fail_if_success (with_reducible show wpAny _ _ (PySem.pyIter _) _ _ _)); (fail_if_success (with_reducible show wpAny _ _ (PySem.setItem _ _ _) _ _ _)); first | ((with_reducible show wpAny _ _ (PySem.call (Value.ref _) _) _ _ _); (k_dflt (refine c_subst (by (exact ⟨Frag.In.keeps (by assumption) (Fr.keep (by assumption)), ⟨_, _, _, _, _, Top.keeps (by assumption) (Fr.keep (by assumption))⟩, rfl, by (simp only [Around.deeper, Around.in1]; omega), by (simp only [Around.deeper, Around.in1]; omega)⟩)) (by assumption) (by assumption) ?_; intro _ _ _ k9q; (rename Fr _ _ _ _ => F9q); (rename News _ _ _ _ => N9q); (have F8q := Fr.keepsK F9q k9q); (have N8q := News.keepsK N9q k9q); clear F9q N9q k9q))) | ((k_dflt ((with_reducible show wpAny _ _ (call (Value.type _) [Value.ref _]) _ _ _); (refine list_range _ (by rfl) (by assumption) (by assumption) (by assumption) (by exact small_mine (by omega) (by omega) (by omega)) (by assumption) (by omega) ?_; intro _ _ _ _ _ _ l1q _ _; (try k_lt l1q))))) | ((k_dflt ((with_reducible show wpAny _ _ (call (Value.builtin "len") [Value.str _ _]) _ _ _); (refine len_txt (by first | exact Nat.le_trans (by with_reducible assumption) (by decide) | exact sub100 (by with_reducible assumption) | exact min100 (by with_reducible assumption) | ((try simp only [List.length_drop, List.length_take]); omega)) ?_)))) | ((k_dflt ((with_reducible show wpAny _ _ (compareOp _ (Value.str (one _) _) (Value.str (one _) _)) _ _ _); (refine eq_one ?_ ?_; all_goals intro _)))) | ((with_reducible show wpAny _ _ (truthy (Value.str _ _)) _ _ _); (k_dflt (refine tru_txt (by first | exact Nat.le_trans (by with_reducible assumption) (by decide) | exact sub100 (by with_reducible assumption) | exact min100 (by with_reducible assumption) | ((try simp only [List.length_drop, List.length_take]); omega)) ?_ ?_; all_goals (intro hl9q; (try simp only [List.length_drop, List.length_take, mins, Nat.sub_pos_iff_lt, Nat.sub_eq_zero_iff_le] at hl9q))))) | ((with_reducible show wpAny _ _ (subscriptTail (Expr.Name _ _) (Expr.BinOp _ _ _ _) (Value.str _ _) (Value.int _ _)) _ _ _); (k_dflt (refine at_neg (by rfl) (by first | with_reducible assumption | ((try simp only [List.length_drop, List.length_take] at *); omega)) (by first | exact Nat.le_trans (by with_reducible assumption) (by decide) | exact sub100 (by with_reducible assumption) | exact min100 (by with_reducible assumption) | ((try simp only [List.length_drop, List.length_take]); omega)) ?_))) | ((k_dflt ((with_reducible show wpAny _ _ (subscriptTail _ (Expr.Slice none (some _) none _) _ _) _ _ _); (refine cut_all (s := ⟨_, _, _, _, _⟩) (by assumption) (by assumption) (by first | exact Nat.le_trans (by with_reducible assumption) (by decide) | exact sub100 (by with_reducible assumption) | exact min100 (by with_reducible assumption) | ((try simp only [List.length_drop, List.length_take]); omega)) ?_); intro _ _ _ _ _))) | ((k_dflt ((with_reducible show wpAny _ _ (subscriptTail _ (Expr.Slice none (some _) none _) _ _) _ _ _); (refine cut_to (s := ⟨_, _, _, _, _⟩) (by rfl) (by omega) (by assumption) (by assumption) (by first | with_reducible assumption | ((try simp only [List.length_drop, List.length_take] at *); omega)) (by first | exact Nat.le_trans (by with_reducible assumption) (by decide) | exact sub100 (by with_reducible assumption) | exact min100 (by with_reducible assumption) | ((try simp only [List.length_drop, List.length_take]); omega)) ?_); intro _ _ _ _ _))) | ((with_reducible show wpAny _ _ (subscriptTail (Expr.Name _ _) (Expr.Name _ _) (Value.str _ _) (Value.int _ _)) _ _ _); (k_dflt (refine at_txt (by rfl) (by first | with_reducible assumption | ((try simp only [List.length_drop, List.length_take] at *); omega)) (by first | exact Nat.le_trans (by with_reducible assumption) (by decide) | exact sub100 (by with_reducible assumption) | exact min100 (by with_reducible assumption) | ((try simp only [List.length_drop, List.length_take]); omega)) ?_))) | ((k_dflt ((with_reducible show wpAny _ _ (subscriptTail _ (Expr.Slice (some _) none none _) _ _) _ _ _); (refine cut_from (s := ⟨_, _, _, _, _⟩) (by rfl) (by assumption) (by assumption) (by first | with_reducible assumption | ((try simp only [List.length_drop, List.length_take] at *); omega)) (by first | exact Nat.le_trans (by with_reducible assumption) (by decide) | exact sub100 (by with_reducible assumption) | exact min100 (by with_reducible assumption) | ((try simp only [List.length_drop, List.length_take]); omega)) ?_); intro _ _ _ _ _))) | walk1 | (dsimp only; walk1) | (leave1; try dsimp only))))
  rename Fr _ _ _ _ => F1
  rename News _ _ _ _ => N1
  have hlv : levF a b mc = strip1 (a.drop p) (b.drop p) mc := by simp [levF, hne, hp3]
  rw [hlv] at h2
  have hla1 : (a.drop p).length ≤ 8 := by rw [List.length_drop]; exact Nat.le_trans (Nat.sub_le _ _) hla
  have hlb1 : (b.drop p).length ≤ 8 := by rw [List.length_drop]; exact Nat.le_trans (Nat.sub_le _ _) hlb
  have ha1 : ∀ c ∈ a.drop p, 65 ≤ c ∧ c < 81 := fun c hc => ha c (List.mem_of_mem_drop hc)
  have hb1 : ∀ c ∈ b.drop p, 65 ≤ c ∧ c < 81 := fun c hc => hb c (List.mem_of_mem_drop hc)
  clear hlv
  generalize a.drop p = a1 at *
  generalize b.drop p = b1 at *
  refine while_mine2 (σ := Nat × Nat × Nat × Nat) (fun _ => []) (fun c => [(Str.ofString "post", .int (-(c.1 : Int)) c.2.1), (Str.ofString "a", .str (txt a1) c.2.2.1), (Str.ofString "b", .str (txt b1) c.2.2.2), (Str.ofString "max_cost", .int mc tm)])
    (fun c => c.1 ≤ a1.length ∧ c.1 ≤ b1.length ∧ a1.drop (a1.length - c.1) = b1.drop (b1.length - c.1)) (fun c => a1.length - c.1) (fun c => c.1 ≤ a1.length ∧ c.1 ≤ b1.length ∧ cpl a1.reverse b1.reverse = c.1) ⟨0, ?tb, ?tc, ?td⟩ F1 N1 (fun _ h => nomatch h) ?hp' (by simp) (fun c u h tk hP F2 N2 => ?turn') (fun c u h tk hP F2 N2 => ?done')
  case hp' => ((repeat' (first | exact List.forall_mem_nil _ | (refine List.forall_mem_cons.mpr ⟨by with_unfolding_all rfl, ?_⟩))))
  case turn' =>
    clear F1 N1
    obtain ⟨q, t2, t3, t4⟩ := c
    dsimp only at hP F2 N2 ⊢
    obtain ⟨hq1, hq2, hq3⟩ := hP
    k_fold
    (repeat' (first | (k_unfold; (try dsimp only)) | ((fail_if_success (with_reducible show wpAny _ _ (PySem.exec (PySem.Stmt.While _ _ _ _) _) _ _ _)); (fail_if_success (with_reducible show wpAny _ _ (PySem.exec (PySem.Stmt.For _ _ _ _ _) _) _ _ _)); (fail_if_success (with_reducible show wpAny _ _ (PySem.pyIter _) _ _ _)); (fail_if_success (with_reducible show wpAny _ _ (PySem.setItem _ _ _) _ _ _)); first | ((with_reducible show wpAny _ _ (PySem.call (Value.ref _) _) _ _ _); (k_dflt (refine c_subst (by (exact ⟨Frag.In.keeps (by assumption) (Fr.keep (by assumption)), ⟨_, _, _, _, _, Top.keeps (by assumption) (Fr.keep (by assumption))⟩, rfl, by (simp only [Around.deeper, Around.in1]; omega), by (simp only [Around.deeper, Around.in1]; omega)⟩)) (by assumption) (by assumption) ?_; intro _ _ _ k9q; (rename Fr _ _ _ _ => F9q); (rename News _ _ _ _ => N9q); (have F8q := Fr.keepsK F9q k9q); (have N8q := News.keepsK N9q k9q); clear F9q N9q k9q))) | ((k_dflt ((with_reducible show wpAny _ _ (call (Value.type _) [Value.ref _]) _ _ _); (refine list_range _ (by rfl) (by assumption) (by assumption) (by assumption) (by exact small_mine (by omega) (by omega) (by omega)) (by assumption) (by omega) ?_; intro _ _ _ _ _ _ l1q _ _; (try k_lt l1q))))) | ((k_dflt ((with_reducible show wpAny _ _ (call (Value.builtin "len") [Value.str _ _]) _ _ _); (refine len_txt (by first | exact Nat.le_trans (by with_reducible assumption) (by decide) | exact sub100 (by with_reducible assumption) | exact min100 (by with_reducible assumption) | ((try simp only [List.length_drop, List.length_take]); omega)) ?_)))) | ((k_dflt ((with_reducible show wpAny _ _ (compareOp _ (Value.str (one _) _) (Value.str (one _) _)) _ _ _); (refine eq_one ?_ ?_; all_goals intro _)))) | ((with_reducible show wpAny _ _ (truthy (Value.str _ _)) _ _ _); (k_dflt (refine tru_txt (by first | exact Nat.le_trans (by with_reducible assumption) (by decide) | exact sub100 (by with_reducible assumption) | exact min100 (by with_reducible assumption) | ((try simp only [List.length_drop, List.length_take]); omega)) ?_ ?_; all_goals (intro hl9q; (try simp only [List.length_drop, List.length_take, mins, Nat.sub_pos_iff_lt, Nat.sub_eq_zero_iff_le] at hl9q))))) | ((with_reducible show wpAny _ _ (subscriptTail (Expr.Name _ _) (Expr.BinOp _ _ _ _) (Value.str _ _) (Value.int _ _)) _ _ _); (k_dflt (refine at_neg (by rfl) (by first | with_reducible assumption | ((try simp only [List.length_drop, List.length_take] at *); omega)) (by first | exact Nat.le_trans (by with_reducible assumption) (by decide) | exact sub100 (by with_reducible assumption) | exact min100 (by with_reducible assumption) | ((try simp only [List.length_drop, List.length_take]); omega)) ?_))) | ((k_dflt ((with_reducible show wpAny _ _ (subscriptTail _ (Expr.Slice none (some _) none _) _ _) _ _ _); (refine cut_all (s := ⟨_, _, _, _, _⟩) (by assumption) (by assumption) (by first | exact Nat.le_trans (by with_reducible assumption) (by decide) | exact sub100 (by with_reducible assumption) | exact min100 (by with_reducible assumption) | ((try simp only [List.length_drop, List.length_take]); omega)) ?_); intro _ _ _ _ _))) | ((k_dflt ((with_reducible show wpAny _ _ (subscriptTail _ (Expr.Slice none (some _) none _) _ _) _ _ _); (refine cut_to (s := ⟨_, _, _, _, _⟩) (by rfl) (by omega) (by assumption) (by assumption) (by first | with_reducible assumption | ((try simp only [List.length_drop, List.length_take] at *); omega)) (by first | exact Nat.le_trans (by with_reducible assumption) (by decide) | exact sub100 (by with_reducible assumption) | exact min100 (by with_reducible assumption) | ((try simp only [List.length_drop, List.length_take]); omega)) ?_); intro _ _ _ _ _))) | ((with_reducible show wpAny _ _ (subscriptTail (Expr.Name _ _) (Expr.Name _ _) (Value.str _ _) (Value.int _ _)) _ _ _); (k_dflt (refine at_txt (by rfl) (by first | with_reducible assumption | ((try simp only [List.length_drop, List.length_take] at *); omega)) (by first | exact Nat.le_trans (by with_reducible assumption) (by decide) | exact sub100 (by with_reducible assumption) | exact min100 (by with_reducible assumption) | ((try simp only [List.length_drop, List.length_take]); omega)) ?_))) | ((k_dflt ((with_reducible show wpAny _ _ (subscriptTail _ (Expr.Slice (some _) none none _) _ _) _ _ _); (refine cut_from (s := ⟨_, _, _, _, _⟩) (by rfl) (by assumption) (by assumption) (by first | with_reducible assumption | ((try simp only [List.length_drop, List.length_take] at *); omega)) (by first | exact Nat.le_trans (by with_reducible assumption) (by decide) | exact sub100 (by with_reducible assumption) | exact min100 (by with_reducible assumption) | ((try simp only [List.length_drop, List.length_take]); omega)) ?_); intro _ _ _ _ _))) | walk1 | (dsimp only; walk1) | (leave1; try dsimp only))))
    all_goals first
      | (exfalso; first | contradiction | omega)
      | (rename Fr _ _ _ _ => F9
         rw [negS] at F9
         refine' TurnW.next (q + 1, _, _, _) ?F ?N ?n ?hp ?P ?m
         case F => exact F9
         case N => assumption
         case n => exact fun _ h => nomatch h
         case hp => ((repeat' (first | exact List.forall_mem_nil _ | (refine List.forall_mem_cons.mpr ⟨by with_unfolding_all rfl, ?_⟩))))
         case m => (dsimp only; first | exact msub (by with_reducible assumption) | omega)
         case P => exact ⟨by first | exact Nat.succ_le_of_lt (by with_reducible assumption) | omega, by first | exact Nat.succ_le_of_lt (by with_reducible assumption) | omega, by (dsimp only; rw [drop_getD (by first | with_reducible assumption | omega), drop_getD (by first | with_reducible assumption | omega), hq3]; congr 1)⟩)
      | (refine' ExitW.here (q, t2, t3, t4) ?F ?N ?n ?hp ?P
         case F => assumption
         case N => assumption
         case n => exact fun _ h => nomatch h
         case hp => ((repeat' (first | exact List.forall_mem_nil _ | (refine List.forall_mem_cons.mpr ⟨by with_unfolding_all rfl, ?_⟩))))
         case P => exact ⟨hq1, hq2, cpl_rev _ _ _ hq1 hq2 hq3 (by first | exact .inr (.inr (by assumption)) | exact .inr (.inl (Nat.le_antisymm (by with_reducible assumption) hq2)) | exact .inl (Nat.le_antisymm (by with_reducible assumption) hq1) | exact .inr (.inl (by omega)) | exact .inl (by omega))⟩)
  case done' =>
  clear F1 N1
  obtain ⟨q, t2, t3, t4⟩ := c
  dsimp only at hP F2 N2 ⊢
  obtain ⟨hq1, hq2, hq3⟩ := hP
  have hlv : strip1 a1 b1 mc = strip2 (a1.take (a1.length - q)) (b1.take (b1.length - q)) mc := by simp [strip1, hq3]
  rw [hlv] at h2
  refine execs_mid (σ := Nat × Nat × Nat) (L := L) s.heap (fun _ => []) (fun c => [(Str.ofString "post", .int (-(q : Int)) c.1), (Str.ofString "a", .str (txt (a1.take (a1.length - q))) c.2.1), (Str.ofString "b", .str (txt b1) c.2.2), (Str.ofString "max_cost", .int mc tm)]) (fun _ => True) ?_ (fun c u h tk hP F2 N2 => ?_)
  · (repeat' (first | (k_unfold; (try dsimp only)) | ((fail_if_success (with_reducible show wpAny _ _ (PySem.exec (PySem.Stmt.While _ _ _ _) _) _ _ _)); (fail_if_success (with_reducible show wpAny _ _ (PySem.exec (PySem.Stmt.For _ _ _ _ _) _) _ _ _)); (fail_if_success (with_reducible show wpAny _ _ (PySem.pyIter _) _ _ _)); (fail_if_success (with_reducible show wpAny _ _ (PySem.setItem _ _ _) _ _ _)); first | ((with_reducible show wpAny _ _ (PySem.call (Value.ref _) _) _ _ _); (k_dflt (refine c_subst (by (exact ⟨Frag.In.keeps (by assumption) (Fr.keep (by assumption)), ⟨_, _, _, _, _, Top.keeps (by assumption) (Fr.keep (by assumption))⟩, rfl, by (simp only [Around.deeper, Around.in1]; omega), by (simp only [Around.deeper, Around.in1]; omega)⟩)) (by assumption) (by assumption) ?_; intro _ _ _ k9q; (rename Fr _ _ _ _ => F9q); (rename News _ _ _ _ => N9q); (have F8q := Fr.keepsK F9q k9q); (have N8q := News.keepsK N9q k9q); clear F9q N9q k9q))) | ((k_dflt ((with_reducible show wpAny _ _ (call (Value.type _) [Value.ref _]) _ _ _); (refine list_range _ (by rfl) (by assumption) (by assumption) (by assumption) (by exact small_mine (by omega) (by omega) (by omega)) (by assumption) (by omega) ?_; intro _ _ _ _ _ _ l1q _ _; (try k_lt l1q))))) | ((k_dflt ((with_reducible show wpAny _ _ (call (Value.builtin "len") [Value.str _ _]) _ _ _); (refine len_txt (by first | exact Nat.le_trans (by with_reducible assumption) (by decide) | exact sub100 (by with_reducible assumption) | exact min100 (by with_reducible assumption) | ((try simp only [List.length_drop, List.length_take]); omega)) ?_)))) | ((k_dflt ((with_reducible show wpAny _ _ (compareOp _ (Value.str (one _) _) (Value.str (one _) _)) _ _ _); (refine eq_one ?_ ?_; all_goals intro _)))) | ((with_reducible show wpAny _ _ (truthy (Value.str _ _)) _ _ _); (k_dflt (refine tru_txt (by first | exact Nat.le_trans (by with_reducible assumption) (by decide) | exact sub100 (by with_reducible assumption) | exact min100 (by with_reducible assumption) | ((try simp only [List.length_drop, List.length_take]); omega)) ?_ ?_; all_goals (intro hl9q; (try simp only [List.length_drop, List.length_take, mins, Nat.sub_pos_iff_lt, Nat.sub_eq_zero_iff_le] at hl9q))))) | ((with_reducible show wpAny _ _ (subscriptTail (Expr.Name _ _) (Expr.BinOp _ _ _ _) (Value.str _ _) (Value.int _ _)) _ _ _); (k_dflt (refine at_neg (by rfl) (by first | with_reducible assumption | ((try simp only [List.length_drop, List.length_take] at *); omega)) (by first | exact Nat.le_trans (by with_reducible assumption) (by decide) | exact sub100 (by with_reducible assumption) | exact min100 (by with_reducible assumption) | ((try simp only [List.length_drop, List.length_take]); omega)) ?_))) | ((k_dflt ((with_reducible show wpAny _ _ (subscriptTail _ (Expr.Slice none (some _) none _) _ _) _ _ _); (refine cut_all (s := ⟨_, _, _, _, _⟩) (by assumption) (by assumption) (by first | exact Nat.le_trans (by with_reducible assumption) (by decide) | exact sub100 (by with_reducible assumption) | exact min100 (by with_reducible assumption) | ((try simp only [List.length_drop, List.length_take]); omega)) ?_); intro _ _ _ _ _))) | ((k_dflt ((with_reducible show wpAny _ _ (subscriptTail _ (Expr.Slice none (some _) none _) _ _) _ _ _); (refine cut_to (s := ⟨_, _, _, _, _⟩) (by rfl) (by omega) (by assumption) (by assumption) (by first | with_reducible assumption | ((try simp only [List.length_drop, List.length_take] at *); omega)) (by first | exact Nat.le_trans (by with_reducible assumption) (by decide) | exact sub100 (by with_reducible assumption) | exact min100 (by with_reducible assumption) | ((try simp only [List.length_drop, List.length_take]); omega)) ?_); intro _ _ _ _ _))) | ((with_reducible show wpAny _ _ (subscriptTail (Expr.Name _ _) (Expr.Name _ _) (Value.str _ _) (Value.int _ _)) _ _ _); (k_dflt (refine at_txt (by rfl) (by first | with_reducible assumption | ((try simp only [List.length_drop, List.length_take] at *); omega)) (by first | exact Nat.le_trans (by with_reducible assumption) (by decide) | exact sub100 (by with_reducible assumption) | exact min100 (by with_reducible assumption) | ((try simp only [List.length_drop, List.length_take]); omega)) ?_))) | ((k_dflt ((with_reducible show wpAny _ _ (subscriptTail _ (Expr.Slice (some _) none none _) _ _) _ _ _); (refine cut_from (s := ⟨_, _, _, _, _⟩) (by rfl) (by assumption) (by assumption) (by first | with_reducible assumption | ((try simp only [List.length_drop, List.length_take] at *); omega)) (by first | exact Nat.le_trans (by with_reducible assumption) (by decide) | exact sub100 (by with_reducible assumption) | exact min100 (by with_reducible assumption) | ((try simp only [List.length_drop, List.length_take]); omega)) ?_); intro _ _ _ _ _))) | walk1 | (dsimp only; walk1) | (leave1; try dsimp only))))
    · refine' ExitW.here (_, _, _) ?F ?N ?n ?hp trivial
      case F => assumption
      case N => assumption
      case n => exact fun _ h => nomatch h
      case hp => ((repeat' (first | exact List.forall_mem_nil _ | (refine List.forall_mem_cons.mpr ⟨by with_unfolding_all rfl, ?_⟩))))
    · have : q = 0 := by omega
      subst this
      rw [Nat.sub_zero, List.take_of_length_le (Nat.le_refl _)]
      refine' ExitW.here (_, _, _) ?F ?N ?n ?hp trivial
      case F => assumption
      case N => assumption
      case n => exact fun _ h => nomatch h
      case hp => ((repeat' (first | exact List.forall_mem_nil _ | (refine List.forall_mem_cons.mpr ⟨by with_unfolding_all rfl, ?_⟩))))
  obtain ⟨t2, t3, t4⟩ := c
  dsimp only at F2 N2 ⊢
  refine execs_mid (σ := Nat × Nat) (L := L) s.heap (fun _ => []) (fun c => [(Str.ofString "a", .str (txt (a1.take (a1.length - q))) c.1), (Str.ofString "b", .str (txt (b1.take (b1.length - q))) c.2), (Str.ofString "max_cost", .int mc tm)]) (fun _ => True) ?_ (fun c u h tk hP F2 N2 => ?_)
  · (repeat' (first | (k_unfold; (try dsimp only)) | ((fail_if_success (with_reducible show wpAny _ _ (PySem.exec (PySem.Stmt.While _ _ _ _) _) _ _ _)); (fail_if_success (with_reducible show wpAny _ _ (PySem.exec (PySem.Stmt.For _ _ _ _ _) _) _ _ _)); (fail_if_success (with_reducible show wpAny _ _ (PySem.pyIter _) _ _ _)); (fail_if_success (with_reducible show wpAny _ _ (PySem.setItem _ _ _) _ _ _)); first | ((with_reducible show wpAny _ _ (PySem.call (Value.ref _) _) _ _ _); (k_dflt (refine c_subst (by (exact ⟨Frag.In.keeps (by assumption) (Fr.keep (by assumption)), ⟨_, _, _, _, _, Top.keeps (by assumption) (Fr.keep (by assumption))⟩, rfl, by (simp only [Around.deeper, Around.in1]; omega), by (simp only [Around.deeper, Around.in1]; omega)⟩)) (by assumption) (by assumption) ?_; intro _ _ _ k9q; (rename Fr _ _ _ _ => F9q); (rename News _ _ _ _ => N9q); (have F8q := Fr.keepsK F9q k9q); (have N8q := News.keepsK N9q k9q); clear F9q N9q k9q))) | ((k_dflt ((with_reducible show wpAny _ _ (call (Value.type _) [Value.ref _]) _ _ _); (refine list_range _ (by rfl) (by assumption) (by assumption) (by assumption) (by exact small_mine (by omega) (by omega) (by omega)) (by assumption) (by omega) ?_; intro _ _ _ _ _ _ l1q _ _; (try k_lt l1q))))) | ((k_dflt ((with_reducible show wpAny _ _ (call (Value.builtin "len") [Value.str _ _]) _ _ _); (refine len_txt (by first | exact Nat.le_trans (by with_reducible assumption) (by decide) | exact sub100 (by with_reducible assumption) | exact min100 (by with_reducible assumption) | ((try simp only [List.length_drop, List.length_take]); omega)) ?_)))) | ((k_dflt ((with_reducible show wpAny _ _ (compareOp _ (Value.str (one _) _) (Value.str (one _) _)) _ _ _); (refine eq_one ?_ ?_; all_goals intro _)))) | ((with_reducible show wpAny _ _ (truthy (Value.str _ _)) _ _ _); (k_dflt (refine tru_txt (by first | exact Nat.le_trans (by with_reducible assumption) (by decide) | exact sub100 (by with_reducible assumption) | exact min100 (by with_reducible assumption) | ((try simp only [List.length_drop, List.length_take]); omega)) ?_ ?_; all_goals (intro hl9q; (try simp only [List.length_drop, List.length_take, mins, Nat.sub_pos_iff_lt, Nat.sub_eq_zero_iff_le] at hl9q))))) | ((with_reducible show wpAny _ _ (subscriptTail (Expr.Name _ _) (Expr.BinOp _ _ _ _) (Value.str _ _) (Value.int _ _)) _ _ _); (k_dflt (refine at_neg (by rfl) (by first | with_reducible assumption | ((try simp only [List.length_drop, List.length_take] at *); omega)) (by first | exact Nat.le_trans (by with_reducible assumption) (by decide) | exact sub100 (by with_reducible assumption) | exact min100 (by with_reducible assumption) | ((try simp only [List.length_drop, List.length_take]); omega)) ?_))) | ((k_dflt ((with_reducible show wpAny _ _ (subscriptTail _ (Expr.Slice none (some _) none _) _ _) _ _ _); (refine cut_all (s := ⟨_, _, _, _, _⟩) (by assumption) (by assumption) (by first | exact Nat.le_trans (by with_reducible assumption) (by decide) | exact sub100 (by with_reducible assumption) | exact min100 (by with_reducible assumption) | ((try simp only [List.length_drop, List.length_take]); omega)) ?_); intro _ _ _ _ _))) | ((k_dflt ((with_reducible show wpAny _ _ (subscriptTail _ (Expr.Slice none (some _) none _) _ _) _ _ _); (refine cut_to (s := ⟨_, _, _, _, _⟩) (by rfl) (by omega) (by assumption) (by assumption) (by first | with_reducible assumption | ((try simp only [List.length_drop, List.length_take] at *); omega)) (by first | exact Nat.le_trans (by with_reducible assumption) (by decide) | exact sub100 (by with_reducible assumption) | exact min100 (by with_reducible assumption) | ((try simp only [List.length_drop, List.length_take]); omega)) ?_); intro _ _ _ _ _))) | ((with_reducible show wpAny _ _ (subscriptTail (Expr.Name _ _) (Expr.Name _ _) (Value.str _ _) (Value.int _ _)) _ _ _); (k_dflt (refine at_txt (by rfl) (by first | with_reducible assumption | ((try simp only [List.length_drop, List.length_take] at *); omega)) (by first | exact Nat.le_trans (by with_reducible assumption) (by decide) | exact sub100 (by with_reducible assumption) | exact min100 (by with_reducible assumption) | ((try simp only [List.length_drop, List.length_take]); omega)) ?_))) | ((k_dflt ((with_reducible show wpAny _ _ (subscriptTail _ (Expr.Slice (some _) none none _) _ _) _ _ _); (refine cut_from (s := ⟨_, _, _, _, _⟩) (by rfl) (by assumption) (by assumption) (by first | with_reducible assumption | ((try simp only [List.length_drop, List.length_take] at *); omega)) (by first | exact Nat.le_trans (by with_reducible assumption) (by decide) | exact sub100 (by with_reducible assumption) | exact min100 (by with_reducible assumption) | ((try simp only [List.length_drop, List.length_take]); omega)) ?_); intro _ _ _ _ _))) | walk1 | (dsimp only; walk1) | (leave1; try dsimp only))))
    · refine' ExitW.here (_, _) ?F ?N ?n ?hp trivial
      case F => assumption
      case N => assumption
      case n => exact fun _ h => nomatch h
      case hp => ((repeat' (first | exact List.forall_mem_nil _ | (refine List.forall_mem_cons.mpr ⟨by with_unfolding_all rfl, ?_⟩))))
    · have : q = 0 := by omega
      subst this
      rw [show b1.take (b1.length - 0) = b1 from List.take_of_length_le (Nat.le_refl _)]
      refine' ExitW.here (_, _) ?F ?N ?n ?hp trivial
      case F => assumption
      case N => assumption
      case n => exact fun _ h => nomatch h
      case hp => ((repeat' (first | exact List.forall_mem_nil _ | (refine List.forall_mem_cons.mpr ⟨by with_unfolding_all rfl, ?_⟩))))
  obtain ⟨t2, t3⟩ := c
  dsimp only at F2 N2 ⊢
  have hla2 : (a1.take (a1.length - q)).length ≤ 8 := by rw [List.length_take]; exact Nat.le_trans (Nat.min_le_right _ _) hla1
  have hlb2 : (b1.take (b1.length - q)).length ≤ 8 := by rw [List.length_take]; exact Nat.le_trans (Nat.min_le_right _ _) hlb1
  have ha2 : ∀ c ∈ a1.take (a1.length - q), 65 ≤ c ∧ c < 81 := fun c hc => ha1 c (List.mem_of_mem_take hc)
  have hb2 : ∀ c ∈ b1.take (b1.length - q), 65 ≤ c ∧ c < 81 := fun c hc => hb1 c (List.mem_of_mem_take hc)
  clear hlv
  generalize a1.take (a1.length - q) = a2 at *
  generalize b1.take (b1.length - q) = b2 at *
  (repeat' (first | (k_unfold; (try dsimp only)) | ((fail_if_success (with_reducible show wpAny _ _ (PySem.exec (PySem.Stmt.If _ [PySem.Stmt.Assign [PySem.Expr.Tuple _ _ _] _ _] _ _) _) _ _ _)); (fail_if_success (with_reducible show wpAny _ _ (PySem.exec (PySem.Stmt.For _ _ _ _ _) _) _ _ _)); (fail_if_success (with_reducible show wpAny _ _ (PySem.pyIter _) _ _ _)); (fail_if_success (with_reducible show wpAny _ _ (PySem.setItem _ _ _) _ _ _)); first | ((with_reducible show wpAny _ _ (PySem.call (Value.ref _) _) _ _ _); (k_dflt (refine c_subst (by (exact ⟨Frag.In.keeps (by assumption) (Fr.keep (by assumption)), ⟨_, _, _, _, _, Top.keeps (by assumption) (Fr.keep (by assumption))⟩, rfl, by (simp only [Around.deeper, Around.in1]; omega), by (simp only [Around.deeper, Around.in1]; omega)⟩)) (by assumption) (by assumption) ?_; intro _ _ _ k9q; (rename Fr _ _ _ _ => F9q); (rename News _ _ _ _ => N9q); (have F8q := Fr.keepsK F9q k9q); (have N8q := News.keepsK N9q k9q); clear F9q N9q k9q))) | ((k_dflt ((with_reducible show wpAny _ _ (call (Value.type _) [Value.ref _]) _ _ _); (refine list_range _ (by rfl) (by assumption) (by assumption) (by assumption) (by exact small_mine (by omega) (by omega) (by omega)) (by assumption) (by omega) ?_; intro _ _ _ _ _ _ l1q _ _; (try k_lt l1q))))) | ((k_dflt ((with_reducible show wpAny _ _ (call (Value.builtin "len") [Value.str _ _]) _ _ _); (refine len_txt (by first | exact Nat.le_trans (by with_reducible assumption) (by decide) | exact sub100 (by with_reducible assumption) | exact min100 (by with_reducible assumption) | ((try simp only [List.length_drop, List.length_take]); omega)) ?_)))) | ((k_dflt ((with_reducible show wpAny _ _ (compareOp _ (Value.str (one _) _) (Value.str (one _) _)) _ _ _); (refine eq_one ?_ ?_; all_goals intro _)))) | ((with_reducible show wpAny _ _ (truthy (Value.str _ _)) _ _ _); (k_dflt (refine tru_txt (by first | exact Nat.le_trans (by with_reducible assumption) (by decide) | exact sub100 (by with_reducible assumption) | exact min100 (by with_reducible assumption) | ((try simp only [List.length_drop, List.length_take]); omega)) ?_ ?_; all_goals (intro hl9q; (try simp only [List.length_drop, List.length_take, mins, Nat.sub_pos_iff_lt, Nat.sub_eq_zero_iff_le] at hl9q))))) | ((with_reducible show wpAny _ _ (subscriptTail (Expr.Name _ _) (Expr.BinOp _ _ _ _) (Value.str _ _) (Value.int _ _)) _ _ _); (k_dflt (refine at_neg (by rfl) (by first | with_reducible assumption | ((try simp only [List.length_drop, List.length_take] at *); omega)) (by first | exact Nat.le_trans (by with_reducible assumption) (by decide) | exact sub100 (by with_reducible assumption) | exact min100 (by with_reducible assumption) | ((try simp only [List.length_drop, List.length_take]); omega)) ?_))) | ((k_dflt ((with_reducible show wpAny _ _ (subscriptTail _ (Expr.Slice none (some _) none _) _ _) _ _ _); (refine cut_all (s := ⟨_, _, _, _, _⟩) (by assumption) (by assumption) (by first | exact Nat.le_trans (by with_reducible assumption) (by decide) | exact sub100 (by with_reducible assumption) | exact min100 (by with_reducible assumption) | ((try simp only [List.length_drop, List.length_take]); omega)) ?_); intro _ _ _ _ _))) | ((k_dflt ((with_reducible show wpAny _ _ (subscriptTail _ (Expr.Slice none (some _) none _) _ _) _ _ _); (refine cut_to (s := ⟨_, _, _, _, _⟩) (by rfl) (by omega) (by assumption) (by assumption) (by first | with_reducible assumption | ((try simp only [List.length_drop, List.length_take] at *); omega)) (by first | exact Nat.le_trans (by with_reducible assumption) (by decide) | exact sub100 (by with_reducible assumption) | exact min100 (by with_reducible assumption) | ((try simp only [List.length_drop, List.length_take]); omega)) ?_); intro _ _ _ _ _))) | ((with_reducible show wpAny _ _ (subscriptTail (Expr.Name _ _) (Expr.Name _ _) (Value.str _ _) (Value.int _ _)) _ _ _); (k_dflt (refine at_txt (by rfl) (by first | with_reducible assumption | ((try simp only [List.length_drop, List.length_take] at *); omega)) (by first | exact Nat.le_trans (by with_reducible assumption) (by decide) | exact sub100 (by with_reducible assumption) | exact min100 (by with_reducible assumption) | ((try simp only [List.length_drop, List.length_take]); omega)) ?_))) | ((k_dflt ((with_reducible show wpAny _ _ (subscriptTail _ (Expr.Slice (some _) none none _) _ _) _ _ _); (refine cut_from (s := ⟨_, _, _, _, _⟩) (by rfl) (by assumption) (by assumption) (by first | with_reducible assumption | ((try simp only [List.length_drop, List.length_take] at *); omega)) (by first | exact Nat.le_trans (by with_reducible assumption) (by decide) | exact sub100 (by with_reducible assumption) | exact min100 (by with_reducible assumption) | ((try simp only [List.length_drop, List.length_take]); omega)) ?_); intro _ _ _ _ _))) | walk1 | (dsimp only; walk1) | (leave1; try dsimp only))))
  rotate_left
  · exact h2 _ _ _ _ (strip2_zero (.inr (by omega))) (Fr.keep F2)
  · exact h2 _ _ _ _ (strip2_zero (.inl (by omega))) (Fr.keep F2)
  refine exec_mid (σ := List Nat × List Nat × Nat × Nat) (L := L) s.heap (fun _ => []) (fun c => [(Str.ofString "a", .str (txt c.1) c.2.2.1), (Str.ofString "b", .str (txt c.2.1) c.2.2.2), (Str.ofString "max_cost", .int mc tm)])
    (fun c => strip2 a2 b2 mc = core c.1 c.2.1 mc ∧ 0 < c.1.length ∧ c.1.length ≤ c.2.1.length ∧ c.2.1.length ≤ 8 ∧ (∀ x ∈ c.1, 65 ≤ x ∧ x < 81) ∧ (∀ x ∈ c.2.1, 65 ≤ x ∧ x < 81)) ?_ (fun c u h tk hP F2 N2 => ?_)
  · walk1
    (repeat' (first | (k_unfold; (try dsimp only)) | ((fail_if_success (with_reducible show wpAny _ _ (PySem.exec (PySem.Stmt.While _ _ _ _) _) _ _ _)); (fail_if_success (with_reducible show wpAny _ _ (PySem.exec (PySem.Stmt.For _ _ _ _ _) _) _ _ _)); (fail_if_success (with_reducible show wpAny _ _ (PySem.pyIter _) _ _ _)); (fail_if_success (with_reducible show wpAny _ _ (PySem.setItem _ _ _) _ _ _)); first | ((with_reducible show wpAny _ _ (PySem.call (Value.ref _) _) _ _ _); (k_dflt (refine c_subst (by (exact ⟨Frag.In.keeps (by assumption) (Fr.keep (by assumption)), ⟨_, _, _, _, _, Top.keeps (by assumption) (Fr.keep (by assumption))⟩, rfl, by (simp only [Around.deeper, Around.in1]; omega), by (simp only [Around.deeper, Around.in1]; omega)⟩)) (by assumption) (by assumption) ?_; intro _ _ _ k9q; (rename Fr _ _ _ _ => F9q); (rename News _ _ _ _ => N9q); (have F8q := Fr.keepsK F9q k9q); (have N8q := News.keepsK N9q k9q); clear F9q N9q k9q))) | ((k_dflt ((with_reducible show wpAny _ _ (call (Value.type _) [Value.ref _]) _ _ _); (refine list_range _ (by rfl) (by assumption) (by assumption) (by assumption) (by exact small_mine (by omega) (by omega) (by omega)) (by assumption) (by omega) ?_; intro _ _ _ _ _ _ l1q _ _; (try k_lt l1q))))) | ((k_dflt ((with_reducible show wpAny _ _ (call (Value.builtin "len") [Value.str _ _]) _ _ _); (refine len_txt (by first | exact Nat.le_trans (by with_reducible assumption) (by decide) | exact sub100 (by with_reducible assumption) | exact min100 (by with_reducible assumption) | ((try simp only [List.length_drop, List.length_take]); omega)) ?_)))) | ((k_dflt ((with_reducible show wpAny _ _ (compareOp _ (Value.str (one _) _) (Value.str (one _) _)) _ _ _); (refine eq_one ?_ ?_; all_goals intro _)))) | ((with_reducible show wpAny _ _ (truthy (Value.str _ _)) _ _ _); (k_dflt (refine tru_txt (by first | exact Nat.le_trans (by with_reducible assumption) (by decide) | exact sub100 (by with_reducible assumption) | exact min100 (by with_reducible assumption) | ((try simp only [List.length_drop, List.length_take]); omega)) ?_ ?_; all_goals (intro hl9q; (try simp only [List.length_drop, List.length_take, mins, Nat.sub_pos_iff_lt, Nat.sub_eq_zero_iff_le] at hl9q))))) | ((with_reducible show wpAny _ _ (subscriptTail (Expr.Name _ _) (Expr.BinOp _ _ _ _) (Value.str _ _) (Value.int _ _)) _ _ _); (k_dflt (refine at_neg (by rfl) (by first | with_reducible assumption | ((try simp only [List.length_drop, List.length_take] at *); omega)) (by first | exact Nat.le_trans (by with_reducible assumption) (by decide) | exact sub100 (by with_reducible assumption) | exact min100 (by with_reducible assumption) | ((try simp only [List.length_drop, List.length_take]); omega)) ?_))) | ((k_dflt ((with_reducible show wpAny _ _ (subscriptTail _ (Expr.Slice none (some _) none _) _ _) _ _ _); (refine cut_all (s := ⟨_, _, _, _, _⟩) (by assumption) (by assumption) (by first | exact Nat.le_trans (by with_reducible assumption) (by decide) | exact sub100 (by with_reducible assumption) | exact min100 (by with_reducible assumption) | ((try simp only [List.length_drop, List.length_take]); omega)) ?_); intro _ _ _ _ _))) | ((k_dflt ((with_reducible show wpAny _ _ (subscriptTail _ (Expr.Slice none (some _) none _) _ _) _ _ _); (refine cut_to (s := ⟨_, _, _, _, _⟩) (by rfl) (by omega) (by assumption) (by assumption) (by first | with_reducible assumption | ((try simp only [List.length_drop, List.length_take] at *); omega)) (by first | exact Nat.le_trans (by with_reducible assumption) (by decide) | exact sub100 (by with_reducible assumption) | exact min100 (by with_reducible assumption) | ((try simp only [List.length_drop, List.length_take]); omega)) ?_); intro _ _ _ _ _))) | ((with_reducible show wpAny _ _ (subscriptTail (Expr.Name _ _) (Expr.Name _ _) (Value.str _ _) (Value.int _ _)) _ _ _); (k_dflt (refine at_txt (by rfl) (by first | with_reducible assumption | ((try simp only [List.length_drop, List.length_take] at *); omega)) (by first | exact Nat.le_trans (by with_reducible assumption) (by decide) | exact sub100 (by with_reducible assumption) | exact min100 (by with_reducible assumption) | ((try simp only [List.length_drop, List.length_take]); omega)) ?_))) | ((k_dflt ((with_reducible show wpAny _ _ (subscriptTail _ (Expr.Slice (some _) none none _) _ _) _ _ _); (refine cut_from (s := ⟨_, _, _, _, _⟩) (by rfl) (by assumption) (by assumption) (by first | with_reducible assumption | ((try simp only [List.length_drop, List.length_take] at *); omega)) (by first | exact Nat.le_trans (by with_reducible assumption) (by decide) | exact sub100 (by with_reducible assumption) | exact min100 (by with_reducible assumption) | ((try simp only [List.length_drop, List.length_take]); omega)) ?_); intro _ _ _ _ _))) | walk1 | (dsimp only; walk1) | (leave1; try dsimp only))))
    · refine' ExitW.here (b2, a2, _, _) ?F ?N ?n ?hp ?P
      case F => assumption
      case N => assumption
      case n => exact fun _ h => nomatch h
      case hp => ((repeat' (first | exact List.forall_mem_nil _ | (refine List.forall_mem_cons.mpr ⟨by with_unfolding_all rfl, ?_⟩))))
      case P => exact ⟨strip2_swap (by omega) (by omega) (by omega), by dsimp only; omega, by dsimp only; omega, by dsimp only; omega, hb2, ha2⟩
    · refine' ExitW.here (a2, b2, _, _) ?F ?N ?n ?hp ?P
      case F => assumption
      case N => assumption
      case n => exact fun _ h => nomatch h
      case hp => ((repeat' (first | exact List.forall_mem_nil _ | (refine List.forall_mem_cons.mpr ⟨by with_unfolding_all rfl, ?_⟩))))
      case P => exact ⟨strip2_keep (by omega) (by omega) (by omega), by dsimp only; omega, by dsimp only; omega, by dsimp only; omega, ha2, hb2⟩
  obtain ⟨x, y, t2, t3⟩ := c
  dsimp only at hP F2 N2 ⊢
  obtain ⟨hst, hx0, hxy, hy8, hxc, hyc⟩ := hP
  have hx8 : x.length ≤ 8 := Nat.le_trans hxy hy8
  rw [hst] at h2
  clear hst
  have hrs := rs2 x.length
  (repeat' (first | (k_unfold; (try dsimp only)) | ((fail_if_success (with_reducible show wpAny _ _ (PySem.exec (PySem.Stmt.While _ _ _ _) _) _ _ _)); (fail_if_success (with_reducible show wpAny _ _ (PySem.exec (PySem.Stmt.For _ _ _ _ _) _) _ _ _)); (fail_if_success (with_reducible show wpAny _ _ (PySem.pyIter _) _ _ _)); (fail_if_success (with_reducible show wpAny _ _ (PySem.setItem _ _ _) _ _ _)); first | ((with_reducible show wpAny _ _ (PySem.call (Value.ref _) _) _ _ _); (k_dflt (refine c_subst (by (exact ⟨Frag.In.keeps (by assumption) (Fr.keep (by assumption)), ⟨_, _, _, _, _, Top.keeps (by assumption) (Fr.keep (by assumption))⟩, rfl, by (simp only [Around.deeper, Around.in1]; omega), by (simp only [Around.deeper, Around.in1]; omega)⟩)) (by assumption) (by assumption) ?_; intro _ _ _ k9q; (rename Fr _ _ _ _ => F9q); (rename News _ _ _ _ => N9q); (have F8q := Fr.keepsK F9q k9q); (have N8q := News.keepsK N9q k9q); clear F9q N9q k9q))) | ((k_dflt ((with_reducible show wpAny _ _ (call (Value.type _) [Value.ref _]) _ _ _); (refine list_range _ (by rfl) (by assumption) (by assumption) (by assumption) (by exact small_mine (by omega) (by omega) (by omega)) (by assumption) (by omega) ?_; intro _ _ _ _ _ _ l1q _ _; (try k_lt l1q))))) | ((k_dflt ((with_reducible show wpAny _ _ (call (Value.builtin "len") [Value.str _ _]) _ _ _); (refine len_txt (by first | exact Nat.le_trans (by with_reducible assumption) (by decide) | exact sub100 (by with_reducible assumption) | exact min100 (by with_reducible assumption) | ((try simp only [List.length_drop, List.length_take]); omega)) ?_)))) | ((k_dflt ((with_reducible show wpAny _ _ (compareOp _ (Value.str (one _) _) (Value.str (one _) _)) _ _ _); (refine eq_one ?_ ?_; all_goals intro _)))) | ((with_reducible show wpAny _ _ (truthy (Value.str _ _)) _ _ _); (k_dflt (refine tru_txt (by first | exact Nat.le_trans (by with_reducible assumption) (by decide) | exact sub100 (by with_reducible assumption) | exact min100 (by with_reducible assumption) | ((try simp only [List.length_drop, List.length_take]); omega)) ?_ ?_; all_goals (intro hl9q; (try simp only [List.length_drop, List.length_take, mins, Nat.sub_pos_iff_lt, Nat.sub_eq_zero_iff_le] at hl9q))))) | ((with_reducible show wpAny _ _ (subscriptTail (Expr.Name _ _) (Expr.BinOp _ _ _ _) (Value.str _ _) (Value.int _ _)) _ _ _); (k_dflt (refine at_neg (by rfl) (by first | with_reducible assumption | ((try simp only [List.length_drop, List.length_take] at *); omega)) (by first | exact Nat.le_trans (by with_reducible assumption) (by decide) | exact sub100 (by with_reducible assumption) | exact min100 (by with_reducible assumption) | ((try simp only [List.length_drop, List.length_take]); omega)) ?_))) | ((k_dflt ((with_reducible show wpAny _ _ (subscriptTail _ (Expr.Slice none (some _) none _) _ _) _ _ _); (refine cut_all (s := ⟨_, _, _, _, _⟩) (by assumption) (by assumption) (by first | exact Nat.le_trans (by with_reducible assumption) (by decide) | exact sub100 (by with_reducible assumption) | exact min100 (by with_reducible assumption) | ((try simp only [List.length_drop, List.length_take]); omega)) ?_); intro _ _ _ _ _))) | ((k_dflt ((with_reducible show wpAny _ _ (subscriptTail _ (Expr.Slice none (some _) none _) _ _) _ _ _); (refine cut_to (s := ⟨_, _, _, _, _⟩) (by rfl) (by omega) (by assumption) (by assumption) (by first | with_reducible assumption | ((try simp only [List.length_drop, List.length_take] at *); omega)) (by first | exact Nat.le_trans (by with_reducible assumption) (by decide) | exact sub100 (by with_reducible assumption) | exact min100 (by with_reducible assumption) | ((try simp only [List.length_drop, List.length_take]); omega)) ?_); intro _ _ _ _ _))) | ((with_reducible show wpAny _ _ (subscriptTail (Expr.Name _ _) (Expr.Name _ _) (Value.str _ _) (Value.int _ _)) _ _ _); (k_dflt (refine at_txt (by rfl) (by first | with_reducible assumption | ((try simp only [List.length_drop, List.length_take] at *); omega)) (by first | exact Nat.le_trans (by with_reducible assumption) (by decide) | exact sub100 (by with_reducible assumption) | exact min100 (by with_reducible assumption) | ((try simp only [List.length_drop, List.length_take]); omega)) ?_))) | ((k_dflt ((with_reducible show wpAny _ _ (subscriptTail _ (Expr.Slice (some _) none none _) _ _) _ _ _); (refine cut_from (s := ⟨_, _, _, _, _⟩) (by rfl) (by assumption) (by assumption) (by first | with_reducible assumption | ((try simp only [List.length_drop, List.length_take] at *); omega)) (by first | exact Nat.le_trans (by with_reducible assumption) (by decide) | exact sub100 (by with_reducible assumption) | exact min100 (by with_reducible assumption) | ((try simp only [List.length_drop, List.length_take]); omega)) ?_); intro _ _ _ _ _))) | walk1 | (dsimp only; walk1) | (leave1; try dsimp only))))
  · exact h2 _ _ _ _ (core_out (by assumption)) (Fr.keep F2)
  rename IntsAre _ _ => hrow
  have hrs1 := rs1 y.length
  have hrs2 := rs1 x.length
  refine For_invV s.heap rfl rfl ?_
  (repeat' (first | (k_unfold; (try dsimp only)) | ((fail_if_success (with_reducible show wpAny _ _ (PySem.exec (PySem.Stmt.While _ _ _ _) _) _ _ _)); (fail_if_success (with_reducible show wpAny _ _ (PySem.exec (PySem.Stmt.For _ _ _ _ _) _) _ _ _)); (fail_if_success (with_reducible show wpAny _ _ (PySem.pyIter _) _ _ _)); (fail_if_success (with_reducible show wpAny _ _ (PySem.setItem _ _ _) _ _ _)); first | ((with_reducible show wpAny _ _ (PySem.call (Value.ref _) _) _ _ _); (k_dflt (refine c_subst (by (exact ⟨Frag.In.keeps (by assumption) (Fr.keep (by assumption)), ⟨_, _, _, _, _, Top.keeps (by assumption) (Fr.keep (by assumption))⟩, rfl, by (simp only [Around.deeper, Around.in1]; omega), by (simp only [Around.deeper, Around.in1]; omega)⟩)) (by assumption) (by assumption) ?_; intro _ _ _ k9q; (rename Fr _ _ _ _ => F9q); (rename News _ _ _ _ => N9q); (have F8q := Fr.keepsK F9q k9q); (have N8q := News.keepsK N9q k9q); clear F9q N9q k9q))) | ((k_dflt ((with_reducible show wpAny _ _ (call (Value.type _) [Value.ref _]) _ _ _); (refine list_range _ (by rfl) (by assumption) (by assumption) (by assumption) (by exact small_mine (by omega) (by omega) (by omega)) (by assumption) (by omega) ?_; intro _ _ _ _ _ _ l1q _ _; (try k_lt l1q))))) | ((k_dflt ((with_reducible show wpAny _ _ (call (Value.builtin "len") [Value.str _ _]) _ _ _); (refine len_txt (by first | exact Nat.le_trans (by with_reducible assumption) (by decide) | exact sub100 (by with_reducible assumption) | exact min100 (by with_reducible assumption) | ((try simp only [List.length_drop, List.length_take]); omega)) ?_)))) | ((k_dflt ((with_reducible show wpAny _ _ (compareOp _ (Value.str (one _) _) (Value.str (one _) _)) _ _ _); (refine eq_one ?_ ?_; all_goals intro _)))) | ((with_reducible show wpAny _ _ (truthy (Value.str _ _)) _ _ _); (k_dflt (refine tru_txt (by first | exact Nat.le_trans (by with_reducible assumption) (by decide) | exact sub100 (by with_reducible assumption) | exact min100 (by with_reducible assumption) | ((try simp only [List.length_drop, List.length_take]); omega)) ?_ ?_; all_goals (intro hl9q; (try simp only [List.length_drop, List.length_take, mins, Nat.sub_pos_iff_lt, Nat.sub_eq_zero_iff_le] at hl9q))))) | ((with_reducible show wpAny _ _ (subscriptTail (Expr.Name _ _) (Expr.BinOp _ _ _ _) (Value.str _ _) (Value.int _ _)) _ _ _); (k_dflt (refine at_neg (by rfl) (by first | with_reducible assumption | ((try simp only [List.length_drop, List.length_take] at *); omega)) (by first | exact Nat.le_trans (by with_reducible assumption) (by decide) | exact sub100 (by with_reducible assumption) | exact min100 (by with_reducible assumption) | ((try simp only [List.length_drop, List.length_take]); omega)) ?_))) | ((k_dflt ((with_reducible show wpAny _ _ (subscriptTail _ (Expr.Slice none (some _) none _) _ _) _ _ _); (refine cut_all (s := ⟨_, _, _, _, _⟩) (by assumption) (by assumption) (by first | exact Nat.le_trans (by with_reducible assumption) (by decide) | exact sub100 (by with_reducible assumption) | exact min100 (by with_reducible assumption) | ((try simp only [List.length_drop, List.length_take]); omega)) ?_); intro _ _ _ _ _))) | ((k_dflt ((with_reducible show wpAny _ _ (subscriptTail _ (Expr.Slice none (some _) none _) _ _) _ _ _); (refine cut_to (s := ⟨_, _, _, _, _⟩) (by rfl) (by omega) (by assumption) (by assumption) (by first | with_reducible assumption | ((try simp only [List.length_drop, List.length_take] at *); omega)) (by first | exact Nat.le_trans (by with_reducible assumption) (by decide) | exact sub100 (by with_reducible assumption) | exact min100 (by with_reducible assumption) | ((try simp only [List.length_drop, List.length_take]); omega)) ?_); intro _ _ _ _ _))) | ((with_reducible show wpAny _ _ (subscriptTail (Expr.Name _ _) (Expr.Name _ _) (Value.str _ _) (Value.int _ _)) _ _ _); (k_dflt (refine at_txt (by rfl) (by first | with_reducible assumption | ((try simp only [List.length_drop, List.length_take] at *); omega)) (by first | exact Nat.le_trans (by with_reducible assumption) (by decide) | exact sub100 (by with_reducible assumption) | exact min100 (by with_reducible assumption) | ((try simp only [List.length_drop, List.length_take]); omega)) ?_))) | ((k_dflt ((with_reducible show wpAny _ _ (subscriptTail _ (Expr.Slice (some _) none none _) _ _) _ _ _); (refine cut_from (s := ⟨_, _, _, _, _⟩) (by rfl) (by assumption) (by assumption) (by first | with_reducible assumption | ((try simp only [List.length_drop, List.length_take] at *); omega)) (by first | exact Nat.le_trans (by with_reducible assumption) (by decide) | exact sub100 (by with_reducible assumption) | exact min100 (by with_reducible assumption) | ((try simp only [List.length_drop, List.length_take]); omega)) ?_); intro _ _ _ _ _))) | walk1 | (dsimp only; walk1) | (leave1; try dsimp only))))
  rename Fr _ _ _ _ => F1
  rename News _ _ _ _ => N1
  rw [core_in (by assumption), ← row0] at h2
  refine' for_range (σ := LO) y.length (fun i => (i : Int)) [] (fun c => [(c.l, listOf c.vs.toArray c.k)]) (fun c => [(Str.ofString "result", .int c.res c.t), (Str.ofString "row", .ref c.l), (Str.ofString "a", .str (txt x) t2), (Str.ofString "b", .str (txt y) t3), (Str.ofString "max_cost", .int mc tm)])
    (fun i c => IntsAre c.vs c.ns ∧ c.ns.length = x.length ∧ rowsF mc x i (y.drop i) c.ns c.res = rowsF mc x 0 y (rangeL 2 2 x.length) 0) ⟨_, _, rangeL 2 2 x.length, _, 0, _⟩ ?hh ?hr ?hs ?hn ?hg F1 N1 ?hnews ?hp0 ?hj ?turn1 ?done1
  case hh => rfl
  case hr => assumption
  case hs => exact small_mine (by omega) (by omega) (by omega)
  case hn => assumption
  case hg => intro i; omega
  case hp0 => ((repeat' (first | exact List.forall_mem_nil _ | (refine List.forall_mem_cons.mpr ⟨by with_unfolding_all rfl, ?_⟩))))
  case hnews => ((repeat' (first | exact List.forall_mem_nil _ | (refine List.forall_mem_cons.mpr ⟨by k_memK, ?_⟩))))
  case hj => exact ⟨hrow, rangeL_length _ _ _, rfl⟩
  case done1 =>
    rintro c u h tk ⟨hc1, hc2, hc3⟩ F3 N3
    dsimp only at F3 N3 ⊢
    (repeat' (first | (k_unfold; (try dsimp only)) | ((fail_if_success (with_reducible show wpAny _ _ (PySem.exec (PySem.Stmt.While _ _ _ _) _) _ _ _)); (fail_if_success (with_reducible show wpAny _ _ (PySem.exec (PySem.Stmt.For _ _ _ _ _) _) _ _ _)); (fail_if_success (with_reducible show wpAny _ _ (PySem.pyIter _) _ _ _)); (fail_if_success (with_reducible show wpAny _ _ (PySem.setItem _ _ _) _ _ _)); first | ((with_reducible show wpAny _ _ (PySem.call (Value.ref _) _) _ _ _); (k_dflt (refine c_subst (by (exact ⟨Frag.In.keeps (by assumption) (Fr.keep (by assumption)), ⟨_, _, _, _, _, Top.keeps (by assumption) (Fr.keep (by assumption))⟩, rfl, by (simp only [Around.deeper, Around.in1]; omega), by (simp only [Around.deeper, Around.in1]; omega)⟩)) (by assumption) (by assumption) ?_; intro _ _ _ k9q; (rename Fr _ _ _ _ => F9q); (rename News _ _ _ _ => N9q); (have F8q := Fr.keepsK F9q k9q); (have N8q := News.keepsK N9q k9q); clear F9q N9q k9q))) | ((k_dflt ((with_reducible show wpAny _ _ (call (Value.type _) [Value.ref _]) _ _ _); (refine list_range _ (by rfl) (by assumption) (by assumption) (by assumption) (by exact small_mine (by omega) (by omega) (by omega)) (by assumption) (by omega) ?_; intro _ _ _ _ _ _ l1q _ _; (try k_lt l1q))))) | ((k_dflt ((with_reducible show wpAny _ _ (call (Value.builtin "len") [Value.str _ _]) _ _ _); (refine len_txt (by first | exact Nat.le_trans (by with_reducible assumption) (by decide) | exact sub100 (by with_reducible assumption) | exact min100 (by with_reducible assumption) | ((try simp only [List.length_drop, List.length_take]); omega)) ?_)))) | ((k_dflt ((with_reducible show wpAny _ _ (compareOp _ (Value.str (one _) _) (Value.str (one _) _)) _ _ _); (refine eq_one ?_ ?_; all_goals intro _)))) | ((with_reducible show wpAny _ _ (truthy (Value.str _ _)) _ _ _); (k_dflt (refine tru_txt (by first | exact Nat.le_trans (by with_reducible assumption) (by decide) | exact sub100 (by with_reducible assumption) | exact min100 (by with_reducible assumption) | ((try simp only [List.length_drop, List.length_take]); omega)) ?_ ?_; all_goals (intro hl9q; (try simp only [List.length_drop, List.length_take, mins, Nat.sub_pos_iff_lt, Nat.sub_eq_zero_iff_le] at hl9q))))) | ((with_reducible show wpAny _ _ (subscriptTail (Expr.Name _ _) (Expr.BinOp _ _ _ _) (Value.str _ _) (Value.int _ _)) _ _ _); (k_dflt (refine at_neg (by rfl) (by first | with_reducible assumption | ((try simp only [List.length_drop, List.length_take] at *); omega)) (by first | exact Nat.le_trans (by with_reducible assumption) (by decide) | exact sub100 (by with_reducible assumption) | exact min100 (by with_reducible assumption) | ((try simp only [List.length_drop, List.length_take]); omega)) ?_))) | ((k_dflt ((with_reducible show wpAny _ _ (subscriptTail _ (Expr.Slice none (some _) none _) _ _) _ _ _); (refine cut_all (s := ⟨_, _, _, _, _⟩) (by assumption) (by assumption) (by first | exact Nat.le_trans (by with_reducible assumption) (by decide) | exact sub100 (by with_reducible assumption) | exact min100 (by with_reducible assumption) | ((try simp only [List.length_drop, List.length_take]); omega)) ?_); intro _ _ _ _ _))) | ((k_dflt ((with_reducible show wpAny _ _ (subscriptTail _ (Expr.Slice none (some _) none _) _ _) _ _ _); (refine cut_to (s := ⟨_, _, _, _, _⟩) (by rfl) (by omega) (by assumption) (by assumption) (by first | with_reducible assumption | ((try simp only [List.length_drop, List.length_take] at *); omega)) (by first | exact Nat.le_trans (by with_reducible assumption) (by decide) | exact sub100 (by with_reducible assumption) | exact min100 (by with_reducible assumption) | ((try simp only [List.length_drop, List.length_take]); omega)) ?_); intro _ _ _ _ _))) | ((with_reducible show wpAny _ _ (subscriptTail (Expr.Name _ _) (Expr.Name _ _) (Value.str _ _) (Value.int _ _)) _ _ _); (k_dflt (refine at_txt (by rfl) (by first | with_reducible assumption | ((try simp only [List.length_drop, List.length_take] at *); omega)) (by first | exact Nat.le_trans (by with_reducible assumption) (by decide) | exact sub100 (by with_reducible assumption) | exact min100 (by with_reducible assumption) | ((try simp only [List.length_drop, List.length_take]); omega)) ?_))) | ((k_dflt ((with_reducible show wpAny _ _ (subscriptTail _ (Expr.Slice (some _) none none _) _ _) _ _ _); (refine cut_from (s := ⟨_, _, _, _, _⟩) (by rfl) (by assumption) (by assumption) (by first | with_reducible assumption | ((try simp only [List.length_drop, List.length_take] at *); omega)) (by first | exact Nat.le_trans (by with_reducible assumption) (by decide) | exact sub100 (by with_reducible assumption) | exact min100 (by with_reducible assumption) | ((try simp only [List.length_drop, List.length_take]); omega)) ?_); intro _ _ _ _ _))) | walk1 | (dsimp only; walk1) | (leave1; try dsimp only))))
    refine h2 _ _ _ _ ?_ (Fr.keep F3)
    rw [← hc3, List.drop_length]
    rfl
  case turn1 =>
  clear F1 N1 hrow hrs hrs1 hxy
  rintro i t ⟨l, vs, ns, k, res, t1⟩ u h tk I io hi ⟨hc1, hc2, hc3⟩ hio F3 N3 hlI _
  have hlI2 : @Ne Nat l I := hlI _ (.head _)
  dsimp only at hc1 hc2 hc3 F3 N3 ⊢
  (repeat' (first | (k_unfold; (try dsimp only)) | ((fail_if_success (with_reducible show wpAny _ _ (PySem.exec (PySem.Stmt.While _ _ _ _) _) _ _ _)); (fail_if_success (with_reducible show wpAny _ _ (PySem.exec (PySem.Stmt.For _ _ _ _ _) _) _ _ _)); (fail_if_success (with_reducible show wpAny _ _ (PySem.pyIter _) _ _ _)); (fail_if_success (with_reducible show wpAny _ _ (PySem.setItem _ _ _) _ _ _)); first | ((with_reducible show wpAny _ _ (PySem.call (Value.ref _) _) _ _ _); (k_dflt (refine c_subst (by (exact ⟨Frag.In.keeps (by assumption) (Fr.keep (by assumption)), ⟨_, _, _, _, _, Top.keeps (by assumption) (Fr.keep (by assumption))⟩, rfl, by (simp only [Around.deeper, Around.in1]; omega), by (simp only [Around.deeper, Around.in1]; omega)⟩)) (by assumption) (by assumption) ?_; intro _ _ _ k9q; (rename Fr _ _ _ _ => F9q); (rename News _ _ _ _ => N9q); (have F8q := Fr.keepsK F9q k9q); (have N8q := News.keepsK N9q k9q); clear F9q N9q k9q))) | ((k_dflt ((with_reducible show wpAny _ _ (call (Value.type _) [Value.ref _]) _ _ _); (refine list_range _ (by rfl) (by assumption) (by assumption) (by assumption) (by exact small_mine (by omega) (by omega) (by omega)) (by assumption) (by omega) ?_; intro _ _ _ _ _ _ l1q _ _; (try k_lt l1q))))) | ((k_dflt ((with_reducible show wpAny _ _ (call (Value.builtin "len") [Value.str _ _]) _ _ _); (refine len_txt (by first | exact Nat.le_trans (by with_reducible assumption) (by decide) | exact sub100 (by with_reducible assumption) | exact min100 (by with_reducible assumption) | ((try simp only [List.length_drop, List.length_take]); omega)) ?_)))) | ((k_dflt ((with_reducible show wpAny _ _ (compareOp _ (Value.str (one _) _) (Value.str (one _) _)) _ _ _); (refine eq_one ?_ ?_; all_goals intro _)))) | ((with_reducible show wpAny _ _ (truthy (Value.str _ _)) _ _ _); (k_dflt (refine tru_txt (by first | exact Nat.le_trans (by with_reducible assumption) (by decide) | exact sub100 (by with_reducible assumption) | exact min100 (by with_reducible assumption) | ((try simp only [List.length_drop, List.length_take]); omega)) ?_ ?_; all_goals (intro hl9q; (try simp only [List.length_drop, List.length_take, mins, Nat.sub_pos_iff_lt, Nat.sub_eq_zero_iff_le] at hl9q))))) | ((with_reducible show wpAny _ _ (subscriptTail (Expr.Name _ _) (Expr.BinOp _ _ _ _) (Value.str _ _) (Value.int _ _)) _ _ _); (k_dflt (refine at_neg (by rfl) (by first | with_reducible assumption | ((try simp only [List.length_drop, List.length_take] at *); omega)) (by first | exact Nat.le_trans (by with_reducible assumption) (by decide) | exact sub100 (by with_reducible assumption) | exact min100 (by with_reducible assumption) | ((try simp only [List.length_drop, List.length_take]); omega)) ?_))) | ((k_dflt ((with_reducible show wpAny _ _ (subscriptTail _ (Expr.Slice none (some _) none _) _ _) _ _ _); (refine cut_all (s := ⟨_, _, _, _, _⟩) (by assumption) (by assumption) (by first | exact Nat.le_trans (by with_reducible assumption) (by decide) | exact sub100 (by with_reducible assumption) | exact min100 (by with_reducible assumption) | ((try simp only [List.length_drop, List.length_take]); omega)) ?_); intro _ _ _ _ _))) | ((k_dflt ((with_reducible show wpAny _ _ (subscriptTail _ (Expr.Slice none (some _) none _) _ _) _ _ _); (refine cut_to (s := ⟨_, _, _, _, _⟩) (by rfl) (by omega) (by assumption) (by assumption) (by first | with_reducible assumption | ((try simp only [List.length_drop, List.length_take] at *); omega)) (by first | exact Nat.le_trans (by with_reducible assumption) (by decide) | exact sub100 (by with_reducible assumption) | exact min100 (by with_reducible assumption) | ((try simp only [List.length_drop, List.length_take]); omega)) ?_); intro _ _ _ _ _))) | ((with_reducible show wpAny _ _ (subscriptTail (Expr.Name _ _) (Expr.Name _ _) (Value.str _ _) (Value.int _ _)) _ _ _); (k_dflt (refine at_txt (by rfl) (by first | with_reducible assumption | ((try simp only [List.length_drop, List.length_take] at *); omega)) (by first | exact Nat.le_trans (by with_reducible assumption) (by decide) | exact sub100 (by with_reducible assumption) | exact min100 (by with_reducible assumption) | ((try simp only [List.length_drop, List.length_take]); omega)) ?_))) | ((k_dflt ((with_reducible show wpAny _ _ (subscriptTail _ (Expr.Slice (some _) none none _) _ _) _ _ _); (refine cut_from (s := ⟨_, _, _, _, _⟩) (by rfl) (by assumption) (by assumption) (by first | with_reducible assumption | ((try simp only [List.length_drop, List.length_take] at *); omega)) (by first | exact Nat.le_trans (by with_reducible assumption) (by decide) | exact sub100 (by with_reducible assumption) | exact min100 (by with_reducible assumption) | ((try simp only [List.length_drop, List.length_take]); omega)) ?_); intro _ _ _ _ _))) | walk1 | (dsimp only; walk1) | (leave1; try dsimp only))))
  refine For_invV s.heap rfl rfl ?_
  (repeat' (first | (k_unfold; (try dsimp only)) | ((fail_if_success (with_reducible show wpAny _ _ (PySem.exec (PySem.Stmt.While _ _ _ _) _) _ _ _)); (fail_if_success (with_reducible show wpAny _ _ (PySem.exec (PySem.Stmt.For _ _ _ _ _) _) _ _ _)); (fail_if_success (with_reducible show wpAny _ _ (PySem.pyIter _) _ _ _)); (fail_if_success (with_reducible show wpAny _ _ (PySem.setItem _ _ _) _ _ _)); first | ((with_reducible show wpAny _ _ (PySem.call (Value.ref _) _) _ _ _); (k_dflt (refine c_subst (by (exact ⟨Frag.In.keeps (by assumption) (Fr.keep (by assumption)), ⟨_, _, _, _, _, Top.keeps (by assumption) (Fr.keep (by assumption))⟩, rfl, by (simp only [Around.deeper, Around.in1]; omega), by (simp only [Around.deeper, Around.in1]; omega)⟩)) (by assumption) (by assumption) ?_; intro _ _ _ k9q; (rename Fr _ _ _ _ => F9q); (rename News _ _ _ _ => N9q); (have F8q := Fr.keepsK F9q k9q); (have N8q := News.keepsK N9q k9q); clear F9q N9q k9q))) | ((k_dflt ((with_reducible show wpAny _ _ (call (Value.type _) [Value.ref _]) _ _ _); (refine list_range _ (by rfl) (by assumption) (by assumption) (by assumption) (by exact small_mine (by omega) (by omega) (by omega)) (by assumption) (by omega) ?_; intro _ _ _ _ _ _ l1q _ _; (try k_lt l1q))))) | ((k_dflt ((with_reducible show wpAny _ _ (call (Value.builtin "len") [Value.str _ _]) _ _ _); (refine len_txt (by first | exact Nat.le_trans (by with_reducible assumption) (by decide) | exact sub100 (by with_reducible assumption) | exact min100 (by with_reducible assumption) | ((try simp only [List.length_drop, List.length_take]); omega)) ?_)))) | ((k_dflt ((with_reducible show wpAny _ _ (compareOp _ (Value.str (one _) _) (Value.str (one _) _)) _ _ _); (refine eq_one ?_ ?_; all_goals intro _)))) | ((with_reducible show wpAny _ _ (truthy (Value.str _ _)) _ _ _); (k_dflt (refine tru_txt (by first | exact Nat.le_trans (by with_reducible assumption) (by decide) | exact sub100 (by with_reducible assumption) | exact min100 (by with_reducible assumption) | ((try simp only [List.length_drop, List.length_take]); omega)) ?_ ?_; all_goals (intro hl9q; (try simp only [List.length_drop, List.length_take, mins, Nat.sub_pos_iff_lt, Nat.sub_eq_zero_iff_le] at hl9q))))) | ((with_reducible show wpAny _ _ (subscriptTail (Expr.Name _ _) (Expr.BinOp _ _ _ _) (Value.str _ _) (Value.int _ _)) _ _ _); (k_dflt (refine at_neg (by rfl) (by first | with_reducible assumption | ((try simp only [List.length_drop, List.length_take] at *); omega)) (by first | exact Nat.le_trans (by with_reducible assumption) (by decide) | exact sub100 (by with_reducible assumption) | exact min100 (by with_reducible assumption) | ((try simp only [List.length_drop, List.length_take]); omega)) ?_))) | ((k_dflt ((with_reducible show wpAny _ _ (subscriptTail _ (Expr.Slice none (some _) none _) _ _) _ _ _); (refine cut_all (s := ⟨_, _, _, _, _⟩) (by assumption) (by assumption) (by first | exact Nat.le_trans (by with_reducible assumption) (by decide) | exact sub100 (by with_reducible assumption) | exact min100 (by with_reducible assumption) | ((try simp only [List.length_drop, List.length_take]); omega)) ?_); intro _ _ _ _ _))) | ((k_dflt ((with_reducible show wpAny _ _ (subscriptTail _ (Expr.Slice none (some _) none _) _ _) _ _ _); (refine cut_to (s := ⟨_, _, _, _, _⟩) (by rfl) (by omega) (by assumption) (by assumption) (by first | with_reducible assumption | ((try simp only [List.length_drop, List.length_take] at *); omega)) (by first | exact Nat.le_trans (by with_reducible assumption) (by decide) | exact sub100 (by with_reducible assumption) | exact min100 (by with_reducible assumption) | ((try simp only [List.length_drop, List.length_take]); omega)) ?_); intro _ _ _ _ _))) | ((with_reducible show wpAny _ _ (subscriptTail (Expr.Name _ _) (Expr.Name _ _) (Value.str _ _) (Value.int _ _)) _ _ _); (k_dflt (refine at_txt (by rfl) (by first | with_reducible assumption | ((try simp only [List.length_drop, List.length_take] at *); omega)) (by first | exact Nat.le_trans (by with_reducible assumption) (by decide) | exact sub100 (by with_reducible assumption) | exact min100 (by with_reducible assumption) | ((try simp only [List.length_drop, List.length_take]); omega)) ?_))) | ((k_dflt ((with_reducible show wpAny _ _ (subscriptTail _ (Expr.Slice (some _) none none _) _ _) _ _ _); (refine cut_from (s := ⟨_, _, _, _, _⟩) (by rfl) (by assumption) (by assumption) (by first | with_reducible assumption | ((try simp only [List.length_drop, List.length_take] at *); omega)) (by first | exact Nat.le_trans (by with_reducible assumption) (by decide) | exact sub100 (by with_reducible assumption) | exact min100 (by with_reducible assumption) | ((try simp only [List.length_drop, List.length_take]); omega)) ?_); intro _ _ _ _ _))) | walk1 | (dsimp only; walk1) | (leave1; try dsimp only))))
  rename Fr _ _ _ _ => F1
  rename News _ _ _ _ => N1
  have hbc : 65 ≤ y.getD i 0 ∧ y.getD i 0 < 81 := by
    rw [List.getD_eq_getElem?_getD, List.getElem?_eq_getElem hi]; exact hyc _ (List.getElem_mem _)
  generalize hfull : rowStep (y.getD i 0) ((i : Int) * 2) ((i : Int) * 2) bigM x ns = full
  have hc3' := rowsF_step (mc := mc) (a := x) (row := ns) (res := res) hi
  rw [hfull, hc3] at hc3'
  refine' for_range (σ := LI) x.length (fun i => (i : Int)) [(I, io)] (fun c => [(l, listOf c.vs.toArray c.k)]) (fun c => [(Str.ofString "distance", .int c.d c.td), (Str.ofString "result", .int c.r c.tr), (Str.ofString "minimum", .int c.m c.tm), (Str.ofString "bchar", .str (one (y.getD i 0)) _), (Str.ofString "row", .ref l), (Str.ofString "a", .str (txt x) t2), (Str.ofString "b", .str (txt y) t3), (Str.ofString "max_cost", .int mc tm)])
    (fun j c => IntsAre c.vs c.ns ∧ c.ns.length = x.length ∧ full = (c.ns.take j ++ (rowStep (y.getD i 0) c.d c.r c.m (x.drop j) (c.ns.drop j)).1, (rowStep (y.getD i 0) c.d c.r c.m (x.drop j) (c.ns.drop j)).2)) ⟨_, ns, _, (i : Int) * 2, (i : Int) * 2, bigM, _, _, _⟩ ?hh ?hr ?hs ?hn ?hg F1 N1 ?hnews ?hp0 ?hj ?turn2 ?done2
  case hh => rfl
  case hr => assumption
  case hs => exact small_mine (by omega) (by omega) (by omega)
  case hn => assumption
  case hg => intro i; omega
  case hnews => ((repeat' (first | exact List.forall_mem_nil _ | (refine List.forall_mem_cons.mpr ⟨by k_memK, ?_⟩))))
  case hp0 => ((repeat' (first | exact List.forall_mem_nil _ | (refine List.forall_mem_cons.mpr ⟨by with_unfolding_all rfl, ?_⟩))))
  case hj => exact ⟨hc1, hc2, by rw [← hfull]; rfl⟩
  case done2 =>
    rintro ⟨vs', ns', k', d, r, mn, td, tr, tmn⟩ u h tk ⟨hd1, hd2, hd3⟩ F3 N3
    dsimp only at hd1 hd2 hd3 F3 N3 ⊢
    have e : full = (ns', r, mn) := by
      rw [hd3, List.drop_length, ← hd2, List.take_length]; simp [rowStep]
    rw [e] at hc3'
    dsimp only at hc3'
    (repeat' (first | (k_unfold; (try dsimp only)) | ((fail_if_success (with_reducible show wpAny _ _ (PySem.exec (PySem.Stmt.While _ _ _ _) _) _ _ _)); (fail_if_success (with_reducible show wpAny _ _ (PySem.exec (PySem.Stmt.For _ _ _ _ _) _) _ _ _)); (fail_if_success (with_reducible show wpAny _ _ (PySem.pyIter _) _ _ _)); (fail_if_success (with_reducible show wpAny _ _ (PySem.setItem _ _ _) _ _ _)); first | ((with_reducible show wpAny _ _ (PySem.call (Value.ref _) _) _ _ _); (k_dflt (refine c_subst (by (exact ⟨Frag.In.keeps (by assumption) (Fr.keep (by assumption)), ⟨_, _, _, _, _, Top.keeps (by assumption) (Fr.keep (by assumption))⟩, rfl, by (simp only [Around.deeper, Around.in1]; omega), by (simp only [Around.deeper, Around.in1]; omega)⟩)) (by assumption) (by assumption) ?_; intro _ _ _ k9q; (rename Fr _ _ _ _ => F9q); (rename News _ _ _ _ => N9q); (have F8q := Fr.keepsK F9q k9q); (have N8q := News.keepsK N9q k9q); clear F9q N9q k9q))) | ((k_dflt ((with_reducible show wpAny _ _ (call (Value.type _) [Value.ref _]) _ _ _); (refine list_range _ (by rfl) (by assumption) (by assumption) (by assumption) (by exact small_mine (by omega) (by omega) (by omega)) (by assumption) (by omega) ?_; intro _ _ _ _ _ _ l1q _ _; (try k_lt l1q))))) | ((k_dflt ((with_reducible show wpAny _ _ (call (Value.builtin "len") [Value.str _ _]) _ _ _); (refine len_txt (by first | exact Nat.le_trans (by with_reducible assumption) (by decide) | exact sub100 (by with_reducible assumption) | exact min100 (by with_reducible assumption) | ((try simp only [List.length_drop, List.length_take]); omega)) ?_)))) | ((k_dflt ((with_reducible show wpAny _ _ (compareOp _ (Value.str (one _) _) (Value.str (one _) _)) _ _ _); (refine eq_one ?_ ?_; all_goals intro _)))) | ((with_reducible show wpAny _ _ (truthy (Value.str _ _)) _ _ _); (k_dflt (refine tru_txt (by first | exact Nat.le_trans (by with_reducible assumption) (by decide) | exact sub100 (by with_reducible assumption) | exact min100 (by with_reducible assumption) | ((try simp only [List.length_drop, List.length_take]); omega)) ?_ ?_; all_goals (intro hl9q; (try simp only [List.length_drop, List.length_take, mins, Nat.sub_pos_iff_lt, Nat.sub_eq_zero_iff_le] at hl9q))))) | ((with_reducible show wpAny _ _ (subscriptTail (Expr.Name _ _) (Expr.BinOp _ _ _ _) (Value.str _ _) (Value.int _ _)) _ _ _); (k_dflt (refine at_neg (by rfl) (by first | with_reducible assumption | ((try simp only [List.length_drop, List.length_take] at *); omega)) (by first | exact Nat.le_trans (by with_reducible assumption) (by decide) | exact sub100 (by with_reducible assumption) | exact min100 (by with_reducible assumption) | ((try simp only [List.length_drop, List.length_take]); omega)) ?_))) | ((k_dflt ((with_reducible show wpAny _ _ (subscriptTail _ (Expr.Slice none (some _) none _) _ _) _ _ _); (refine cut_all (s := ⟨_, _, _, _, _⟩) (by assumption) (by assumption) (by first | exact Nat.le_trans (by with_reducible assumption) (by decide) | exact sub100 (by with_reducible assumption) | exact min100 (by with_reducible assumption) | ((try simp only [List.length_drop, List.length_take]); omega)) ?_); intro _ _ _ _ _))) | ((k_dflt ((with_reducible show wpAny _ _ (subscriptTail _ (Expr.Slice none (some _) none _) _ _) _ _ _); (refine cut_to (s := ⟨_, _, _, _, _⟩) (by rfl) (by omega) (by assumption) (by assumption) (by first | with_reducible assumption | ((try simp only [List.length_drop, List.length_take] at *); omega)) (by first | exact Nat.le_trans (by with_reducible assumption) (by decide) | exact sub100 (by with_reducible assumption) | exact min100 (by with_reducible assumption) | ((try simp only [List.length_drop, List.length_take]); omega)) ?_); intro _ _ _ _ _))) | ((with_reducible show wpAny _ _ (subscriptTail (Expr.Name _ _) (Expr.Name _ _) (Value.str _ _) (Value.int _ _)) _ _ _); (k_dflt (refine at_txt (by rfl) (by first | with_reducible assumption | ((try simp only [List.length_drop, List.length_take] at *); omega)) (by first | exact Nat.le_trans (by with_reducible assumption) (by decide) | exact sub100 (by with_reducible assumption) | exact min100 (by with_reducible assumption) | ((try simp only [List.length_drop, List.length_take]); omega)) ?_))) | ((k_dflt ((with_reducible show wpAny _ _ (subscriptTail _ (Expr.Slice (some _) none none _) _ _) _ _ _); (refine cut_from (s := ⟨_, _, _, _, _⟩) (by rfl) (by assumption) (by assumption) (by first | with_reducible assumption | ((try simp only [List.length_drop, List.length_take] at *); omega)) (by first | exact Nat.le_trans (by with_reducible assumption) (by decide) | exact sub100 (by with_reducible assumption) | exact min100 (by with_reducible assumption) | ((try simp only [List.length_drop, List.length_take]); omega)) ?_); intro _ _ _ _ _))) | walk1 | (dsimp only; walk1) | (leave1; try dsimp only))))
    · rw [if_pos (by assumption)] at hc3'
      exact h2 _ _ _ _ hc3'.symm (Fr.keep F3)
    · rw [if_neg (by assumption)] at hc3'
      refine' TurnP.next ⟨l, vs', ns', k', r, tr⟩ ?F ?N ?n ?c ?hp ?P
      case F => exact F3
      case N => exact N3
      case n => ((repeat' (first | exact List.forall_mem_nil _ | (refine List.forall_mem_cons.mpr ⟨by k_memK, ?_⟩))))
      case c => rw [hio]; exact List.forall_mem_cons.mpr ⟨(show Value.type "list" ≠ Value.type "range_iterator" by decide), List.forall_mem_nil _⟩
      case hp => ((repeat' (first | exact List.forall_mem_nil _ | (refine List.forall_mem_cons.mpr ⟨by with_unfolding_all rfl, ?_⟩))))
      case P => exact ⟨hd1, hd2, hc3'.symm⟩
  case turn2 =>
  clear F1 N1 hrs2 hc2
  rintro j tj ⟨vs', ns', k', d, r, mn, td, tr, tmn⟩ u h tk I2 io2 hj ⟨hd1, hd2, hd3⟩ hio2 F3 N3 hlI3 hlI4
  dsimp only at hd1 hd2 hd3 F3 N3 ⊢
  have hxj : 65 ≤ x.getD j 0 ∧ x.getD j 0 < 81 := by
    rw [List.getD_eq_getElem?_getD, List.getElem?_eq_getElem hj]; exact hxc _ (List.getElem_mem _)
  have hne1 : @Ne Nat l I2 := hlI3 _ (.head _)
  have hne2 : @Ne Nat I I2 := hlI4 _ (.head _)
  have hjn : j < ns'.length := hd2.symm ▸ hj
  have hjv : j < vs'.length := hd1.length.symm ▸ hjn
  have hvk : vs'.length ≤ 1000 := hd1.length.symm ▸ hd2.symm ▸ Nat.le_trans hx8 (by decide)
  (repeat' (first | (k_unfold; (try dsimp only)) | ((fail_if_success (with_reducible show wpAny _ _ (PySem.exec (PySem.Stmt.While _ _ _ _) _) _ _ _)); (fail_if_success (with_reducible show wpAny _ _ (PySem.exec (PySem.Stmt.For _ _ _ _ _) _) _ _ _)); (fail_if_success (with_reducible show wpAny _ _ (PySem.pyIter _) _ _ _)); (fail_if_success (with_reducible show wpAny _ _ (PySem.setItem _ _ _) _ _ _)); first | ((with_reducible show wpAny _ _ (PySem.call (Value.ref _) _) _ _ _); (k_dflt (refine c_subst (by (exact ⟨Frag.In.keeps (by assumption) (Fr.keep (by assumption)), ⟨_, _, _, _, _, Top.keeps (by assumption) (Fr.keep (by assumption))⟩, rfl, by (simp only [Around.deeper, Around.in1]; omega), by (simp only [Around.deeper, Around.in1]; omega)⟩)) (by assumption) (by assumption) ?_; intro _ _ _ k9q; (rename Fr _ _ _ _ => F9q); (rename News _ _ _ _ => N9q); (have F8q := Fr.keepsK F9q k9q); (have N8q := News.keepsK N9q k9q); clear F9q N9q k9q))) | ((k_dflt ((with_reducible show wpAny _ _ (call (Value.type _) [Value.ref _]) _ _ _); (refine list_range _ (by rfl) (by assumption) (by assumption) (by assumption) (by exact small_mine (by omega) (by omega) (by omega)) (by assumption) (by omega) ?_; intro _ _ _ _ _ _ l1q _ _; (try k_lt l1q))))) | ((k_dflt ((with_reducible show wpAny _ _ (call (Value.builtin "len") [Value.str _ _]) _ _ _); (refine len_txt (by first | exact Nat.le_trans (by with_reducible assumption) (by decide) | exact sub100 (by with_reducible assumption) | exact min100 (by with_reducible assumption) | ((try simp only [List.length_drop, List.length_take]); omega)) ?_)))) | ((k_dflt ((with_reducible show wpAny _ _ (compareOp _ (Value.str (one _) _) (Value.str (one _) _)) _ _ _); (refine eq_one ?_ ?_; all_goals intro _)))) | ((with_reducible show wpAny _ _ (truthy (Value.str _ _)) _ _ _); (k_dflt (refine tru_txt (by first | exact Nat.le_trans (by with_reducible assumption) (by decide) | exact sub100 (by with_reducible assumption) | exact min100 (by with_reducible assumption) | ((try simp only [List.length_drop, List.length_take]); omega)) ?_ ?_; all_goals (intro hl9q; (try simp only [List.length_drop, List.length_take, mins, Nat.sub_pos_iff_lt, Nat.sub_eq_zero_iff_le] at hl9q))))) | ((with_reducible show wpAny _ _ (subscriptTail (Expr.Name _ _) (Expr.BinOp _ _ _ _) (Value.str _ _) (Value.int _ _)) _ _ _); (k_dflt (refine at_neg (by rfl) (by first | with_reducible assumption | ((try simp only [List.length_drop, List.length_take] at *); omega)) (by first | exact Nat.le_trans (by with_reducible assumption) (by decide) | exact sub100 (by with_reducible assumption) | exact min100 (by with_reducible assumption) | ((try simp only [List.length_drop, List.length_take]); omega)) ?_))) | ((k_dflt ((with_reducible show wpAny _ _ (subscriptTail _ (Expr.Slice none (some _) none _) _ _) _ _ _); (refine cut_all (s := ⟨_, _, _, _, _⟩) (by assumption) (by assumption) (by first | exact Nat.le_trans (by with_reducible assumption) (by decide) | exact sub100 (by with_reducible assumption) | exact min100 (by with_reducible assumption) | ((try simp only [List.length_drop, List.length_take]); omega)) ?_); intro _ _ _ _ _))) | ((k_dflt ((with_reducible show wpAny _ _ (subscriptTail _ (Expr.Slice none (some _) none _) _ _) _ _ _); (refine cut_to (s := ⟨_, _, _, _, _⟩) (by rfl) (by omega) (by assumption) (by assumption) (by first | with_reducible assumption | ((try simp only [List.length_drop, List.length_take] at *); omega)) (by first | exact Nat.le_trans (by with_reducible assumption) (by decide) | exact sub100 (by with_reducible assumption) | exact min100 (by with_reducible assumption) | ((try simp only [List.length_drop, List.length_take]); omega)) ?_); intro _ _ _ _ _))) | ((with_reducible show wpAny _ _ (subscriptTail (Expr.Name _ _) (Expr.Name _ _) (Value.str _ _) (Value.int _ _)) _ _ _); (k_dflt (refine at_txt (by rfl) (by first | with_reducible assumption | ((try simp only [List.length_drop, List.length_take] at *); omega)) (by first | exact Nat.le_trans (by with_reducible assumption) (by decide) | exact sub100 (by with_reducible assumption) | exact min100 (by with_reducible assumption) | ((try simp only [List.length_drop, List.length_take]); omega)) ?_))) | ((k_dflt ((with_reducible show wpAny _ _ (subscriptTail _ (Expr.Slice (some _) none none _) _ _) _ _ _); (refine cut_from (s := ⟨_, _, _, _, _⟩) (by rfl) (by assumption) (by assumption) (by first | with_reducible assumption | ((try simp only [List.length_drop, List.length_take] at *); omega)) (by first | exact Nat.le_trans (by with_reducible assumption) (by decide) | exact sub100 (by with_reducible assumption) | exact min100 (by with_reducible assumption) | ((try simp only [List.length_drop, List.length_take]); omega)) ?_); intro _ _ _ _ _))) | walk1 | (dsimp only; walk1) | (leave1; try dsimp only))))
  rename Fr _ _ _ _ => F9
  rename News _ _ _ _ => N9
  have hez : ns'.getD (Int.toNat (j : Int)) 0 = ns'.getD j 0 := by rw [Int.toNat_natCast]
  rw [hez] at F9 ⊢
  rw [step_is] at F9 ⊢
  obtain ⟨r', hr2⟩ : ∃ r', ∀ _ : Unit, min (min r (ns'.getD j 0) + 2) (d + cost (y.getD i 0) (x.getD j 0)) = r' := ⟨_, fun _ => rfl⟩
  rw [hr2 ()] at F9 ⊢
  simp only [List.cons_append, List.nil_append] at N9
  refine' put_list (vs := vs') (k := k') (p := j) F9 N9 ?hp ?hlt ?hz ?U ?_
  case hp => rfl
  case hlt => exact hjv
  case hz => exact hvk
  case U => repeat' (first | exact List.forall_mem_nil _ | (apply Upd.head) | (apply Upd.tail; focus (refine neN ?_; (try dsimp only); first | with_reducible assumption | exact Ne.symm (by with_reducible assumption) | omega)) | (refine List.forall_mem_cons.mpr ⟨(by (refine neN ?_; (try dsimp only); first | with_reducible assumption | exact Ne.symm (by with_reducible assumption) | omega)), ?_⟩))
  intro h8 F8 N8
  (repeat' (first | (k_unfold; (try dsimp only)) | ((fail_if_success (with_reducible show wpAny _ _ (PySem.exec (PySem.Stmt.While _ _ _ _) _) _ _ _)); (fail_if_success (with_reducible show wpAny _ _ (PySem.exec (PySem.Stmt.For _ _ _ _ _) _) _ _ _)); (fail_if_success (with_reducible show wpAny _ _ (PySem.pyIter _) _ _ _)); (fail_if_success (with_reducible show wpAny _ _ (PySem.setItem _ _ _) _ _ _)); first | ((with_reducible show wpAny _ _ (PySem.call (Value.ref _) _) _ _ _); (k_dflt (refine c_subst (by (exact ⟨Frag.In.keeps (by assumption) (Fr.keep (by assumption)), ⟨_, _, _, _, _, Top.keeps (by assumption) (Fr.keep (by assumption))⟩, rfl, by (simp only [Around.deeper, Around.in1]; omega), by (simp only [Around.deeper, Around.in1]; omega)⟩)) (by assumption) (by assumption) ?_; intro _ _ _ k9q; (rename Fr _ _ _ _ => F9q); (rename News _ _ _ _ => N9q); (have F8q := Fr.keepsK F9q k9q); (have N8q := News.keepsK N9q k9q); clear F9q N9q k9q))) | ((k_dflt ((with_reducible show wpAny _ _ (call (Value.type _) [Value.ref _]) _ _ _); (refine list_range _ (by rfl) (by assumption) (by assumption) (by assumption) (by exact small_mine (by omega) (by omega) (by omega)) (by assumption) (by omega) ?_; intro _ _ _ _ _ _ l1q _ _; (try k_lt l1q))))) | ((k_dflt ((with_reducible show wpAny _ _ (call (Value.builtin "len") [Value.str _ _]) _ _ _); (refine len_txt (by first | exact Nat.le_trans (by with_reducible assumption) (by decide) | exact sub100 (by with_reducible assumption) | exact min100 (by with_reducible assumption) | ((try simp only [List.length_drop, List.length_take]); omega)) ?_)))) | ((k_dflt ((with_reducible show wpAny _ _ (compareOp _ (Value.str (one _) _) (Value.str (one _) _)) _ _ _); (refine eq_one ?_ ?_; all_goals intro _)))) | ((with_reducible show wpAny _ _ (truthy (Value.str _ _)) _ _ _); (k_dflt (refine tru_txt (by first | exact Nat.le_trans (by with_reducible assumption) (by decide) | exact sub100 (by with_reducible assumption) | exact min100 (by with_reducible assumption) | ((try simp only [List.length_drop, List.length_take]); omega)) ?_ ?_; all_goals (intro hl9q; (try simp only [List.length_drop, List.length_take, mins, Nat.sub_pos_iff_lt, Nat.sub_eq_zero_iff_le] at hl9q))))) | ((with_reducible show wpAny _ _ (subscriptTail (Expr.Name _ _) (Expr.BinOp _ _ _ _) (Value.str _ _) (Value.int _ _)) _ _ _); (k_dflt (refine at_neg (by rfl) (by first | with_reducible assumption | ((try simp only [List.length_drop, List.length_take] at *); omega)) (by first | exact Nat.le_trans (by with_reducible assumption) (by decide) | exact sub100 (by with_reducible assumption) | exact min100 (by with_reducible assumption) | ((try simp only [List.length_drop, List.length_take]); omega)) ?_))) | ((k_dflt ((with_reducible show wpAny _ _ (subscriptTail _ (Expr.Slice none (some _) none _) _ _) _ _ _); (refine cut_all (s := ⟨_, _, _, _, _⟩) (by assumption) (by assumption) (by first | exact Nat.le_trans (by with_reducible assumption) (by decide) | exact sub100 (by with_reducible assumption) | exact min100 (by with_reducible assumption) | ((try simp only [List.length_drop, List.length_take]); omega)) ?_); intro _ _ _ _ _))) | ((k_dflt ((with_reducible show wpAny _ _ (subscriptTail _ (Expr.Slice none (some _) none _) _ _) _ _ _); (refine cut_to (s := ⟨_, _, _, _, _⟩) (by rfl) (by omega) (by assumption) (by assumption) (by first | with_reducible assumption | ((try simp only [List.length_drop, List.length_take] at *); omega)) (by first | exact Nat.le_trans (by with_reducible assumption) (by decide) | exact sub100 (by with_reducible assumption) | exact min100 (by with_reducible assumption) | ((try simp only [List.length_drop, List.length_take]); omega)) ?_); intro _ _ _ _ _))) | ((with_reducible show wpAny _ _ (subscriptTail (Expr.Name _ _) (Expr.Name _ _) (Value.str _ _) (Value.int _ _)) _ _ _); (k_dflt (refine at_txt (by rfl) (by first | with_reducible assumption | ((try simp only [List.length_drop, List.length_take] at *); omega)) (by first | exact Nat.le_trans (by with_reducible assumption) (by decide) | exact sub100 (by with_reducible assumption) | exact min100 (by with_reducible assumption) | ((try simp only [List.length_drop, List.length_take]); omega)) ?_))) | ((k_dflt ((with_reducible show wpAny _ _ (subscriptTail _ (Expr.Slice (some _) none none _) _ _) _ _ _); (refine cut_from (s := ⟨_, _, _, _, _⟩) (by rfl) (by assumption) (by assumption) (by first | with_reducible assumption | ((try simp only [List.length_drop, List.length_take] at *); omega)) (by first | exact Nat.le_trans (by with_reducible assumption) (by decide) | exact sub100 (by with_reducible assumption) | exact min100 (by with_reducible assumption) | ((try simp only [List.length_drop, List.length_take]); omega)) ?_); intro _ _ _ _ _))) | walk1 | (dsimp only; walk1) | (leave1; try dsimp only))))
  all_goals
    refine' TurnP.next ⟨vs'.set j (.int r' _), ns'.set j r', k', ns'.getD j 0, r', _, _, _, _⟩ ?F ?N ?n ?c ?hp ?P
    case F => assumption
    case N => assumption
    case n => ((repeat' (first | exact List.forall_mem_nil _ | (refine List.forall_mem_cons.mpr ⟨by k_memK, ?_⟩))))
    case c => rw [hio2]; exact List.forall_mem_cons.mpr ⟨(show Value.type "list" ≠ Value.type "range_iterator" by decide), List.forall_mem_nil _⟩
    case hp => ((repeat' (first | exact List.forall_mem_nil _ | (refine List.forall_mem_cons.mpr ⟨by with_unfolding_all rfl, ?_⟩))))
    case P => exact ⟨intsAre_set hd1 _ _ _, by rw [List.length_set]; exact hd2, rowStep_inv hj hjn hd3 r' (hr2 ()).symm _ (by (dsimp only; split <;> omega))⟩
end Mine
end
section
open PySem PySem.W PyProof.Rows PySem.Calls PySem.Spec PySem.Flt
set_option maxRecDepth 100000
set_option maxHeartbeats 8000000
namespace Mine
noncomputable def fmax2 (x y : UInt64) : UInt64 := if Float64.cmp x y == some .lt then y else x
noncomputable def fmin2 (x y : UInt64) : UInt64 := if Float64.cmp y x == some .lt then y else x
section
variable {prog : Program} {w : World} {A : Around} {E : Value → Shared → Prop} {s : Shared} {h₀ : Heap} {L : Addr} {m : Str → Option Value} {news : List (Addr × Obj)} {Q : Value → Shared → Prop}
theorem three_old {h : Heap} {o o2 : Obj} {n : Nat} (hn : n = h.objs.size) : ∀ d ∈ [n + 1, n], d < ((h.push o).push o2).objs.size := by
  intro d hd
  rw [Heap.size_push, Heap.size_push]
  rcases List.mem_cons.mp hd with rfl | hd
  · subst hn; exact Nat.lt_succ_self _
  · rcases List.mem_cons.mp hd with rfl | hd
    · subst hn; exact Nat.lt_succ_of_lt (Nat.lt_succ_self _)
    · cases hd
theorem max_three_f {a b c : UInt64} {t u v : Tok} (hh : A.handled = none) (F : Fr h₀ L s.heap m) (N : News h₀ L s.heap news)
    (h1 : t ≠ 0) (h2 : u ≠ 0) (h3 : v ≠ 0) (h : ∀ h' tk x, x ≠ 0 → Fr h₀ L h' m → News h₀ L h' news → Q (.float (fmax2 (fmax2 a b) c) x) { s with heap := h', toks := tk }) :
    wpAny (model prog w) A (call (.builtin "max") [.float a t, .float b u, .float c v]) Q E s := by
  have hT : (s.heap.push { cls := .type "tuple", data := .seq #[.float a t, .float b u, .float c v] }).IsTuple s.heap.objs.size #[.float a t, .float b u, .float c v] := ⟨_, Heap.get?_push_size _ rfl, rfl, 0, rfl⟩
  refine call_max_three (wpAny_pyIter_tuple hT ?_)
  have hsz : (s.heap.push { cls := .type "tuple", data := .seq #[.float a t, .float b u, .float c v] }).objs.size = s.heap.objs.size + 1 := Heap.size_push ..
  refine ⟨_, [_, s.heap.objs.size], [_], _, _, _, _, rfl, Walks.tuple (A := A.in1) hh _ s.heap.objs.size (by rw [hsz]; exact Nat.ne_of_lt (Nat.lt_succ_self _)) #[.float a t, .float b u, .float c v],
    ⟨⟨_, Heap.get?_push_size _ rfl, rfl, rfl⟩, hT.push _⟩, (by rw [hsz]; exact three_old rfl), by simp, cmpOf_gt #[.float a t, .float b u, .float c v] (by simp [NumV.float]), fun r h' tk hP hk => ?_⟩
  have hold : ∀ d o, s.heap.get? d = some o → h'.get? d = some o := fun d o e => by
    refine hk d o (fun hm => ?_) (Heap.get?_push_of_some _ (Heap.get?_push_of_some _ e))
    rw [List.mem_singleton.mp hm, hsz] at e
    exact absurd (Heap.lt_size e) (Nat.not_lt.mpr (Nat.le_succ _))
  have hv : ∃ x, x ≠ 0 ∧ r = .float (fmax2 (fmax2 a b) c) x := by
    unfold fmax2
    cases g1 : Float64.cmp a b == some .lt <;> simp only [if_true, if_false, Bool.false_eq_true]
    · cases g2 : Float64.cmp a c == some .lt <;> simp [argBest, ltV, g1, g2] at hP <;> exact ⟨_, by assumption, hP.symm⟩
    · cases g2 : Float64.cmp b c == some .lt <;> simp [argBest, ltV, g1, g2] at hP <;> exact ⟨_, by assumption, hP.symm⟩
  obtain ⟨x, hx, rfl⟩ := hv
  exact h h' tk x hx (F.keeps hold) (News.keepsK N hold)
theorem min_three_f {a b c : UInt64} {t u v : Tok} (hh : A.handled = none) (F : Fr h₀ L s.heap m) (N : News h₀ L s.heap news)
    (h1 : t ≠ 0) (h2 : u ≠ 0) (h3 : v ≠ 0) (h : ∀ h' tk x, x ≠ 0 → Fr h₀ L h' m → News h₀ L h' news → Q (.float (fmin2 (fmin2 a b) c) x) { s with heap := h', toks := tk }) :
    wpAny (model prog w) A (call (.builtin "min") [.float a t, .float b u, .float c v]) Q E s := by
  have hT : (s.heap.push { cls := .type "tuple", data := .seq #[.float a t, .float b u, .float c v] }).IsTuple s.heap.objs.size #[.float a t, .float b u, .float c v] := ⟨_, Heap.get?_push_size _ rfl, rfl, 0, rfl⟩
  refine call_min_three (wpAny_pyIter_tuple hT ?_)
  have hsz : (s.heap.push { cls := .type "tuple", data := .seq #[.float a t, .float b u, .float c v] }).objs.size = s.heap.objs.size + 1 := Heap.size_push ..
  refine ⟨_, [_, s.heap.objs.size], [_], _, _, _, _, rfl, Walks.tuple (A := A.in1) hh _ s.heap.objs.size (by rw [hsz]; exact Nat.ne_of_lt (Nat.lt_succ_self _)) #[.float a t, .float b u, .float c v],
    ⟨⟨_, Heap.get?_push_size _ rfl, rfl, rfl⟩, hT.push _⟩, (by rw [hsz]; exact three_old rfl), by simp, cmpOf_lt #[.float a t, .float b u, .float c v] (by simp [NumV.float]), fun r h' tk hP hk => ?_⟩
  have hold : ∀ d o, s.heap.get? d = some o → h'.get? d = some o := fun d o e => by
    refine hk d o (fun hm => ?_) (Heap.get?_push_of_some _ (Heap.get?_push_of_some _ e))
    rw [List.mem_singleton.mp hm, hsz] at e
    exact absurd (Heap.lt_size e) (Nat.not_lt.mpr (Nat.le_succ _))
  have hv : ∃ x, x ≠ 0 ∧ r = .float (fmin2 (fmin2 a b) c) x := by
    unfold fmin2
    cases g1 : Float64.cmp b a == some .lt <;> simp only [if_true, if_false, Bool.false_eq_true]
    · cases g2 : Float64.cmp c a == some .lt <;> simp [argBest, ltV, g1, g2] at hP <;> exact ⟨_, by assumption, hP.symm⟩
    · cases g2 : Float64.cmp c b == some .lt <;> simp [argBest, ltV, g1, g2] at hP <;> exact ⟨_, by assumption, hP.symm⟩
  obtain ⟨x, hx, rfl⟩ := hv
  exact h h' tk x hx (F.keeps hold) (News.keepsK N hold)
end
end Mine
end
section
open PySem PySem.W PyProof.Rows PySem.Calls PySem.Spec PySem.Flt
set_option maxRecDepth 100000
set_option maxHeartbeats 8000000
namespace Mine
noncomputable abbrev isEq (a b : UInt64) : Bool := Float64.cmp a b == some Ordering.eq
noncomputable def rgbF (r g b : UInt64) : Option (UInt64 × UInt64 × UInt64) :=
  if isEq (fmin2 (fmin2 r g) b) (fmax2 (fmax2 r g) b) = true then some (0, 0, fmax2 (fmax2 r g) b)
  else if Float64.isZero (fmax2 (fmax2 r g) b) = true then none
  else if Float64.isZero (Float64.sub (fmax2 (fmax2 r g) b) (fmin2 (fmin2 r g) b)) = true then none
  else some ((Float64.divmod (Float64.div (
      if isEq r (fmax2 (fmax2 r g) b) = true then
        Float64.sub (Float64.div (Float64.sub (fmax2 (fmax2 r g) b) b) (Float64.sub (fmax2 (fmax2 r g) b) (fmin2 (fmin2 r g) b))) (Float64.div (Float64.sub (fmax2 (fmax2 r g) b) g) (Float64.sub (fmax2 (fmax2 r g) b) (fmin2 (fmin2 r g) b)))
      else if isEq g (fmax2 (fmax2 r g) b) = true then
        Float64.sub (Float64.add 4611686018427387904 (Float64.div (Float64.sub (fmax2 (fmax2 r g) b) r) (Float64.sub (fmax2 (fmax2 r g) b) (fmin2 (fmin2 r g) b)))) (Float64.div (Float64.sub (fmax2 (fmax2 r g) b) b) (Float64.sub (fmax2 (fmax2 r g) b) (fmin2 (fmin2 r g) b)))
      else Float64.sub (Float64.add 4616189618054758400 (Float64.div (Float64.sub (fmax2 (fmax2 r g) b) g) (Float64.sub (fmax2 (fmax2 r g) b) (fmin2 (fmin2 r g) b)))) (Float64.div (Float64.sub (fmax2 (fmax2 r g) b) r) (Float64.sub (fmax2 (fmax2 r g) b) (fmin2 (fmin2 r g) b)))
    ) 4618441417868443648) 4607182418800017408).2, Float64.div (Float64.sub (fmax2 (fmax2 r g) b) (fmin2 (fmin2 r g) b)) (fmax2 (fmax2 r g) b), fmax2 (fmax2 r g) b)
noncomputable abbrev hsvI (h : UInt64) : Int := Flt.toInt Float64.truncOf (Float64.mul h 4618441417868443648)
noncomputable def hsvT (h : UInt64) : UInt64 := Float64.sub (Float64.mul h 4618441417868443648) (Float64.ofInt (hsvI h))
noncomputable def hsvP (s v : UInt64) : UInt64 := Float64.mul v (Float64.sub 4607182418800017408 s)
noncomputable def hsvQ (h s v : UInt64) : UInt64 := Float64.mul v (Float64.sub 4607182418800017408 (Float64.mul s (hsvT h)))
noncomputable def hsvU (h s v : UInt64) : UInt64 := Float64.mul v (Float64.sub 4607182418800017408 (Float64.mul s (Float64.sub 4607182418800017408 (hsvT h))))
noncomputable def hsvF (h s v : UInt64) : Option (UInt64 × UInt64 × UInt64) :=
  if isEq s 0 = true then some (v, v, v)
  else if Float64.isFinite (Float64.mul h 4618441417868443648) = false then none
  else if 2 ^ 64 ≤ (hsvI h).natAbs then none
  else if (hsvI h).fmod 6 = 0 then some (v, hsvU h s v, hsvP s v)
  else if (hsvI h).fmod 6 = 1 then some (hsvQ h s v, v, hsvP s v)
  else if (hsvI h).fmod 6 = 2 then some (hsvP s v, v, hsvU h s v)
  else if (hsvI h).fmod 6 = 3 then some (hsvP s v, hsvQ h s v, v)
  else if (hsvI h).fmod 6 = 4 then some (hsvU h s v, hsvP s v, v)
  else if (hsvI h).fmod 6 = 5 then some (v, hsvP s v, hsvQ h s v)
  else none
noncomputable abbrev tup3 (a b c : UInt64) (t u v : Tok) : Obj := { cls := .type "tuple", data := .seq #[.float a t, .float b u, .float c v] }
end Mine
end
section
open PySem PySem.W PyProof.Rows PySem.Calls PySem.Spec PySem.Flt
set_option maxRecDepth 100000
set_option maxHeartbeats 8000000
namespace Mine
section
variable {prog : Program} {w : World} {M : Model} {A : Around} {E : Value → Shared → Prop} {s : Shared} {h₀ : Heap} {L : Addr} {m : Str → Option Value} {news : List (Addr × Obj)}
theorem same_float {a b : UInt64} {t u : Tok} {Q : Bool → Shared → Prop} (h1 : t ≠ 0) (h2 : u ≠ 0) (hb : NoneBooked s.heap) (hq : ∀ b, Q b s) : wpAny M A (isSame (.float a t) (.float b u)) Q E s := by
  have h0 : (t == 0 || u == 0) = false := by simp [h1, h2]
  show wpAny M A (isSame.created (a == b && !Float64.isNaN a) t u) Q E s
  unfold isSame.created
  refine wpAny_ite ?_
  split
  · rename_i h; rw [h0] at h; exact absurd h Bool.false_ne_true
  refine wpAny_ite ?_
  split
  · exact wpAny_pure (hq _)
  refine wpAny_ite ?_
  split
  · exact wpAny_pure (hq _)
  refine wpAny_bind (wpAny_sharingNotTold_none hb ?_)
  first | rw [if_neg Bool.false_ne_true] | simp only [Bool.false_eq_true, if_false]
  refine wpAny_bind (wpAny_sharingNotTold_none hb ?_)
  first | rw [if_neg Bool.false_ne_true] | simp only [Bool.false_eq_true, if_false]
  exact wpAny_bind (wpAny_rule (wpAny_bind (wpAny_askSetting (wpAny_pure (hq _)))))
theorem eqAt_float {a b : UInt64} {t u : Tok} (h1 : t ≠ 0) (h2 : u ≠ 0) (hb : NoneBooked s.heap) (he : isEq a b = true) : SeqAt.EqAt A s (.float a t) (.float b u) true := fun prog w E Q h => by
  unfold eqBool
  refine wpAny_holding ?_
  refine wpAny_ite_split (fun hab => ?_) (fun _ => ?_)
  · exact wpAny_bind (wpAny_rule (wpAny_pure h))
  · refine wpAny_bind (same_float h1 h2 hb fun c => ?_)
    cases c
    · refine wpAny_bind (AutoFloatOps.eq_0 ?_)
      rw [show (Float64.cmp a b == some Ordering.eq) = true from he]
      exact wpAny_truthy_bool h
    · exact wpAny_pure h
theorem rcne_go {a b : Value} {k : Bool} {Q : Value → Shared → Prop} (h : SeqAt.RcNeAt A s a b k) (hq : Q (.bool k) s) : wpAny (model prog w) A (compareOp .NotEq a b) Q E s := h prog w E Q hq
noncomputable abbrev tup2 (a b : UInt64) (t u : Tok) : Obj := { cls := .type "tuple", data := .seq #[.float a t, .float b u] }
theorem ne_tup2 {D1 D2 : Addr} {a b c d : UInt64} {t u v x : Tok} {Q : Value → Shared → Prop} (g1 : s.heap.get? D1 = some (tup2 a b t u)) (g2 : s.heap.get? D2 = some (tup2 c d v x)) (hac : isEq a c = true) (hbd : isEq b d = true)
    (ht : t ≠ 0) (hu : u ≠ 0) (hv : v ≠ 0) (hx : x ≠ 0) (hb : NoneBooked s.heap) (hun : A.units < cLine) (h : Q (.bool false) s) : wpAny (model prog w) A (compareOp .NotEq (.ref D1) (.ref D2)) Q E s := by
  refine rcne_go (SeqAt.RcNeAt.tuples (e := fun _ => true) ⟨_, g1, rfl, 0, rfl⟩ ⟨_, g2, rfl, 0, rfl⟩ hun ?_) h
  intro j h1 h2
  have hj : j = 0 ∨ j = 1 := by
    have : j < 2 := h1
    omega
  rcases hj with rfl | rfl
  · exact eqAt_float ht hv hb hac
  · exact eqAt_float hu hx hb hbd
/-- a statement, with the count of tokens above nought from here on -/
theorem execs_cons_t {st : Stmt} {rest : List Stmt} {env : Env} {Q : Flow → Shared → Prop} (ht : 1 ≤ s.toks)
    (h : wpAny M A (exec st env) (fun f s' => match f with | .next => ∀ tk, 1 ≤ tk → wpAny M A (execs rest env) Q E { s' with toks := tk } | f => Q f s') E s) : wpAny M A (execs (st :: rest) env) Q E s := by
  refine wpAny_execs_cons (wpAny_with_toks ht (wpAny_mono h (fun f s' q ht' => ?_) fun _ _ x _ => x))
  cases f with
  | next => exact q s'.toks ht'
  | _ => exact q
end
theorem tok_ne {t : Tok} (h : @LE.le Nat instLENat 1 t) : t ≠ 0 := fun (e : @Eq Nat t 0) => by omega
theorem noneBooked_of {w : World} {h : Heap} (X : Frag.In (hd.heap_39 w.params) h) : NoneBooked h := by
  have ho := X cStatics _ rfl
  exact ⟨fun _ => none, ⟨_, #[], _, ho, rfl, fun e he => by simp at he, fun _ => rfl⟩, rfl⟩
theorem noneBooked_keeps {h h' : Heap} (x : NoneBooked h) (k : ∀ b o, h.get? b = some o → h'.get? b = some o) : NoneBooked h' := by
  obtain ⟨mc, h1, h2⟩ := x
  exact ⟨mc, h1.keeps k, h2⟩
end Mine
end
section
open PySem PySem.W PyProof.Rows PySem.Calls PySem.Spec
set_option maxRecDepth 100000
set_option maxHeartbeats 8000000
namespace Mine
theorem fill_C1rgb : PySem.Challenge.rw_sc0035_01.foot = 8 ∧ hd.heap_39 = hd.heap_39 := by
  w_top off
  k_fill
  exact ⟨rfl, rfl⟩

theorem c_rgb {w : World} {A : Around} {s : Shared} {Q E : Value → Shared → Prop} (C : Cx 1 w A s.heap)
    {r g b : UInt64} {tr tg tb : Tok} {H S V : UInt64} (htr : tr ≠ 0) (htg : tg ≠ 0) (htb : tb ≠ 0) (hF : rgbF r g b = some (H, S, V))
    (h : ∀ D t u v h' tk, Keeps s.heap h' → s.heap.get? D = none → h'.get? D = some (tup3 H S V t u v) → u ≠ 0 → v ≠ 0 → Q (.ref D) { s with heap := h', toks := tk }) :
    wpAny (model PR w) A (call (.ref 35) [.float r tr, .float g tg, .float b tb]) Q E s := by
  obtain ⟨X, ⟨prg, loose, mean, mg, mb, T⟩, hh, hroom, hun⟩ := C
  obtain ⟨_, dp, fr, gd, un⟩ := A
  cases hh
  replace hroom : dp + 1 < recursionLimit := hroom
  replace hun : un + 40 < cLine := hun
  refine own_call [(Str.ofString "r", .float r tr), (Str.ofString "g", .float g tg), (Str.ofString "b", .float b tb)] X T (by k_is) (by k_is) (by (show dp < _); omega) (BindsTo.of_eq rfl) (locs rfl) (fun L h₁ tk F N => ?_) (by decide) rfl rfl rfl
  k_fold
  have hz1 : Float64.isZero 4618441417868443648 = false := by decide +kernel
  (repeat' (first | (k_unfold; (try dsimp only)) | ((fail_if_success (with_reducible show wpAny _ _ (PySem.exec (PySem.Stmt.While _ _ _ _) _) _ _ _)); (fail_if_success (with_reducible show wpAny _ _ (PySem.exec (PySem.Stmt.For _ _ _ _ _) _) _ _ _)); (fail_if_success (with_reducible show wpAny _ _ (PySem.pyIter _) _ _ _)); (fail_if_success (with_reducible show wpAny _ _ (PySem.setItem _ _ _) _ _ _)); first | ((with_reducible show wpAny _ _ (PySem.execs (_ :: _) _) _ _ _); (k_dflt (refine execs_cons_t (by first | assumption | ((try dsimp only); omega)) ?_))) | ((k_dflt ((with_reducible show wpAny _ _ (call _ [Value.float _ _, Value.float _ _, Value.float _ _]) _ _ _); (refine min_three_f (by rfl) (by assumption) (by assumption) (by assumption) (by assumption) (by assumption) ?_); intro _ _ _ _ _ _))) | ((k_dflt ((with_reducible show wpAny _ _ (call _ [Value.float _ _, Value.float _ _, Value.float _ _]) _ _ _); (refine max_three_f (by rfl) (by assumption) (by assumption) (by assumption) (by assumption) (by assumption) ?_); intro _ _ _ _ _ _))) | walk1 | (dsimp only; walk1) | (leave1; try dsimp only))))
  all_goals unfold rgbF at hF
  · rename (_ == some Ordering.eq) = true => e
    rw [if_pos e] at hF
    simp only [Option.some.injEq, Prod.mk.injEq] at hF
    obtain ⟨rfl, rfl, rfl⟩ := hF
    rename Fr _ _ _ _ => F9
    rename News _ _ _ _ => N9
    exact h _ _ _ _ _ _ (Fr.keep F9) (N9 _ (.head _)).2.2 (N9 _ (.head _)).1 (by first | assumption | exact tok_ne (by (try dsimp only); omega)) (by first | assumption | exact tok_ne (by (try dsimp only); omega))
  · rename (Float64.cmp (fmin2 (fmin2 r g) b) _ == some Ordering.eq) = false => e1
    rename Float64.isZero (fmax2 (fmax2 r g) b) = true => e2
    rw [if_neg (by simp [e1]), if_pos e2] at hF
    cases hF
  · rename (Float64.cmp (fmin2 (fmin2 r g) b) _ == some Ordering.eq) = false => e1
    rename ¬ Float64.isZero (fmax2 (fmax2 r g) b) = true => e2
    rename Float64.isZero (Float64.sub (fmax2 (fmax2 r g) b) _) = true => e3
    rw [if_neg (by simp [e1]), if_neg e2, if_pos e3] at hF
    cases hF
  all_goals
    rename (Float64.cmp (fmin2 (fmin2 r g) b) _ == some Ordering.eq) = false => e1
    rename ¬ Float64.isZero (fmax2 (fmax2 r g) b) = true => e2
    rename ¬ Float64.isZero (Float64.sub (fmax2 (fmax2 r g) b) _) = true => e3
    rename Fr _ _ _ _ => F9
    rename News _ _ _ _ => N9
    rw [if_neg (by simp [e1]), if_neg e2, if_neg e3] at hF
    simp only [Option.some.injEq, Prod.mk.injEq] at hF
    obtain ⟨hH, hS, hV⟩ := hF
  · rename (Float64.cmp r _ == some Ordering.eq) = true => e4
    rw [if_pos e4] at hH
    subst hH; subst hS; subst hV
    exact h _ _ _ _ _ _ (Fr.keep F9) (N9 _ (.head _)).2.2 (N9 _ (.head _)).1 (by first | assumption | exact tok_ne (by (try dsimp only); omega)) (by first | assumption | exact tok_ne (by (try dsimp only); omega))
  · rename (Float64.cmp r _ == some Ordering.eq) = false => e4
    rename (Float64.cmp g _ == some Ordering.eq) = true => e5
    rw [if_neg (by simp [e4]), if_pos e5] at hH
    subst hH; subst hS; subst hV
    exact h _ _ _ _ _ _ (Fr.keep F9) (N9 _ (.head _)).2.2 (N9 _ (.head _)).1 (by first | assumption | exact tok_ne (by (try dsimp only); omega)) (by first | assumption | exact tok_ne (by (try dsimp only); omega))
  · rename (Float64.cmp r _ == some Ordering.eq) = false => e4
    rename (Float64.cmp g _ == some Ordering.eq) = false => e5
    rw [if_neg (by simp [e4]), if_neg (by simp [e5])] at hH
    subst hH; subst hS; subst hV
    exact h _ _ _ _ _ _ (Fr.keep F9) (N9 _ (.head _)).2.2 (N9 _ (.head _)).1 (by first | assumption | exact tok_ne (by (try dsimp only); omega)) (by first | assumption | exact tok_ne (by (try dsimp only); omega))
end Mine
end
section
open PySem PySem.W PyProof.Rows PySem.Calls PySem.Spec
set_option maxRecDepth 100000
set_option maxHeartbeats 8000000
namespace Mine
theorem fill_C1hsv : PySem.Challenge.rw_sc0035_01.foot = 8 ∧ hd.heap_39 = hd.heap_39 := by
  w_top off
  k_fill
  exact ⟨rfl, rfl⟩

theorem c_hsv {w : World} {A : Around} {s : Shared} {Q E : Value → Shared → Prop} (C : Cx 1 w A s.heap)
    {hu sa va : UInt64} {th ts tv : Tok} {R G B : UInt64} (htv : tv ≠ 0) (hF : hsvF hu sa va = some (R, G, B))
    (h : ∀ D t u v h' tk, Keeps s.heap h' → s.heap.get? D = none → h'.get? D = some (tup3 R G B t u v) → t ≠ 0 → u ≠ 0 → v ≠ 0 → Q (.ref D) { s with heap := h', toks := tk }) :
    wpAny (model PR w) A (call (.ref 42) [.float hu th, .float sa ts, .float va tv]) Q E s := by
  obtain ⟨X, ⟨prg, loose, mean, mg, mb, T⟩, hh, hroom, hun⟩ := C
  obtain ⟨_, dp, fr, gd, un⟩ := A
  cases hh
  replace hroom : dp + 1 < recursionLimit := hroom
  replace hun : un + 40 < cLine := hun
  refine own_call [(Str.ofString "h", .float hu th), (Str.ofString "s", .float sa ts), (Str.ofString "v", .float va tv)] X T (by k_is) (by k_is) (by (show dp < _); omega) (BindsTo.of_eq rfl) (locs rfl) (fun L h₁ tk F N => ?_) (by decide) rfl rfl rfl
  k_fold
  (repeat' (first | (k_unfold; (try dsimp only)) | ((fail_if_success (with_reducible show wpAny _ _ (PySem.exec (PySem.Stmt.While _ _ _ _) _) _ _ _)); (fail_if_success (with_reducible show wpAny _ _ (PySem.exec (PySem.Stmt.For _ _ _ _ _) _) _ _ _)); (fail_if_success (with_reducible show wpAny _ _ (PySem.pyIter _) _ _ _)); (fail_if_success (with_reducible show wpAny _ _ (PySem.setItem _ _ _) _ _ _)); first | walk1 | (dsimp only; walk1) | (leave1; try dsimp only))))
  all_goals unfold hsvF at hF
  · rename (Float64.cmp sa 0 == some Ordering.eq) = true => e1
    rw [if_pos e1] at hF
    simp only [Option.some.injEq, Prod.mk.injEq] at hF
    obtain ⟨rfl, rfl, rfl⟩ := hF
    rename Fr _ _ _ _ => F9
    rename News _ _ _ _ => N9
    exact h _ _ _ _ _ _ (Fr.keep F9) (N9 _ (.head _)).2.2 (N9 _ (.head _)).1 (by first | assumption | exact tok_ne (by (try dsimp only); omega)) (by first | assumption | exact tok_ne (by (try dsimp only); omega)) (by first | assumption | exact tok_ne (by (try dsimp only); omega))
  all_goals
    rename (Float64.cmp sa 0 == some Ordering.eq) = false => e1
    rw [if_neg (by simp [e1])] at hF
  · rename Float64.isNaN _ = true => e2
    rw [if_pos (Flt.not_finite_of_nan e2)] at hF
    cases hF
  · rename Float64.isInf _ = true => e2
    rw [if_pos (Flt.not_finite_of_inf e2)] at hF
    cases hF
  all_goals
    rename Float64.isFinite _ = true => e2
    rw [if_neg (by simp [e2])] at hF
  · rename 2 ^ 1024 - 2 ^ 970 ≤ _ => e3
    rw [if_pos (show 2 ^ 64 ≤ (hsvI hu).natAbs from Nat.le_trans (show 2 ^ 64 ≤ 2 ^ 1024 - 2 ^ 970 by decide) e3)] at hF
    cases hF
  all_goals
    by_cases e3 : 2 ^ 64 ≤ (hsvI hu).natAbs
    · rw [if_pos e3] at hF; cases hF
    rw [if_neg e3] at hF
  all_goals
    rename Fr _ _ _ _ => F9
    rename News _ _ _ _ => N9
    (repeat rw [if_neg (by assumption)] at hF)
    first
    | (cases hF; done)
    | (rw [if_pos (by assumption)] at hF
       simp only [Option.some.injEq, Prod.mk.injEq] at hF
       obtain ⟨hH, hS, hV⟩ := hF
       subst hH; subst hS; subst hV
       exact h _ _ _ _ _ _ (Fr.keep F9) (N9 _ (.head _)).2.2 (N9 _ (.head _)).1 (by first | assumption | exact tok_ne (by (try dsimp only); omega)) (by first | assumption | exact tok_ne (by (try dsimp only); omega)) (by first | assumption | exact tok_ne (by (try dsimp only); omega)))
end Mine
end
section
open PySem PySem.W PyProof.Rows PySem.Calls PySem.Spec PySem.Flt
set_option maxRecDepth 100000
set_option maxHeartbeats 8000000
namespace Mine
theorem rsz (a n : Nat) : PySem.Builtin.Range.rangeSize (a : Int) ((n : Int) + 1) 1 = ((n + 1 - a : Nat) : Int) := by
  unfold PySem.Builtin.Range.rangeSize
  simp only [show (1 : Int) > 0 by decide, if_true]
  split <;> omega
structure Row where
  (l : Addr) (vs : List Value) (k : Nat)
structure LD where
  (d : Addr) (o : Obj) (rows : List Row)
structure LR where
  (l : Addr) (vs : List Value) (k : Nat)
noncomputable def rowsLed (rows : List Row) : List (Addr × Obj) := rows.map fun r => (r.l, listOf r.vs.toArray r.k)
noncomputable def kvsOf (rows : List Row) : List (Int × Value) := (List.range rows.length).map fun (j : Nat) => (((j : Int) + 2), (match rows[j]? with | some r => Value.ref r.l | none => .none))
noncomputable def rowL (n wh : Nat) : List Int := (List.range n).map fun (c : Nat) => (((c + 1) % wh : Nat) : Int)
noncomputable def RowsOk (n : Nat) (rows : List Row) : Prop := ∀ j r, rows[j]? = some r → IntsAre r.vs (rowL n (j + 2))
theorem kvsOf_snoc (rows : List Row) (r : Row) : kvsOf (rows ++ [r]) = kvsOf rows ++ [((rows.length : Int) + 2, .ref r.l)] := by
  unfold kvsOf
  rw [List.length_append, List.length_singleton, List.range_succ, List.map_append]
  congr 1
  · refine List.map_congr_left fun j hj => ?_
    rw [List.getElem?_append_left (List.mem_range.mp hj)]
  · simp
theorem kvs_stored (rows : List Row) (r : Row) : stored (kvsOf rows) ((rows.length : Int) + 2) (.ref r.l) = kvsOf (rows ++ [r]) := by
  rw [kvsOf_snoc]
  unfold stored
  rw [if_neg]
  simp only [kvsOf, List.any_map, List.any_eq_true, not_exists, not_and, List.mem_range, Function.comp_apply, decide_eq_true_eq]
  intro j hj e
  omega
theorem kvs_at {rows : List Row} {j : Nat} {r : Row} (h : rows[j]? = some r) : valueAt (kvsOf rows) ((j : Int) + 2) = some (.ref r.l) := by
  have hj : j < rows.length := (List.getElem?_eq_some_iff.mp h).1
  unfold valueAt kvsOf
  rw [List.find?_map]
  have e : (List.range rows.length).find? ((fun kv : Int × Value => decide (kv.1 = (j : Int) + 2)) ∘ fun (j : Nat) => (((j : Int) + 2), (match rows[j]? with | some r => Value.ref r.l | none => .none))) = some j := by
    rw [List.find?_range_eq_some]
    refine ⟨by simp, by simpa using hj, fun i hi => ?_⟩
    simp only [Function.comp_apply, Bool.not_eq_true', decide_eq_false_iff_not]
    omega
  rw [e]
  simp [h]
theorem rowL_at {n wh c : Nat} (h : c < n) : (rowL n wh).getD c 0 = (((c + 1) % wh : Nat) : Int) := by
  simp [rowL, List.getD_eq_getElem?_getD, h]
theorem upd_of {d : Addr} {o o' : Obj} {post : List (Addr × Obj)} : ∀ {pre : List (Addr × Obj)}, (∀ p ∈ pre, p.1 ≠ d) → (∀ p ∈ post, p.1 ≠ d) → Upd d o o' (pre ++ (d, o) :: post) (pre ++ (d, o') :: post)
  | [], _, h2 => .head h2
  | p :: _, h1, h2 => .tail (h1 p (.head _)) (upd_of (fun q hq => h1 q (.tail _ hq)) h2)
theorem updF_of {d : Addr} {o : Obj} {post : List (Addr × Obj)} : ∀ {pre : List (Addr × Obj)}, (∀ p ∈ pre, p.1 ≠ d) → (∀ p ∈ post, p.1 ≠ d) → UpdF d o (pre ++ (d, o) :: post) (fun o' => pre ++ (d, o') :: post)
  | [], _, h2 => .head h2
  | p :: _, h1, h2 => .tail (h1 p (.head _)) (updF_of (fun q hq => h1 q (.tail _ hq)) h2)
noncomputable def hueI (H : UInt64) (wh : Int) : UInt64 := Float64.add (Float64.mul H (Float64.ofInt wh)) 4602678819172646912
/-- a card's colour is told as it was painted -/
noncomputable def PaintOk (sa va : UInt64) (wh ca : Nat) (x : UInt64) : Prop := ∃ R G B H S V, hsvF x sa va = some (R, G, B) ∧ rgbF R G B = some (H, S, V) ∧ isEq S sa = true ∧ isEq V va = true ∧
  Float64.isFinite (hueI H wh) = true ∧ (Flt.toInt Float64.truncOf (hueI H wh)).natAbs < 2 ^ 64 ∧ (Flt.toInt Float64.truncOf (hueI H wh)).fmod wh = ((ca % wh : Nat) : Int)
noncomputable def fq (a b : Nat) : UInt64 := Float64.ofFrac false a b
theorem fq_of {a b : Int} {p q : Nat} (ha : a = (p : Int)) (hb : b = (q : Int)) : Float64.ofFrac (decide (a < 0) != decide (b < 0)) a.natAbs b.natAbs = fq p q := by
  subst ha; subst hb
  have h1 : decide ((p : Int) < 0) = false := decide_eq_false (by omega)
  have h2 : decide ((q : Int) < 0) = false := decide_eq_false (by omega)
  rw [h1, h2, Int.natAbs_natCast, Int.natAbs_natCast]; rfl
theorem rowL_succ (j wh : Nat) : rowL (j + 1) wh = rowL j wh ++ [(((j + 1) % wh : Nat) : Int)] := by
  unfold rowL; rw [List.range_succ, List.map_append]; rfl
theorem rowL_length (n wh : Nat) : (rowL n wh).length = n := by simp [rowL]
theorem rowsOk_snoc {n : Nat} {rows : List Row} {r : Row} (h : RowsOk n rows) (hr : IntsAre r.vs (rowL n (rows.length + 2))) : RowsOk n (rows ++ [r]) := by
  intro j q hj
  by_cases hlt : j < rows.length
  · rw [List.getElem?_append_left hlt] at hj; exact h j q hj
  · rw [List.getElem?_append_right (by omega)] at hj
    have hj0 : j - rows.length = 0 := by
      have := (List.getElem?_eq_some_iff.mp hj).1
      simp only [List.length_singleton] at this
      omega
    rw [hj0] at hj
    cases hj
    have e : j = rows.length := by omega
    rw [e]; exact hr
theorem rowsLed_snoc (rows : List Row) (r : Row) : rowsLed (rows ++ [r]) = rowsLed rows ++ [(r.l, listOf r.vs.toArray r.k)] := by simp [rowsLed]
theorem dict_cls {prog : Program} {w : World} {o : Obj} {kvs : List (Int × Value)} (h : Obj.IsDictOf (intKind prog w) o kvs) : o.cls = .type "dict" := by
  obtain ⟨_, _, h1, _⟩ := h; exact h1.1
theorem rowsLed_cls {rows : List Row} : ∀ p ∈ rowsLed rows, p.2.cls = .type "list" := by
  intro p hp
  obtain ⟨r, _, rfl⟩ := List.mem_map.mp hp
  rfl
section
variable {prog : Program} {w : World} {A : Around} {E : Value → Shared → Prop} {s : Shared} {h₀ : Heap} {L : Addr} {m : Str → Option Value}
theorem append_mid {l : Addr} {vs : List Value} {k : Nat} {v : Value} {pre post : List (Addr × Obj)} {Q : Value → Shared → Prop} (F : Fr h₀ L s.heap m) (N : News h₀ L s.heap (pre ++ (l, listOf vs.toArray k) :: post)) (h1 : ∀ p ∈ pre, p.1 ≠ l) (h2 : ∀ p ∈ post, p.1 ≠ l) (hz : vs.length ≤ 1000)
    (h : ∀ h', Fr h₀ L h' m → News h₀ L h' (pre ++ (l, listOf (vs ++ [v]).toArray (k + 1)) :: post) → Q .none { s with heap := h' }) : wpAny (model prog w) A (call (.builtin "list.append") [.ref l, v]) Q E s := by
  refine append_K (hsz := by rw [List.size_toArray, sizeLine_eq]; omega) F N (upd_of h1 h2) fun h' F' N' => h h' F' ?_
  rw [List.push_toArray] at N'
  exact N'
end
end Mine
end
section
open PySem PySem.W PyProof.Rows PySem.Calls PySem.Spec
set_option maxRecDepth 100000
set_option maxHeartbeats 8000000
namespace Mine
theorem fill_C1hues : PySem.Challenge.rw_sc0035_01.foot = 8 ∧ hd.heap_39 = hd.heap_39 := by
  w_top off
  k_fill
  exact ⟨rfl, rfl⟩

theorem c_hues {w : World} {A : Around} {s : Shared} {Q E : Value → Shared → Prop} (C : Cx 2 w A s.heap)
    {n : Nat} {sa va : UInt64} {tn ts tv : Tok} (hn : 5 ≤ n ∧ n ≤ 7) (hts : ts ≠ 0) (htv : tv ≠ 0) (hAll : ∀ wh ca : Nat, 2 ≤ wh → wh ≤ n → 1 ≤ ca → ca ≤ n → PaintOk sa va wh ca (fq ca wh))
    (h : ∀ d o rows h' tk, Keeps s.heap h' → (∀ p ∈ (d, o) :: rowsLed rows, s.heap.get? p.1 = none ∧ h'.get? p.1 = some p.2) → (d == sysModules) = false → Obj.IsDictOf (intKind PR w) o (kvsOf rows) → rows.length = n - 1 → RowsOk n rows → Q (.ref d) { s with heap := h', toks := tk }) :
    wpAny (model PR w) A (call (.ref 70) [.int (n : Int) tn, .float sa ts, .float va tv]) Q E s := by
  obtain ⟨X, ⟨prg, loose, mean, mg, mb, T⟩, hh, hroom, hun⟩ := C
  obtain ⟨_, dp, fr, gd, un⟩ := A
  cases hh
  replace hroom : dp + 2 < recursionLimit := hroom
  replace hun : un + 60 < cLine := hun
  have hNB := noneBooked_of X
  refine own_call [(Str.ofString "size", .int (n : Int) tn), (Str.ofString "share", .float sa ts), (Str.ofString "level", .float va tv)] X T (by k_is) (by k_is) (by (show dp < _); omega) (BindsTo.of_eq rfl) (locs rfl) (fun L h₁ tk F N => ?_) (by decide) rfl rfl rfl
  k_fold
  (repeat' (first | (k_unfold; (try dsimp only)) | ((fail_if_success (with_reducible show wpAny _ _ (PySem.exec (PySem.Stmt.While _ _ _ _) _) _ _ _)); (fail_if_success (with_reducible show wpAny _ _ (PySem.exec (PySem.Stmt.For _ _ _ _ _) _) _ _ _)); (fail_if_success (with_reducible show wpAny _ _ (PySem.pyIter _) _ _ _)); (fail_if_success (with_reducible show wpAny _ _ (PySem.setItem _ _ _) _ _ _)); first | ((k_dflt ((with_reducible show wpAny _ _ (assign (Expr.Tuple _ _ _) _ (Value.ref _)) _ _ _); (rename News _ _ _ _ => N9q); (refine unpackN_ (by with_reducible assumption) N9q (News.isTup N9q (by exact List.Mem.head _)) (by rfl) (by rfl) (by rfl) ?_); intro _ _ _; clear N9q))) | ((with_reducible show wpAny _ _ (compareOp CmpOp.NotEq (Value.ref _) (Value.ref _)) _ _ _); (k_dflt ((rename News _ _ _ _ => N9q); (refine ne_tup2 (News.get N9q (by k_memK)) (News.get N9q (by k_memK)) (by with_reducible assumption) (by with_reducible assumption) (by with_reducible assumption) (by with_reducible assumption) (by with_reducible assumption) (by with_reducible assumption) (by exact noneBooked_keeps (by with_reducible assumption) (Fr.keep (by with_reducible assumption))) (by (simp only [Around.deeper, Around.in1]; omega)) ?_)))) | ((with_reducible show wpAny _ _ (PySem.call (Value.ref _) _) _ _ _); (k_dflt ((first | (refine c_hsv (by (exact ⟨Frag.In.keeps (by assumption) (Fr.keep (by assumption)), ⟨_, _, _, _, _, Top.keeps (by assumption) (Fr.keep (by assumption))⟩, rfl, by (simp only [Around.deeper, Around.in1]; omega), by (simp only [Around.deeper, Around.in1]; omega)⟩)) (by with_reducible assumption) (by with_reducible assumption) ?_) | (refine c_rgb (by (exact ⟨Frag.In.keeps (by assumption) (Fr.keep (by assumption)), ⟨_, _, _, _, _, Top.keeps (by assumption) (Fr.keep (by assumption))⟩, rfl, by (simp only [Around.deeper, Around.in1]; omega), by (simp only [Around.deeper, Around.in1]; omega)⟩)) (by with_reducible assumption) (by with_reducible assumption) (by with_reducible assumption) (by with_reducible assumption) ?_)); intro _ _ _ _ _ _ k9q n9q a9q; intros; (rename Fr _ _ _ _ => F9q); (rename News _ _ _ _ => N9q); (have N8q := News.addK F9q N9q k9q n9q a9q); (have F8q := Fr.keepsK F9q k9q); clear F9q N9q k9q n9q a9q))) | ((k_dflt ((with_reducible show wpAny _ _ (call (Value.type _) [Value.int _ _, Value.int _ _]) _ _ _); (refine rng2 (by assumption) (by assumption) ?_); intro _ _ _ _ _ _ _ _ _))) | walk1 | (dsimp only; walk1) | (leave1; try dsimp only))))
  have hrs1 : Builtin.Range.rangeSize 2 ((n : Int) + 1) 1 = ((n - 1 : Nat) : Int) := by have := rsz 2 n; rw [show n + 1 - 2 = n - 1 by omega] at this; exact this
  have hrs2 : Builtin.Range.rangeSize 1 ((n : Int) + 1) 1 = (n : Int) := by have := rsz 1 n; rw [show n + 1 - 1 = n by omega] at this; exact this
  refine For_invV s.heap rfl rfl ?_
  (repeat' (first | (k_unfold; (try dsimp only)) | ((fail_if_success (with_reducible show wpAny _ _ (PySem.exec (PySem.Stmt.While _ _ _ _) _) _ _ _)); (fail_if_success (with_reducible show wpAny _ _ (PySem.exec (PySem.Stmt.For _ _ _ _ _) _) _ _ _)); (fail_if_success (with_reducible show wpAny _ _ (PySem.pyIter _) _ _ _)); (fail_if_success (with_reducible show wpAny _ _ (PySem.setItem _ _ _) _ _ _)); first | ((k_dflt ((with_reducible show wpAny _ _ (assign (Expr.Tuple _ _ _) _ (Value.ref _)) _ _ _); (rename News _ _ _ _ => N9q); (refine unpackN_ (by with_reducible assumption) N9q (News.isTup N9q (by exact List.Mem.head _)) (by rfl) (by rfl) (by rfl) ?_); intro _ _ _; clear N9q))) | ((with_reducible show wpAny _ _ (compareOp CmpOp.NotEq (Value.ref _) (Value.ref _)) _ _ _); (k_dflt ((rename News _ _ _ _ => N9q); (refine ne_tup2 (News.get N9q (by k_memK)) (News.get N9q (by k_memK)) (by with_reducible assumption) (by with_reducible assumption) (by with_reducible assumption) (by with_reducible assumption) (by with_reducible assumption) (by with_reducible assumption) (by exact noneBooked_keeps (by with_reducible assumption) (Fr.keep (by with_reducible assumption))) (by (simp only [Around.deeper, Around.in1]; omega)) ?_)))) | ((with_reducible show wpAny _ _ (PySem.call (Value.ref _) _) _ _ _); (k_dflt ((first | (refine c_hsv (by (exact ⟨Frag.In.keeps (by assumption) (Fr.keep (by assumption)), ⟨_, _, _, _, _, Top.keeps (by assumption) (Fr.keep (by assumption))⟩, rfl, by (simp only [Around.deeper, Around.in1]; omega), by (simp only [Around.deeper, Around.in1]; omega)⟩)) (by with_reducible assumption) (by with_reducible assumption) ?_) | (refine c_rgb (by (exact ⟨Frag.In.keeps (by assumption) (Fr.keep (by assumption)), ⟨_, _, _, _, _, Top.keeps (by assumption) (Fr.keep (by assumption))⟩, rfl, by (simp only [Around.deeper, Around.in1]; omega), by (simp only [Around.deeper, Around.in1]; omega)⟩)) (by with_reducible assumption) (by with_reducible assumption) (by with_reducible assumption) (by with_reducible assumption) ?_)); intro _ _ _ _ _ _ k9q n9q a9q; intros; (rename Fr _ _ _ _ => F9q); (rename News _ _ _ _ => N9q); (have N8q := News.addK F9q N9q k9q n9q a9q); (have F8q := Fr.keepsK F9q k9q); clear F9q N9q k9q n9q a9q))) | ((k_dflt ((with_reducible show wpAny _ _ (call (Value.type _) [Value.int _ _, Value.int _ _]) _ _ _); (refine rng2 (by assumption) (by assumption) ?_); intro _ _ _ _ _ _ _ _ _))) | walk1 | (dsimp only; walk1) | (leave1; try dsimp only))))
  rename Fr _ _ _ _ => F1
  rename News _ _ _ _ => N1
  refine' for_range (σ := LD) (n - 1) (fun i => (i : Int) + 2) [] (fun c => (c.d, c.o) :: rowsLed c.rows) (fun c => [(Str.ofString "rows", .ref c.d), (Str.ofString "size", .int (n : Int) tn), (Str.ofString "share", .float sa ts), (Str.ofString "level", .float va tv)])
    (fun i c => (∀ p ∈ rowsLed c.rows, p.1 ≠ c.d) ∧ (c.d == sysModules) = false ∧ Obj.IsDictOf (intKind PR w) c.o (kvsOf c.rows) ∧ c.rows.length = i ∧ RowsOk n c.rows) ⟨_, _, []⟩ ?hh ?hr ?hs ?hn ?hg F1 N1 ?hnews ?hp0 ?hj ?turn1 ?done1
  case hh => rfl
  case hr => assumption
  case hs => exact small_mine (by omega) (by omega) (by omega)
  case hn => assumption
  case hg => intro i; omega
  case hp0 => ((repeat' (first | exact List.forall_mem_nil _ | (refine List.forall_mem_cons.mpr ⟨by with_unfolding_all rfl, ?_⟩))))
  case hnews => ((repeat' (first | exact List.forall_mem_nil _ | (refine List.forall_mem_cons.mpr ⟨by k_memK, ?_⟩))))
  case hj => exact ⟨(fun p hp => nomatch hp), by assumption, by assumption, rfl, (fun j r hr => nomatch hr)⟩
  case done1 =>
    rintro ⟨d, o, rows⟩ u h9 tk ⟨hrowsd, hc1, hc2, hc3, hc4⟩ F3 N3
    dsimp only at hc1 hc2 hc3 hc4 F3 N3 ⊢
    (repeat' (first | (k_unfold; (try dsimp only)) | ((fail_if_success (with_reducible show wpAny _ _ (PySem.exec (PySem.Stmt.While _ _ _ _) _) _ _ _)); (fail_if_success (with_reducible show wpAny _ _ (PySem.exec (PySem.Stmt.For _ _ _ _ _) _) _ _ _)); (fail_if_success (with_reducible show wpAny _ _ (PySem.pyIter _) _ _ _)); (fail_if_success (with_reducible show wpAny _ _ (PySem.setItem _ _ _) _ _ _)); first | ((k_dflt ((with_reducible show wpAny _ _ (assign (Expr.Tuple _ _ _) _ (Value.ref _)) _ _ _); (rename News _ _ _ _ => N9q); (refine unpackN_ (by with_reducible assumption) N9q (News.isTup N9q (by exact List.Mem.head _)) (by rfl) (by rfl) (by rfl) ?_); intro _ _ _; clear N9q))) | ((with_reducible show wpAny _ _ (compareOp CmpOp.NotEq (Value.ref _) (Value.ref _)) _ _ _); (k_dflt ((rename News _ _ _ _ => N9q); (refine ne_tup2 (News.get N9q (by k_memK)) (News.get N9q (by k_memK)) (by with_reducible assumption) (by with_reducible assumption) (by with_reducible assumption) (by with_reducible assumption) (by with_reducible assumption) (by with_reducible assumption) (by exact noneBooked_keeps (by with_reducible assumption) (Fr.keep (by with_reducible assumption))) (by (simp only [Around.deeper, Around.in1]; omega)) ?_)))) | ((with_reducible show wpAny _ _ (PySem.call (Value.ref _) _) _ _ _); (k_dflt ((first | (refine c_hsv (by (exact ⟨Frag.In.keeps (by assumption) (Fr.keep (by assumption)), ⟨_, _, _, _, _, Top.keeps (by assumption) (Fr.keep (by assumption))⟩, rfl, by (simp only [Around.deeper, Around.in1]; omega), by (simp only [Around.deeper, Around.in1]; omega)⟩)) (by with_reducible assumption) (by with_reducible assumption) ?_) | (refine c_rgb (by (exact ⟨Frag.In.keeps (by assumption) (Fr.keep (by assumption)), ⟨_, _, _, _, _, Top.keeps (by assumption) (Fr.keep (by assumption))⟩, rfl, by (simp only [Around.deeper, Around.in1]; omega), by (simp only [Around.deeper, Around.in1]; omega)⟩)) (by with_reducible assumption) (by with_reducible assumption) (by with_reducible assumption) (by with_reducible assumption) ?_)); intro _ _ _ _ _ _ k9q n9q a9q; intros; (rename Fr _ _ _ _ => F9q); (rename News _ _ _ _ => N9q); (have N8q := News.addK F9q N9q k9q n9q a9q); (have F8q := Fr.keepsK F9q k9q); clear F9q N9q k9q n9q a9q))) | ((k_dflt ((with_reducible show wpAny _ _ (call (Value.type _) [Value.int _ _, Value.int _ _]) _ _ _); (refine rng2 (by assumption) (by assumption) ?_); intro _ _ _ _ _ _ _ _ _))) | walk1 | (dsimp only; walk1) | (leave1; try dsimp only))))
    exact h d o rows _ _ (Fr.keep F3) (fun p hp => ⟨(N3 p hp).2.2, (N3 p hp).1⟩) hc1 hc2 hc3 hc4
  case turn1 =>
  clear F1 N1
  rintro i tw ⟨d, o, rows⟩ u h9 tk I io hi ⟨hrowsd, hc1, hc2, hc3, hc4⟩ hio F3 N3 hlI _
  dsimp only at hc1 hc2 hc3 hc4 F3 N3 hlI ⊢
  simp only [List.nil_append] at N3
  (repeat' (first | (k_unfold; (try dsimp only)) | ((fail_if_success (with_reducible show wpAny _ _ (PySem.exec (PySem.Stmt.While _ _ _ _) _) _ _ _)); (fail_if_success (with_reducible show wpAny _ _ (PySem.exec (PySem.Stmt.For _ _ _ _ _) _) _ _ _)); (fail_if_success (with_reducible show wpAny _ _ (PySem.pyIter _) _ _ _)); (fail_if_success (with_reducible show wpAny _ _ (PySem.setItem _ _ _) _ _ _)); first | ((k_dflt ((with_reducible show wpAny _ _ (assign (Expr.Tuple _ _ _) _ (Value.ref _)) _ _ _); (rename News _ _ _ _ => N9q); (refine unpackN_ (by with_reducible assumption) N9q (News.isTup N9q (by exact List.Mem.head _)) (by rfl) (by rfl) (by rfl) ?_); intro _ _ _; clear N9q))) | ((with_reducible show wpAny _ _ (compareOp CmpOp.NotEq (Value.ref _) (Value.ref _)) _ _ _); (k_dflt ((rename News _ _ _ _ => N9q); (refine ne_tup2 (News.get N9q (by k_memK)) (News.get N9q (by k_memK)) (by with_reducible assumption) (by with_reducible assumption) (by with_reducible assumption) (by with_reducible assumption) (by with_reducible assumption) (by with_reducible assumption) (by exact noneBooked_keeps (by with_reducible assumption) (Fr.keep (by with_reducible assumption))) (by (simp only [Around.deeper, Around.in1]; omega)) ?_)))) | ((with_reducible show wpAny _ _ (PySem.call (Value.ref _) _) _ _ _); (k_dflt ((first | (refine c_hsv (by (exact ⟨Frag.In.keeps (by assumption) (Fr.keep (by assumption)), ⟨_, _, _, _, _, Top.keeps (by assumption) (Fr.keep (by assumption))⟩, rfl, by (simp only [Around.deeper, Around.in1]; omega), by (simp only [Around.deeper, Around.in1]; omega)⟩)) (by with_reducible assumption) (by with_reducible assumption) ?_) | (refine c_rgb (by (exact ⟨Frag.In.keeps (by assumption) (Fr.keep (by assumption)), ⟨_, _, _, _, _, Top.keeps (by assumption) (Fr.keep (by assumption))⟩, rfl, by (simp only [Around.deeper, Around.in1]; omega), by (simp only [Around.deeper, Around.in1]; omega)⟩)) (by with_reducible assumption) (by with_reducible assumption) (by with_reducible assumption) (by with_reducible assumption) ?_)); intro _ _ _ _ _ _ k9q n9q a9q; intros; (rename Fr _ _ _ _ => F9q); (rename News _ _ _ _ => N9q); (have N8q := News.addK F9q N9q k9q n9q a9q); (have F8q := Fr.keepsK F9q k9q); clear F9q N9q k9q n9q a9q))) | ((k_dflt ((with_reducible show wpAny _ _ (call (Value.type _) [Value.int _ _, Value.int _ _]) _ _ _); (refine rng2 (by assumption) (by assumption) ?_); intro _ _ _ _ _ _ _ _ _))) | walk1 | (dsimp only; walk1) | (leave1; try dsimp only))))
  refine For_invV s.heap rfl rfl ?_
  (repeat' (first | (k_unfold; (try dsimp only)) | ((fail_if_success (with_reducible show wpAny _ _ (PySem.exec (PySem.Stmt.While _ _ _ _) _) _ _ _)); (fail_if_success (with_reducible show wpAny _ _ (PySem.exec (PySem.Stmt.For _ _ _ _ _) _) _ _ _)); (fail_if_success (with_reducible show wpAny _ _ (PySem.pyIter _) _ _ _)); (fail_if_success (with_reducible show wpAny _ _ (PySem.setItem _ _ _) _ _ _)); first | ((k_dflt ((with_reducible show wpAny _ _ (assign (Expr.Tuple _ _ _) _ (Value.ref _)) _ _ _); (rename News _ _ _ _ => N9q); (refine unpackN_ (by with_reducible assumption) N9q (News.isTup N9q (by exact List.Mem.head _)) (by rfl) (by rfl) (by rfl) ?_); intro _ _ _; clear N9q))) | ((with_reducible show wpAny _ _ (compareOp CmpOp.NotEq (Value.ref _) (Value.ref _)) _ _ _); (k_dflt ((rename News _ _ _ _ => N9q); (refine ne_tup2 (News.get N9q (by k_memK)) (News.get N9q (by k_memK)) (by with_reducible assumption) (by with_reducible assumption) (by with_reducible assumption) (by with_reducible assumption) (by with_reducible assumption) (by with_reducible assumption) (by exact noneBooked_keeps (by with_reducible assumption) (Fr.keep (by with_reducible assumption))) (by (simp only [Around.deeper, Around.in1]; omega)) ?_)))) | ((with_reducible show wpAny _ _ (PySem.call (Value.ref _) _) _ _ _); (k_dflt ((first | (refine c_hsv (by (exact ⟨Frag.In.keeps (by assumption) (Fr.keep (by assumption)), ⟨_, _, _, _, _, Top.keeps (by assumption) (Fr.keep (by assumption))⟩, rfl, by (simp only [Around.deeper, Around.in1]; omega), by (simp only [Around.deeper, Around.in1]; omega)⟩)) (by with_reducible assumption) (by with_reducible assumption) ?_) | (refine c_rgb (by (exact ⟨Frag.In.keeps (by assumption) (Fr.keep (by assumption)), ⟨_, _, _, _, _, Top.keeps (by assumption) (Fr.keep (by assumption))⟩, rfl, by (simp only [Around.deeper, Around.in1]; omega), by (simp only [Around.deeper, Around.in1]; omega)⟩)) (by with_reducible assumption) (by with_reducible assumption) (by with_reducible assumption) (by with_reducible assumption) ?_)); intro _ _ _ _ _ _ k9q n9q a9q; intros; (rename Fr _ _ _ _ => F9q); (rename News _ _ _ _ => N9q); (have N8q := News.addK F9q N9q k9q n9q a9q); (have F8q := Fr.keepsK F9q k9q); clear F9q N9q k9q n9q a9q))) | ((k_dflt ((with_reducible show wpAny _ _ (call (Value.type _) [Value.int _ _, Value.int _ _]) _ _ _); (refine rng2 (by assumption) (by assumption) ?_); intro _ _ _ _ _ _ _ _ _))) | walk1 | (dsimp only; walk1) | (leave1; try dsimp only))))
  rename Fr _ _ _ _ => F1
  rename News _ _ _ _ => N1
  rename (_ ∧ _ ∧ AllLt _ (rowsLed rows)) => l0
  refine' for_range (σ := LR) n (fun j => (j : Int) + 1) [(I, io), (d, o)] (fun c => (c.l, listOf c.vs.toArray c.k) :: rowsLed rows) (fun c => [(Str.ofString "row", .ref c.l), (Str.ofString "wheel", .int ((i : Int) + 2) tw), (Str.ofString "rows", .ref d), (Str.ofString "size", .int (n : Int) tn), (Str.ofString "share", .float sa ts), (Str.ofString "level", .float va tv)])
    (fun j c => (∀ p ∈ (I, io) :: (d, o) :: rowsLed rows, p.1 < c.l) ∧ IntsAre c.vs (rowL j (i + 2))) ⟨_, [], 0⟩ ?hh ?hr ?hs ?hn ?hg F1 N1 ?hnews ?hp0 ?hj ?turn2 ?done2
  case hh => rfl
  case hr => assumption
  case hs => exact small_mine (by omega) (by omega) (by omega)
  case hn => assumption
  case hg => intro i; omega
  case hp0 => ((repeat' (first | exact List.forall_mem_nil _ | (refine List.forall_mem_cons.mpr ⟨by with_unfolding_all rfl, ?_⟩))))
  case hnews =>
    intro p hp
    simp only [List.cons_append, List.nil_append, List.mem_cons] at hp ⊢
    rcases hp with q | q | q | q
    · exact .inr (.inl q)
    · exact .inr (.inr (.inl q))
    · exact .inl q
    · exact .inr (.inr (.inr q))
  case hj => exact ⟨kst_ltOf (l := (I, io) :: (d, o) :: rowsLed rows) l0, IntsAre.nil⟩
  case done2 =>
    rintro ⟨l, vs, k⟩ u h9 tk ⟨hd1, hd2⟩ F3 N3
    dsimp only at hd1 hd2 F3 N3 ⊢
    simp only [List.cons_append, List.nil_append] at N3
    have hIl : @LT.lt Nat _ I l := hd1 _ (.head _)
    have hdl : @LT.lt Nat _ d l := hd1 _ (.tail _ (.head _))
    have hdI : @Ne Nat d I := hlI _ (.head _)
    (repeat' (first | (k_unfold; (try dsimp only)) | ((fail_if_success (with_reducible show wpAny _ _ (subscriptTail _ _ (Value.ref _) (Value.int _ _)) _ _ _)); (fail_if_success (with_reducible show wpAny _ _ (PySem.setItem _ _ _) _ _ _)); first | ((k_dflt ((with_reducible show wpAny _ _ (assign (Expr.Tuple _ _ _) _ (Value.ref _)) _ _ _); (rename News _ _ _ _ => N9q); (refine unpackN_ (by with_reducible assumption) N9q (News.isTup N9q (by exact List.Mem.head _)) (by rfl) (by rfl) (by rfl) ?_); intro _ _ _; clear N9q))) | ((with_reducible show wpAny _ _ (compareOp CmpOp.NotEq (Value.ref _) (Value.ref _)) _ _ _); (k_dflt ((rename News _ _ _ _ => N9q); (refine ne_tup2 (News.get N9q (by k_memK)) (News.get N9q (by k_memK)) (by with_reducible assumption) (by with_reducible assumption) (by with_reducible assumption) (by with_reducible assumption) (by with_reducible assumption) (by with_reducible assumption) (by exact noneBooked_keeps (by with_reducible assumption) (Fr.keep (by with_reducible assumption))) (by (simp only [Around.deeper, Around.in1]; omega)) ?_)))) | ((with_reducible show wpAny _ _ (PySem.call (Value.ref _) _) _ _ _); (k_dflt ((first | (refine c_hsv (by (exact ⟨Frag.In.keeps (by assumption) (Fr.keep (by assumption)), ⟨_, _, _, _, _, Top.keeps (by assumption) (Fr.keep (by assumption))⟩, rfl, by (simp only [Around.deeper, Around.in1]; omega), by (simp only [Around.deeper, Around.in1]; omega)⟩)) (by with_reducible assumption) (by with_reducible assumption) ?_) | (refine c_rgb (by (exact ⟨Frag.In.keeps (by assumption) (Fr.keep (by assumption)), ⟨_, _, _, _, _, Top.keeps (by assumption) (Fr.keep (by assumption))⟩, rfl, by (simp only [Around.deeper, Around.in1]; omega), by (simp only [Around.deeper, Around.in1]; omega)⟩)) (by with_reducible assumption) (by with_reducible assumption) (by with_reducible assumption) (by with_reducible assumption) ?_)); intro _ _ _ _ _ _ k9q n9q a9q; intros; (rename Fr _ _ _ _ => F9q); (rename News _ _ _ _ => N9q); (have N8q := News.addK F9q N9q k9q n9q a9q); (have F8q := Fr.keepsK F9q k9q); clear F9q N9q k9q n9q a9q))) | ((k_dflt ((with_reducible show wpAny _ _ (call (Value.type _) [Value.int _ _, Value.int _ _]) _ _ _); (refine rng2 (by assumption) (by assumption) ?_); intro _ _ _ _ _ _ _ _ _))) | walk1 | (dsimp only; walk1) | (leave1; try dsimp only))))
    have hz0 : (rowL n (i + 2)).getD (i + 1) 0 = 0 := by rw [rowL_at (by omega), show i + 1 + 1 = i + 2 from rfl, Nat.mod_self]; rfl
    refine at_list (ns := rowL n (i + 2)) (p := i + 1) (isList_news N3 (by k_memK)) hd2 (by omega) (by rw [rowL_length]; omega) (by rw [rowL_length]; omega) ?_
    intro t9
    rw [hz0]
    (repeat' (first | (k_unfold; (try dsimp only)) | ((fail_if_success (with_reducible show wpAny _ _ (subscriptTail _ _ (Value.ref _) (Value.int _ _)) _ _ _)); (fail_if_success (with_reducible show wpAny _ _ (PySem.setItem _ _ _) _ _ _)); first | ((k_dflt ((with_reducible show wpAny _ _ (assign (Expr.Tuple _ _ _) _ (Value.ref _)) _ _ _); (rename News _ _ _ _ => N9q); (refine unpackN_ (by with_reducible assumption) N9q (News.isTup N9q (by exact List.Mem.head _)) (by rfl) (by rfl) (by rfl) ?_); intro _ _ _; clear N9q))) | ((with_reducible show wpAny _ _ (compareOp CmpOp.NotEq (Value.ref _) (Value.ref _)) _ _ _); (k_dflt ((rename News _ _ _ _ => N9q); (refine ne_tup2 (News.get N9q (by k_memK)) (News.get N9q (by k_memK)) (by with_reducible assumption) (by with_reducible assumption) (by with_reducible assumption) (by with_reducible assumption) (by with_reducible assumption) (by with_reducible assumption) (by exact noneBooked_keeps (by with_reducible assumption) (Fr.keep (by with_reducible assumption))) (by (simp only [Around.deeper, Around.in1]; omega)) ?_)))) | ((with_reducible show wpAny _ _ (PySem.call (Value.ref _) _) _ _ _); (k_dflt ((first | (refine c_hsv (by (exact ⟨Frag.In.keeps (by assumption) (Fr.keep (by assumption)), ⟨_, _, _, _, _, Top.keeps (by assumption) (Fr.keep (by assumption))⟩, rfl, by (simp only [Around.deeper, Around.in1]; omega), by (simp only [Around.deeper, Around.in1]; omega)⟩)) (by with_reducible assumption) (by with_reducible assumption) ?_) | (refine c_rgb (by (exact ⟨Frag.In.keeps (by assumption) (Fr.keep (by assumption)), ⟨_, _, _, _, _, Top.keeps (by assumption) (Fr.keep (by assumption))⟩, rfl, by (simp only [Around.deeper, Around.in1]; omega), by (simp only [Around.deeper, Around.in1]; omega)⟩)) (by with_reducible assumption) (by with_reducible assumption) (by with_reducible assumption) (by with_reducible assumption) ?_)); intro _ _ _ _ _ _ k9q n9q a9q; intros; (rename Fr _ _ _ _ => F9q); (rename News _ _ _ _ => N9q); (have N8q := News.addK F9q N9q k9q n9q a9q); (have F8q := Fr.keepsK F9q k9q); clear F9q N9q k9q n9q a9q))) | ((k_dflt ((with_reducible show wpAny _ _ (call (Value.type _) [Value.int _ _, Value.int _ _]) _ _ _); (refine rng2 (by assumption) (by assumption) ?_); intro _ _ _ _ _ _ _ _ _))) | walk1 | (dsimp only; walk1) | (leave1; try dsimp only))))
    rename Fr _ _ _ _ => F9
    have N9 : News s.heap L _ ([(I, io)] ++ (d, o) :: (l, listOf vs.toArray k) :: rowsLed rows) := N3
    refine kda_set F9 N9 (updF_of (pre := [(I, io)]) (post := (l, listOf vs.toArray k) :: rowsLed rows) ?_ ?_) hc2 (intKind_is _ _ _ _) ?_ ?_
    · exact List.forall_mem_cons.mpr ⟨fun (e : @Eq Nat I d) => hdI e.symm, List.forall_mem_nil _⟩
    · intro p hp
      rcases List.mem_cons.mp hp with rfl | hp
      · exact fun (e : @Eq Nat l d) => by omega
      · exact hrowsd p hp
    · rw [sizeLine_eq]; simp only [kvsOf, List.length_map, List.length_range]; omega
    intro h8 o8 F8 N8 hd8
    have hkv := kvs_stored rows ⟨l, vs, k⟩
    rw [hc3] at hkv
    rw [hkv] at hd8
    (repeat' (first | (k_unfold; (try dsimp only)) | ((fail_if_success (with_reducible show wpAny _ _ (PySem.exec (PySem.Stmt.While _ _ _ _) _) _ _ _)); (fail_if_success (with_reducible show wpAny _ _ (PySem.exec (PySem.Stmt.For _ _ _ _ _) _) _ _ _)); (fail_if_success (with_reducible show wpAny _ _ (PySem.pyIter _) _ _ _)); (fail_if_success (with_reducible show wpAny _ _ (PySem.setItem _ _ _) _ _ _)); first | ((k_dflt ((with_reducible show wpAny _ _ (assign (Expr.Tuple _ _ _) _ (Value.ref _)) _ _ _); (rename News _ _ _ _ => N9q); (refine unpackN_ (by with_reducible assumption) N9q (News.isTup N9q (by exact List.Mem.head _)) (by rfl) (by rfl) (by rfl) ?_); intro _ _ _; clear N9q))) | ((with_reducible show wpAny _ _ (compareOp CmpOp.NotEq (Value.ref _) (Value.ref _)) _ _ _); (k_dflt ((rename News _ _ _ _ => N9q); (refine ne_tup2 (News.get N9q (by k_memK)) (News.get N9q (by k_memK)) (by with_reducible assumption) (by with_reducible assumption) (by with_reducible assumption) (by with_reducible assumption) (by with_reducible assumption) (by with_reducible assumption) (by exact noneBooked_keeps (by with_reducible assumption) (Fr.keep (by with_reducible assumption))) (by (simp only [Around.deeper, Around.in1]; omega)) ?_)))) | ((with_reducible show wpAny _ _ (PySem.call (Value.ref _) _) _ _ _); (k_dflt ((first | (refine c_hsv (by (exact ⟨Frag.In.keeps (by assumption) (Fr.keep (by assumption)), ⟨_, _, _, _, _, Top.keeps (by assumption) (Fr.keep (by assumption))⟩, rfl, by (simp only [Around.deeper, Around.in1]; omega), by (simp only [Around.deeper, Around.in1]; omega)⟩)) (by with_reducible assumption) (by with_reducible assumption) ?_) | (refine c_rgb (by (exact ⟨Frag.In.keeps (by assumption) (Fr.keep (by assumption)), ⟨_, _, _, _, _, Top.keeps (by assumption) (Fr.keep (by assumption))⟩, rfl, by (simp only [Around.deeper, Around.in1]; omega), by (simp only [Around.deeper, Around.in1]; omega)⟩)) (by with_reducible assumption) (by with_reducible assumption) (by with_reducible assumption) (by with_reducible assumption) ?_)); intro _ _ _ _ _ _ k9q n9q a9q; intros; (rename Fr _ _ _ _ => F9q); (rename News _ _ _ _ => N9q); (have N8q := News.addK F9q N9q k9q n9q a9q); (have F8q := Fr.keepsK F9q k9q); clear F9q N9q k9q n9q a9q))) | ((k_dflt ((with_reducible show wpAny _ _ (call (Value.type _) [Value.int _ _, Value.int _ _]) _ _ _); (refine rng2 (by assumption) (by assumption) ?_); intro _ _ _ _ _ _ _ _ _))) | walk1 | (dsimp only; walk1) | (leave1; try dsimp only))))
    refine' TurnP.next ⟨d, o8, rows ++ [⟨l, vs, k⟩]⟩ ?Fa ?Na ?na ?ca ?hpa ?Pa
    case Fa => assumption
    case Na => exact N8
    case na =>
      intro p hp
      simp only [rowsLed_snoc, List.cons_append, List.nil_append, List.mem_cons, List.mem_append, List.not_mem_nil, or_false] at hp ⊢
      rcases hp with q | q | q | q
      · exact .inl q
      · exact .inr (.inl q)
      · exact .inr (.inr (.inr q))
      · exact .inr (.inr (.inl q))
    case ca =>
      rw [hio]
      refine List.forall_mem_cons.mpr ⟨?_, fun p hp => ?_⟩
      · dsimp only; rw [dict_cls hd8]; decide
      · rw [rowsLed_cls p hp]; decide
    case hpa => ((repeat' (first | exact List.forall_mem_nil _ | (refine List.forall_mem_cons.mpr ⟨by with_unfolding_all rfl, ?_⟩))))
    case Pa => exact ⟨(by
      intro p hp
      rw [rowsLed_snoc] at hp
      rcases List.mem_append.mp hp with q | q
      · exact hrowsd p q
      · rw [List.mem_singleton.mp q]
        exact fun (e : @Eq Nat l d) => by omega), hc1, hd8, by rw [List.length_append, hc3]; rfl, rowsOk_snoc hc4 (by rw [hc3]; exact hd2)⟩
  case turn2 =>
  clear F1 N1 l0
  rintro j tj ⟨l, vs, k⟩ u h9 tk I2 io2 hj ⟨hd1, hd2⟩ hio2 F3 N3 hlI3 hlI4
  dsimp only at hd1 hd2 F3 N3 hlI3 ⊢
  simp only [List.cons_append, List.nil_append] at N3
  have hx := hAll (i + 2) (j + 1) (by omega) (by omega) (by omega) (by omega)
  obtain ⟨R, G, B, H, S, V, hF1, hF2, hS, hV, hf1, hf2, hf3⟩ := hx
  have e2 : ((i + 2 : Nat) : Int) = (i : Int) + 2 := by omega
  simp only [hueI, e2] at hf1 hf2 hf3
  have hfq := fq_of (a := (j : Int) + 1) (b := (i : Int) + 2) (p := j + 1) (q := i + 2) (by omega) (by omega)
  (repeat' (first | (k_unfold; (try dsimp only)) | ((fail_if_success (with_reducible show wpAny _ _ (PySem.call (Value.ref _) _) _ _ _)); first | ((k_dflt ((with_reducible show wpAny _ _ (assign (Expr.Tuple _ _ _) _ (Value.ref _)) _ _ _); (rename News _ _ _ _ => N9q); (refine unpackN_ (by with_reducible assumption) N9q (News.isTup N9q (by exact List.Mem.head _)) (by rfl) (by rfl) (by rfl) ?_); intro _ _ _; clear N9q))) | ((with_reducible show wpAny _ _ (compareOp CmpOp.NotEq (Value.ref _) (Value.ref _)) _ _ _); (k_dflt ((rename News _ _ _ _ => N9q); (refine ne_tup2 (News.get N9q (by k_memK)) (News.get N9q (by k_memK)) (by with_reducible assumption) (by with_reducible assumption) (by with_reducible assumption) (by with_reducible assumption) (by with_reducible assumption) (by with_reducible assumption) (by exact noneBooked_keeps (by with_reducible assumption) (Fr.keep (by with_reducible assumption))) (by (simp only [Around.deeper, Around.in1]; omega)) ?_)))) | ((with_reducible show wpAny _ _ (PySem.call (Value.ref _) _) _ _ _); (k_dflt ((first | (refine c_hsv (by (exact ⟨Frag.In.keeps (by assumption) (Fr.keep (by assumption)), ⟨_, _, _, _, _, Top.keeps (by assumption) (Fr.keep (by assumption))⟩, rfl, by (simp only [Around.deeper, Around.in1]; omega), by (simp only [Around.deeper, Around.in1]; omega)⟩)) (by with_reducible assumption) (by with_reducible assumption) ?_) | (refine c_rgb (by (exact ⟨Frag.In.keeps (by assumption) (Fr.keep (by assumption)), ⟨_, _, _, _, _, Top.keeps (by assumption) (Fr.keep (by assumption))⟩, rfl, by (simp only [Around.deeper, Around.in1]; omega), by (simp only [Around.deeper, Around.in1]; omega)⟩)) (by with_reducible assumption) (by with_reducible assumption) (by with_reducible assumption) (by with_reducible assumption) ?_)); intro _ _ _ _ _ _ k9q n9q a9q; intros; (rename Fr _ _ _ _ => F9q); (rename News _ _ _ _ => N9q); (have N8q := News.addK F9q N9q k9q n9q a9q); (have F8q := Fr.keepsK F9q k9q); clear F9q N9q k9q n9q a9q))) | ((k_dflt ((with_reducible show wpAny _ _ (call (Value.type _) [Value.int _ _, Value.int _ _]) _ _ _); (refine rng2 (by assumption) (by assumption) ?_); intro _ _ _ _ _ _ _ _ _))) | walk1 | (dsimp only; walk1) | (leave1; try dsimp only))))
  rw [hfq]
  (repeat' (first | (k_unfold; (try dsimp only)) | ((fail_if_success (with_reducible show wpAny _ _ (PySem.call (Value.builtin "list.append") _) _ _ _)); first | ((k_dflt ((with_reducible show wpAny _ _ (assign (Expr.Tuple _ _ _) _ (Value.ref _)) _ _ _); (rename News _ _ _ _ => N9q); (refine unpackN_ (by with_reducible assumption) N9q (News.isTup N9q (by exact List.Mem.head _)) (by rfl) (by rfl) (by rfl) ?_); intro _ _ _; clear N9q))) | ((with_reducible show wpAny _ _ (compareOp CmpOp.NotEq (Value.ref _) (Value.ref _)) _ _ _); (k_dflt ((rename News _ _ _ _ => N9q); (refine ne_tup2 (News.get N9q (by k_memK)) (News.get N9q (by k_memK)) (by with_reducible assumption) (by with_reducible assumption) (by with_reducible assumption) (by with_reducible assumption) (by with_reducible assumption) (by with_reducible assumption) (by exact noneBooked_keeps (by with_reducible assumption) (Fr.keep (by with_reducible assumption))) (by (simp only [Around.deeper, Around.in1]; omega)) ?_)))) | ((with_reducible show wpAny _ _ (PySem.call (Value.ref _) _) _ _ _); (k_dflt ((first | (refine c_hsv (by (exact ⟨Frag.In.keeps (by assumption) (Fr.keep (by assumption)), ⟨_, _, _, _, _, Top.keeps (by assumption) (Fr.keep (by assumption))⟩, rfl, by (simp only [Around.deeper, Around.in1]; omega), by (simp only [Around.deeper, Around.in1]; omega)⟩)) (by with_reducible assumption) (by with_reducible assumption) ?_) | (refine c_rgb (by (exact ⟨Frag.In.keeps (by assumption) (Fr.keep (by assumption)), ⟨_, _, _, _, _, Top.keeps (by assumption) (Fr.keep (by assumption))⟩, rfl, by (simp only [Around.deeper, Around.in1]; omega), by (simp only [Around.deeper, Around.in1]; omega)⟩)) (by with_reducible assumption) (by with_reducible assumption) (by with_reducible assumption) (by with_reducible assumption) ?_)); intro _ _ _ _ _ _ k9q n9q a9q; intros; (rename Fr _ _ _ _ => F9q); (rename News _ _ _ _ => N9q); (have N8q := News.addK F9q N9q k9q n9q a9q); (have F8q := Fr.keepsK F9q k9q); clear F9q N9q k9q n9q a9q))) | ((k_dflt ((with_reducible show wpAny _ _ (call (Value.type _) [Value.int _ _, Value.int _ _]) _ _ _); (refine rng2 (by assumption) (by assumption) ?_); intro _ _ _ _ _ _ _ _ _))) | walk1 | (dsimp only; walk1) | (leave1; try dsimp only))))
  rw [hf3]
  rename Fr _ _ _ _ => F9
  rename News _ _ _ _ => N9
  have N10 : News s.heap L _ ([(I2, io2), (I, io), (d, o)] ++ (l, listOf vs.toArray k) :: rowsLed rows) := fun p hp => N9 p (.tail _ (.tail _ (.tail _ (.tail _ hp))))
  have hIl : @LT.lt Nat _ I l := hd1 _ (.head _)
  have hdl : @LT.lt Nat _ d l := hd1 _ (.tail _ (.head _))
  have hlI2 : @Ne Nat l I2 := hlI3 _ (.head _)
  refine append_mid F9 N10 ?_ ?_ ?_ ?_
  · refine List.forall_mem_cons.mpr ⟨?_, List.forall_mem_cons.mpr ⟨?_, List.forall_mem_cons.mpr ⟨?_, List.forall_mem_nil _⟩⟩⟩
    · exact fun (e : @Eq Nat I2 l) => hlI2 e.symm
    · exact Nat.ne_of_lt hIl
    · exact Nat.ne_of_lt hdl
  · exact fun p hp => Nat.ne_of_lt (hd1 p (.tail _ (.tail _ hp)))
  · rw [hd2.length, rowL_length]; omega
  intro h8 F8 N8
  obtain ⟨vs2, hvs2, N8b⟩ : ∃ vs2, IntsAre vs2 (rowL (j + 1) (i + 2)) ∧ News s.heap L h8 ([(I2, io2), (I, io), (d, o)] ++ (l, listOf vs2.toArray (k + 1)) :: rowsLed rows) := ⟨_, (by rw [rowL_succ]; exact IntsAre.append hd2 (.cons _ _ .nil)), N8⟩
  (repeat' (first | (k_unfold; (try dsimp only)) | ((fail_if_success (with_reducible show wpAny _ _ (PySem.exec (PySem.Stmt.While _ _ _ _) _) _ _ _)); (fail_if_success (with_reducible show wpAny _ _ (PySem.exec (PySem.Stmt.For _ _ _ _ _) _) _ _ _)); (fail_if_success (with_reducible show wpAny _ _ (PySem.pyIter _) _ _ _)); (fail_if_success (with_reducible show wpAny _ _ (PySem.setItem _ _ _) _ _ _)); first | ((k_dflt ((with_reducible show wpAny _ _ (assign (Expr.Tuple _ _ _) _ (Value.ref _)) _ _ _); (rename News _ _ _ _ => N9q); (refine unpackN_ (by with_reducible assumption) N9q (News.isTup N9q (by exact List.Mem.head _)) (by rfl) (by rfl) (by rfl) ?_); intro _ _ _; clear N9q))) | ((with_reducible show wpAny _ _ (compareOp CmpOp.NotEq (Value.ref _) (Value.ref _)) _ _ _); (k_dflt ((rename News _ _ _ _ => N9q); (refine ne_tup2 (News.get N9q (by k_memK)) (News.get N9q (by k_memK)) (by with_reducible assumption) (by with_reducible assumption) (by with_reducible assumption) (by with_reducible assumption) (by with_reducible assumption) (by with_reducible assumption) (by exact noneBooked_keeps (by with_reducible assumption) (Fr.keep (by with_reducible assumption))) (by (simp only [Around.deeper, Around.in1]; omega)) ?_)))) | ((with_reducible show wpAny _ _ (PySem.call (Value.ref _) _) _ _ _); (k_dflt ((first | (refine c_hsv (by (exact ⟨Frag.In.keeps (by assumption) (Fr.keep (by assumption)), ⟨_, _, _, _, _, Top.keeps (by assumption) (Fr.keep (by assumption))⟩, rfl, by (simp only [Around.deeper, Around.in1]; omega), by (simp only [Around.deeper, Around.in1]; omega)⟩)) (by with_reducible assumption) (by with_reducible assumption) ?_) | (refine c_rgb (by (exact ⟨Frag.In.keeps (by assumption) (Fr.keep (by assumption)), ⟨_, _, _, _, _, Top.keeps (by assumption) (Fr.keep (by assumption))⟩, rfl, by (simp only [Around.deeper, Around.in1]; omega), by (simp only [Around.deeper, Around.in1]; omega)⟩)) (by with_reducible assumption) (by with_reducible assumption) (by with_reducible assumption) (by with_reducible assumption) ?_)); intro _ _ _ _ _ _ k9q n9q a9q; intros; (rename Fr _ _ _ _ => F9q); (rename News _ _ _ _ => N9q); (have N8q := News.addK F9q N9q k9q n9q a9q); (have F8q := Fr.keepsK F9q k9q); clear F9q N9q k9q n9q a9q))) | ((k_dflt ((with_reducible show wpAny _ _ (call (Value.type _) [Value.int _ _, Value.int _ _]) _ _ _); (refine rng2 (by assumption) (by assumption) ?_); intro _ _ _ _ _ _ _ _ _))) | walk1 | (dsimp only; walk1) | (leave1; try dsimp only))))
  refine' TurnP.next ⟨l, vs2, k + 1⟩ ?Fb ?Nb ?nb ?cb ?hpb ?Pb
  case Fb => assumption
  case Nb => exact N8b
  case nb => exact fun p hp => hp
  case cb =>
    rw [hio2]
    refine List.forall_mem_cons.mpr ⟨(show Value.type "list" ≠ Value.type "range_iterator" by decide), fun p hp => ?_⟩
    rw [rowsLed_cls p hp]; decide
  case hpb => ((repeat' (first | exact List.forall_mem_nil _ | (refine List.forall_mem_cons.mpr ⟨by with_unfolding_all rfl, ?_⟩))))
  case Pb => exact ⟨hd1, hvs2⟩
end Mine
end
section
open PySem PySem.W PyProof.Rows PySem.Calls PySem.Spec
set_option maxRecDepth 100000
set_option maxHeartbeats 8000000
namespace Mine
section
variable {prog : Program} {w : World} {A : Around} {E : Value → Shared → Prop} {s : Shared} {h₀ : Heap} {L : Addr} {m : Str → Option Value} {news news' : List (Addr × Obj)}
theorem pop0 {l : Addr} {y : Value} {vs : List Value} {k : Nat} {u : Tok} {Q : Value → Shared → Prop} (F : Fr h₀ L s.heap m) (N : News h₀ L s.heap news)
    (U : Upd l (listOf (y :: vs).toArray k) (listOf vs.toArray (k + 1)) news news') (hz : vs.length ≤ 1000) (h : ∀ h', Fr h₀ L h' m → News h₀ L h' news' → Q y { s with heap := h' }) : wpAny (model prog w) A (call (.builtin "list.pop") [.ref l, .int 0 u]) Q E s := by
  refine kl_popAt (p := []) (y := y) (q := vs) (k := 0) F N (by decide) ?_ rfl U (by rw [sizeLine_eq]; simp only [List.length_cons]; omega) h
  unfold seqIndex?
  simp
theorem kl_cut_at : ∀ {l : List Value} {i : Nat} {y : Value}, l[i]? = some y → kl_cut l i = some (l.take i, y, l.drop (i + 1))
  | [], _, _, h => by cases h
  | x :: r, 0, y, h => by cases h; rfl
  | x :: r, i + 1, y, h => by
    have := kl_cut_at (l := r) (i := i) (y := y) (by simpa using h)
    simp [kl_cut, this]
theorem popAt {l : Addr} {vs : List Value} {k : Nat} {i : Int} {p : Nat} {u : Tok} {y : Value} {Q : Value → Shared → Prop} (F : Fr h₀ L s.heap m) (N : News h₀ L s.heap news) (hp : i = (p : Int)) (hlt : vs[p]? = some y) (hz : vs.length ≤ 1000)
    (U : Upd l (listOf vs.toArray k) (listOf (vs.take p ++ vs.drop (p + 1)).toArray (k + 1)) news news') (h : ∀ h', Fr h₀ L h' m → News h₀ L h' news' → Q y { s with heap := h' }) : wpAny (model prog w) A (call (.builtin "list.pop") [.ref l, .int i u]) Q E s := by
  have hl : p < vs.length := (List.getElem?_eq_some_iff.mp hlt).1
  refine kl_popAt (p := vs.take p) (y := y) (q := vs.drop (p + 1)) (k := p) F N ?_ ?_ (kl_cut_at hlt) U (by rw [sizeLine_eq]; show vs.length ≤ _; omega) h
  · simp [PySem.Builtin.List.listFitsIndex]; omega
  · simp [seqIndex?, hp, hl, show ¬ (p : Int) < 0 by omega]
theorem len_news {l : Addr} {vs : List Value} {k : Nat} {ns : List Int} {Q : Value → Shared → Prop} (N : News h₀ L s.heap news) (hm : (l, listOf vs.toArray k) ∈ news) (hi : IntsAre vs ns) (hz : ns.length ≤ 1000)
    (h : Q (.int (ns.length : Int) (s.toks + 1)) { s with toks := s.toks + 1 + 1 }) : wpAny (model prog w) A (call (.builtin "len") [.ref l]) Q E s := by
  have hl : s.heap.IsList l vs.toArray := ⟨_, (N _ hm).1, rfl, k, rfl⟩
  have e2 : vs.toArray.size = ns.length := by rw [List.size_toArray, hi.length]
  exact len_list hl (by rw [e2]; omega) (by rw [e2]; exact h)
theorem eq_nil {l l9 : Addr} {vs : List Value} {k k9 : Nat} {ns : List Int} {Q : Value → Shared → Prop} (N : News h₀ L s.heap news) (hm : (l, listOf vs.toArray k) ∈ news) (hm9 : (l9, listOf #[] k9) ∈ news) (hi : IntsAre vs ns) (hu : A.units < cLine)
    (h1 : ns = [] → Q (.bool true) s) (h2 : ns ≠ [] → Q (.bool false) s) : wpAny (model prog w) A (compareOp .Eq (.ref l) (.ref l9)) Q E s := by
  have hl : s.heap.IsList l vs.toArray := ⟨_, (N _ hm).1, rfl, k, rfl⟩
  have hl9 : s.heap.IsList l9 #[] := ⟨_, (N _ hm9).1, rfl, k9, rfl⟩
  cases hi with
  | nil => exact SeqAt.RcAt.lists (e := fun _ => true) hl hl9 rfl hu (fun j h1 h2 => absurd h2 (Nat.not_lt_zero _)) prog w E Q (h1 rfl)
  | cons n t hi => exact SeqAt.RcAt.lists_lengths hl hl9 (by simp) hu prog w E Q (h2 (fun e => nomatch e))
theorem ne_nil {l l9 : Addr} {vs : List Value} {k k9 : Nat} {ns : List Int} {Q : Value → Shared → Prop} (N : News h₀ L s.heap news) (hm : (l, listOf vs.toArray k) ∈ news) (hm9 : (l9, listOf #[] k9) ∈ news) (hi : IntsAre vs ns) (hu : A.units < cLine)
    (h1 : ns = [] → Q (.bool false) s) (h2 : ns ≠ [] → Q (.bool true) s) : wpAny (model prog w) A (compareOp .NotEq (.ref l) (.ref l9)) Q E s := by
  have hl : s.heap.IsList l vs.toArray := ⟨_, (N _ hm).1, rfl, k, rfl⟩
  have hl9 : s.heap.IsList l9 #[] := ⟨_, (N _ hm9).1, rfl, k9, rfl⟩
  cases hi with
  | nil => exact SeqAt.RcNeAt.lists (e := fun _ => true) hl hl9 rfl hu (fun j h1 h2 => absurd h2 (Nat.not_lt_zero _)) prog w E Q (h1 rfl)
  | cons n t hi => exact SeqAt.RcNeAt.lists_lengths hl hl9 (by simp) hu prog w E Q (h2 (fun e => nomatch e))
theorem rng3 {a b c : Int} {t u v : Tok} {Q : Value → Shared → Prop} (F : Fr h₀ L s.heap m) (N : News h₀ L s.heap news) (hc : c ≠ 0) (hab : (b - a).natAbs ≤ 1000 ∧ c.natAbs ≤ 1000)
    (h : ∀ r h' tk t₁ u₁ v₁, IsRange h' r a b c t₁ u₁ v₁ → Fr h₀ L h' m → News h₀ L h' news → Q (.ref r) { s with heap := h', toks := tk }) :
    wpAny (model prog w) A (call (.type "range") [.int a t, .int b u, .int c v]) Q E s :=
  range3_rows F N hc (fun h' tk t₁ u₁ v₁ hr F' N' _ => h _ h' tk t₁ u₁ v₁ hr F' N') (.inl (PyProof.noPylong_small (by omega)))
/-- a step's ledger: one list turned -/
theorem newList_K' {vs : List Value} {Q : Value → Shared → Prop} (hz : vs.length ≤ 1000) (F : Fr h₀ L s.heap m) (N : News h₀ L s.heap news)
    (h : ∀ l h', Fr h₀ L h' m → News h₀ L h' ((l, listOf vs.toArray 0) :: news) → (∀ p ∈ news, p.1 < l) → Q (.ref l) { s with heap := h' }) : wpAny (model prog w) A (newList vs) Q E s :=
  newList_K (hsz := by rw [sizeLine_eq]; omega) F N h
end
end Mine
end
section
open PySem PySem.W PyProof.Rows PySem.Calls PySem.Spec
set_option maxRecDepth 100000
set_option maxHeartbeats 8000000
namespace Mine
structure RF where
  (lp lr lf : Addr) (vp vr vf : List Value) (np nr nf : List Int) (kp kr kf y ty : Nat)
noncomputable def riffF : Nat → List Int → List Int → Nat → List Int
  | 0, _, _, _ => []
  | f + 1, p, [], y => match p with
    | a :: p' => a :: riffF f p' [] (y / 2)
    | [] => []
  | f + 1, [], b :: r', y => b :: riffF f [] r' (y / 2)
  | f + 1, a :: p', b :: r', y => if y % 2 = 1 then a :: riffF f p' (b :: r') (y / 2) else b :: riffF f (a :: p') r' (y / 2)
theorem rsD (d : Nat) : PySem.Builtin.Range.rangeSize (d : Int) 0 (-1) = (d : Int) := by
  unfold PySem.Builtin.Range.rangeSize
  simp only [show ¬ (-1 : Int) > 0 by decide, if_false, show (-(-1 : Int)) = 1 by decide, Int.ediv_one]
  split <;> omega
theorem rsU (d n : Nat) : PySem.Builtin.Range.rangeSize ((d : Int) + 1) ((n : Int) + 1) 1 = ((n - d : Nat) : Int) := by
  unfold PySem.Builtin.Range.rangeSize
  simp only [show (1 : Int) > 0 by decide, if_true]
  split <;> omega
theorem app0 {prog : Program} {w : World} {A : Around} {E : Value → Shared → Prop} {s : Shared} {h₀ : Heap} {L : Addr} {m : Str → Option Value} {news news' : List (Addr × Obj)} {l : Addr} {vs : List Value} {k : Nat} {v : Value} {Q : Value → Shared → Prop} (F : Fr h₀ L s.heap m) (N : News h₀ L s.heap news) (U : Upd l (listOf vs.toArray k) (listOf (vs ++ [v]).toArray (k + 1)) news news') (hz : vs.length ≤ 1000)
    (h : ∀ h', Fr h₀ L h' m → News h₀ L h' news' → Q .none { s with heap := h' }) : wpAny (model prog w) A (call (.builtin "list.append") [.ref l, v]) Q E s := by
  refine append_K (its := vs.toArray) F N (by simpa using U) h (hsz := by rw [sizeLine_eq, List.size_toArray]; omega)
theorem fdiv2 (y : Nat) : (y : Int).fdiv 2 = ((y / 2 : Nat) : Int) := by
  rw [Int.fdiv_eq_ediv_of_nonneg _ (by decide)]; omega
theorem fmod2 (y : Nat) : (y : Int).fmod 2 = ((y % 2 : Nat) : Int) := by
  rw [Int.fmod_eq_emod_of_nonneg _ (by decide)]; omega
theorem riff1 {n y : Nat} {nf r R : List Int} {b : Int} (h : nf ++ riffF (n - nf.length) [] (b :: r) y = R) (hn : nf.length < n) :
    (nf ++ [b]) ++ riffF (n - (nf ++ [b]).length) [] r (y / 2) = R := by
  obtain ⟨f, hf⟩ : ∃ f, n - nf.length = f + 1 := ⟨n - nf.length - 1, by omega⟩
  rw [← h, hf, show n - (nf ++ [b]).length = f by simp; omega]; simp [riffF]
theorem riff2 {n y : Nat} {nf r R : List Int} {b : Int} (h : nf ++ riffF (n - nf.length) (b :: r) [] y = R) (hn : nf.length < n) :
    (nf ++ [b]) ++ riffF (n - (nf ++ [b]).length) r [] (y / 2) = R := by
  obtain ⟨f, hf⟩ : ∃ f, n - nf.length = f + 1 := ⟨n - nf.length - 1, by omega⟩
  rw [← h, hf, show n - (nf ++ [b]).length = f by simp; omega]; simp [riffF]
theorem riff3 {n y : Nat} {nf r p R : List Int} {a b : Int} (h : nf ++ riffF (n - nf.length) (a :: p) (b :: r) y = R) (hn : nf.length < n) (hy : y % 2 = 1) :
    (nf ++ [a]) ++ riffF (n - (nf ++ [a]).length) p (b :: r) (y / 2) = R := by
  obtain ⟨f, hf⟩ : ∃ f, n - nf.length = f + 1 := ⟨n - nf.length - 1, by omega⟩
  rw [← h, hf, show n - (nf ++ [a]).length = f by simp; omega]; simp [riffF, hy]
theorem riff4 {n y : Nat} {nf r p R : List Int} {a b : Int} (h : nf ++ riffF (n - nf.length) (a :: p) (b :: r) y = R) (hn : nf.length < n) (hy : ¬ y % 2 = 1) :
    (nf ++ [b]) ++ riffF (n - (nf ++ [b]).length) (a :: p) r (y / 2) = R := by
  obtain ⟨f, hf⟩ : ∃ f, n - nf.length = f + 1 := ⟨n - nf.length - 1, by omega⟩
  rw [← h, hf, show n - (nf ++ [b]).length = f by simp; omega]; simp [riffF, hy]
structure LE where
  (l : Addr) (vs : List Value) (k : Nat)
theorem ints_at {vs : List Value} {ns : List Int} (hi : IntsAre vs ns) : ∀ (i : Nat) (v : Value), vs[i]? = some v → ∃ (q : Int) (t : Tok), v = .int q t := by
  induction hi with
  | nil => intro i v h; simp at h
  | cons n t hi ih =>
    intro i v h
    cases i with
    | zero => simp at h; exact ⟨n, t, h.symm⟩
    | succ i => exact ih i v (by simpa using h)
theorem swap_perm {l : List Int} {a b : Nat} (ha : a < l.length) (hb : b < l.length) : ((l.set a (l.getD b 0)).set b (l.getD a 0)).Perm l := by
  rw [List.getD_eq_getElem?_getD, List.getElem?_eq_getElem hb, List.getD_eq_getElem?_getD, List.getElem?_eq_getElem ha]
  exact List.set_set_perm ha hb
theorem fmodB (q : Int) (n : Nat) (hn : 0 < n) : ∃ a : Nat, a < n ∧ q.fmod (n : Int) = (a : Int) := by
  have h1 := Int.fmod_nonneg_of_pos q (show (0 : Int) < n by omega)
  have h2 := Int.fmod_lt_of_pos q (show (0 : Int) < n by omega)
  exact ⟨(q.fmod n).toNat, by omega, by omega⟩
noncomputable def maxL : List Int → Int
  | [] => 0
  | [a] => a
  | a :: b :: r => max a (maxL (b :: r))
noncomputable def minL : List Int → Int
  | [] => 0
  | [a] => a
  | a :: b :: r => min a (minL (b :: r))
theorem maxL_spec : ∀ {l : List Int}, l ≠ [] → maxL l ∈ l ∧ ∀ a ∈ l, a ≤ maxL l
  | [], h => absurd rfl h
  | [a], _ => ⟨.head _, fun b hb => by rw [List.mem_singleton.mp hb]; exact Int.le_refl _⟩
  | a :: b :: r, _ => by
    have ih := maxL_spec (l := b :: r) (by simp)
    simp only [maxL]
    refine ⟨?_, fun c hc => ?_⟩
    · rcases Int.le_total a (maxL (b :: r)) with h | h
      · rw [Int.max_eq_right h]; exact .tail _ ih.1
      · rw [Int.max_eq_left h]; exact .head _
    · rcases List.mem_cons.mp hc with rfl | hc
      · omega
      · have := ih.2 c hc; omega
theorem minL_spec : ∀ {l : List Int}, l ≠ [] → minL l ∈ l ∧ ∀ a ∈ l, minL l ≤ a
  | [], h => absurd rfl h
  | [a], _ => ⟨.head _, fun b hb => by rw [List.mem_singleton.mp hb]; exact Int.le_refl _⟩
  | a :: b :: r, _ => by
    have ih := minL_spec (l := b :: r) (by simp)
    simp only [minL]
    refine ⟨?_, fun c hc => ?_⟩
    · rcases Int.le_total a (minL (b :: r)) with h | h
      · rw [Int.min_eq_left h]; exact .head _
      · rw [Int.min_eq_right h]; exact .tail _ ih.1
    · rcases List.mem_cons.mp hc with rfl | hc
      · omega
      · have := ih.2 c hc; omega
theorem maxL_of {l : List Int} {M : Int} (h1 : M ∈ l) (h2 : ∀ a ∈ l, a ≤ M) : M = maxL l := by
  have h := maxL_spec (List.ne_nil_of_mem h1)
  exact Int.le_antisymm (h.2 _ h1) (h2 _ h.1)
theorem minL_of {l : List Int} {M : Int} (h1 : M ∈ l) (h2 : ∀ a ∈ l, M ≤ a) : M = minL l := by
  have h := minL_spec (List.ne_nil_of_mem h1)
  exact Int.le_antisymm (h2 _ h.1) (h.2 _ h1)
noncomputable def neighAt (ns : List Int) (j : Nat) : Bool := decide (maxL (ns.take (j + 1)) - minL (ns.take (j + 1)) = (j : Int))
noncomputable def neighF (ns : List Int) : Bool := (List.range ns.length).all (neighAt ns)
theorem neigh_no {ns : List Int} {j : Nat} {M m : Int} (hj : j < ns.length) (b : ∀ a ∈ ns.take (((j : Int) + 1).toNat), a ≤ M) (d : ∀ a ∈ ns.take (((j : Int) + 1).toNat), m ≤ a) (a : M ∈ ns.take (((j : Int) + 1).toNat)) (c : m ∈ ns.take (((j : Int) + 1).toNat)) (e : M - m ≠ (j : Int) + 1 - 1) : false = neighF ns := by
  symm
  rw [show ((j : Int) + 1).toNat = j + 1 by omega] at a b c d
  rw [neighF, List.all_eq_false]
  refine ⟨j, List.mem_range.mpr hj, ?_⟩
  rw [neighAt, ← maxL_of a b, ← minL_of c d]
  simp; omega
theorem neigh_yes {ns : List Int} {j : Nat} {M m : Int} (b : ∀ a ∈ ns.take (((j : Int) + 1).toNat), a ≤ M) (d : ∀ a ∈ ns.take (((j : Int) + 1).toNat), m ≤ a) (a : M ∈ ns.take (((j : Int) + 1).toNat)) (c : m ∈ ns.take (((j : Int) + 1).toNat)) (e : M - m = (j : Int) + 1 - 1) (hp : ∀ i < j, neighAt ns i = true) : ∀ i < j + 1, neighAt ns i = true := by
  rw [show ((j : Int) + 1).toNat = j + 1 by omega] at a b c d
  intro i hi
  by_cases h : i < j
  · exact hp i h
  · obtain rfl : i = j := by omega
    rw [neighAt, ← maxL_of a b, ← minL_of c d]
    simp; omega
theorem neigh_all {ns : List Int} (hp : ∀ i < ns.length, neighAt ns i = true) : true = neighF ns := by
  symm
  rw [neighF, List.all_eq_true]
  exact fun i hi => hp i (List.mem_range.mp hi)
end Mine
end
section
open PySem PySem.W PyProof.Rows PySem.Calls PySem.Spec
set_option maxRecDepth 100000
set_option maxHeartbeats 8000000
namespace Mine
theorem fill_C1riff : PySem.Challenge.rw_sc0035_01.foot = 8 ∧ hd.heap_39 = hd.heap_39 := by
  w_top off
  k_fill
  exact ⟨rfl, rfl⟩
theorem p7 {a : Nat} (h : Unit → a + 1 ≤ 7) : a ≤ 1000 := Nat.le_trans (Nat.le_of_succ_le (h ())) (by decide)
theorem p7l {vs : List Value} {a b c n : Nat} (h : a + b + c = n) (hn : n ≤ 7) (e : vs.length = a) : vs.length ≤ 7 := by omega
theorem p7r {vs : List Value} {a b c n : Nat} (h : a + b + c = n) (hn : n ≤ 7) (e : vs.length = b) : vs.length ≤ 7 := by omega
theorem p7c {a b c n : Nat} (h : a + b + c = n) (hn : n ≤ 7) : c ≤ 1000 := by omega
theorem ltA {b c n : Nat} (h : 0 + (b + 1) + c = n) : c < n := by omega
theorem ltB {a b c n : Nat} (h : a + 1 + b + c = n) : c < n := by omega
theorem sA {a b c n : Nat} (h : a + (b + 1) + c = n) : a + b + (c + (0 + 1)) = n := by omega
theorem sB {a b c n : Nat} (h : a + 1 + b + c = n) : a + b + (c + (0 + 1)) = n := by omega
theorem mst {c n : Nat} (h : c < n) : n - (c + (0 + 1)) < n - c := by omega
theorem smD {d : Nat} (h : d ≤ 7) : Builtin.Range.small (d : Int) 0 (-1) = true := small_mine (by omega) (by decide) (by decide)
theorem smU {d n : Nat} (h : d ≤ 7 ∧ n ≤ 7) : Builtin.Range.small ((d : Int) + 1) ((n : Int) + 1) 1 = true := small_mine (by omega) (by omega) (by decide)
theorem sN {c n : Nat} (h : 0 + 0 + c = n) : c = n ∧ n - c = 0 := by omega
theorem c_riff {w : World} {A : Around} {s : Shared} {Q E : Value → Shared → Prop} (C : Cx 2 w A s.heap)
    {n d y : Nat} {tn td ty : Tok} (hn : n ≤ 7) (hd : d ≤ n)
    (h : ∀ l vs ns k h' tk, Keeps s.heap h' → IntsAre vs ns → ns = riffF n (rangeL d (-1) d) (rangeL ((d : Int) + 1) 1 (n - d)) y → ns.length = n → s.heap.get? l = none → h'.get? l = some (listOf vs.toArray k) → Q (.ref l) { s with heap := h', toks := tk }) :
    wpAny (model PR w) A (call (.ref 56) [.int (n : Int) tn, .int (d : Int) td, .int (y : Int) ty]) Q E s := by
  obtain ⟨X, ⟨prg, loose, mean, mg, mb, T⟩, hh, hroom, hun⟩ := C
  obtain ⟨_, dp, fr, gd, un⟩ := A
  cases hh
  replace hroom : dp + 2 < recursionLimit := hroom
  replace hun : un + 60 < cLine := hun
  refine own_call [(Str.ofString "size", .int (n : Int) tn), (Str.ofString "dealt", .int (d : Int) td), (Str.ofString "way", .int (y : Int) ty)] X T (by k_is) (by k_is) (by (show dp < _); omega) (BindsTo.of_eq rfl) (locs rfl) (fun L h₁ tk F N => ?_) (by decide) rfl rfl rfl
  k_fold
  have hsD : d ≤ 7 := Nat.le_trans hd hn
  have hsU : d ≤ 7 ∧ n ≤ 7 := ⟨hsD, hn⟩
  have hsn : n - d ≤ 1000 := Nat.le_trans (Nat.sub_le _ _) (Nat.le_trans hn (by decide))
  have hsd : d ≤ 1000 := Nat.le_trans hsD (by decide)
  have hrs1 := rsD d
  have hrs2 := rsU d n
  (repeat' (first | (k_unfold; (try dsimp only)) | ((fail_if_success (with_reducible show wpAny _ _ (PySem.exec (PySem.Stmt.While _ _ _ _) _) _ _ _)); (fail_if_success (with_reducible show wpAny _ _ (PySem.exec (PySem.Stmt.For _ _ _ _ _) _) _ _ _)); (fail_if_success (with_reducible show wpAny _ _ (PySem.pyIter _) _ _ _)); (fail_if_success (with_reducible show wpAny _ _ (PySem.setItem _ _ _) _ _ _)); first | ((with_reducible show wpAny _ _ (PySem.call (Value.builtin "list.append") _) _ _ _); (k_dflt ((rename Fr _ _ _ _ => F9q); (rename News _ _ _ _ => N9q); (repeat (rename @LT.lt Nat _ _ _ ∧ _ => z9; obtain ⟨_, _⟩ := z9)); (refine app0 F9q N9q (by (repeat' (first | exact List.forall_mem_nil _ | (apply Upd.head) | (apply Upd.tail; focus (refine neN ?_; (try dsimp only); first | exact Nat.ne_of_lt (by with_reducible assumption) | exact Nat.ne_of_gt (by with_reducible assumption) | omega)) | (refine List.forall_mem_cons.mpr ⟨(by (refine neN ?_; (try dsimp only); first | exact Nat.ne_of_lt (by with_reducible assumption) | exact Nat.ne_of_gt (by with_reducible assumption) | omega)), ?_⟩)))) (by (simp only [List.length_append, List.length_cons, List.length_nil]; omega)) ?_); clear F9q N9q; intro _ _ _))) | ((k_dflt ((with_reducible show wpAny _ _ (call (Value.builtin "list.pop") [Value.ref _, Value.int 0 _]) _ _ _); (rename Fr _ _ _ _ => F9q); (rename News _ _ _ _ => N9q); (repeat (rename @LT.lt Nat _ _ _ ∧ _ => z9; obtain ⟨_, _⟩ := z9)); (refine pop0 F9q N9q (by (repeat' (first | exact List.forall_mem_nil _ | (apply Upd.head) | (apply Upd.tail; focus (refine neN ?_; (try dsimp only); first | exact Nat.ne_of_lt (by with_reducible assumption) | exact Nat.ne_of_gt (by with_reducible assumption) | omega)) | (refine List.forall_mem_cons.mpr ⟨(by (refine neN ?_; (try dsimp only); first | exact Nat.ne_of_lt (by with_reducible assumption) | exact Nat.ne_of_gt (by with_reducible assumption) | omega)), ?_⟩)))) (by first | exact p7 (by with_reducible assumption) | omega) ?_); clear F9q N9q; intro _ _ _))) | ((with_reducible show wpAny _ _ (compareOp CmpOp.NotEq (Value.ref _) (Value.ref _)) _ _ _); (k_dflt ((rename News _ _ _ _ => N9q); (refine ne_nil N9q (by k_memK) (by exact List.Mem.head _) (by first | assumption | exact .nil | exact .cons _ _ (by assumption)) (by (simp only [Around.deeper, Around.in1]; omega)) ?_ ?_); all_goals (intro e9q; first | exact absurd rfl e9q | exact (List.cons_ne_nil _ _ e9q).elim | clear e9q)))) | ((with_reducible show wpAny _ _ (compareOp CmpOp.Eq (Value.ref _) (Value.ref _)) _ _ _); (k_dflt ((rename News _ _ _ _ => N9q); (refine eq_nil N9q (by k_memK) (by exact List.Mem.head _) (by first | assumption | exact .nil | exact .cons _ _ (by assumption)) (by (simp only [Around.deeper, Around.in1]; omega)) ?_ ?_); all_goals (intro e9q; first | exact absurd rfl e9q | exact (List.cons_ne_nil _ _ e9q).elim | clear e9q)))) | ((k_dflt ((with_reducible show wpAny _ _ (call (Value.builtin "len") [Value.ref _]) _ _ _); (rename News _ _ _ _ => N9q); (refine len_news N9q (by k_memK) (by first | assumption | exact .nil | exact .cons _ _ (by assumption)) (by first | with_reducible assumption | omega) ?_)))) | ((k_dflt ((with_reducible show wpAny _ _ (call (Value.type _) [Value.ref _]) _ _ _); (refine list_range _ (by rfl) (by assumption) (by assumption) (by assumption) (by first | with_reducible exact smD (by assumption) | with_reducible exact smU (by assumption) | exact small_mine (by omega) (by omega) (by omega)) (by assumption) (by first | with_reducible assumption | omega) ?_; intro _ _ _ _ _ _ l1q _ _; (try k_lt l1q))))) | ((k_dflt ((with_reducible show wpAny _ _ (call (Value.type _) [Value.int _ _, Value.int _ _, Value.int _ _]) _ _ _); (refine rng3 (by assumption) (by assumption) (by decide) (by omega) ?_); intro _ _ _ _ _ _ _ _ _))) | ((k_dflt ((with_reducible show wpAny _ _ (call (Value.type _) [Value.int _ _, Value.int _ _]) _ _ _); (refine rng2 (by assumption) (by assumption) ?_); intro _ _ _ _ _ _ _ _ _))) | walk1 | (dsimp only; walk1) | (leave1; try dsimp only))))
  rename Fr _ _ _ _ => F1
  rename News _ _ _ _ => N1
  refine' while_mine2 (σ := RF) (fun c => [(c.lf, listOf c.vf.toArray c.kf), (c.lr, listOf c.vr.toArray c.kr), (c.lp, listOf c.vp.toArray c.kp)]) (fun c => [(Str.ofString "way", .int (c.y : Int) c.ty), (Str.ofString "pile", .ref c.lp), (Str.ofString "rest", .ref c.lr), (Str.ofString "riffled", .ref c.lf), (Str.ofString "size", .int (n : Int) tn)])
    (fun c => IntsAre c.vp c.np ∧ IntsAre c.vr c.nr ∧ IntsAre c.vf c.nf ∧ @LT.lt Nat _ c.lp c.lr ∧ @LT.lt Nat _ c.lr c.lf ∧ c.np.length + c.nr.length + c.nf.length = n ∧ c.nf ++ riffF (n - c.nf.length) c.np c.nr c.y = riffF n (rangeL d (-1) d) (rangeL ((d : Int) + 1) 1 (n - d)) y)
    (fun c => n - c.nf.length)
    (fun c => IntsAre c.vf c.nf ∧ c.nf = riffF n (rangeL d (-1) d) (rangeL ((d : Int) + 1) 1 (n - d)) y ∧ c.nf.length = n)
    ⟨_, _, _, _, _, [], rangeL d (-1) d, rangeL ((d : Int) + 1) 1 (n - d), [], _, _, _, y, _⟩ F1 N1 ?hnews ?hp0 ?hj ?turn ?done
  case hp0 => ((repeat' (first | exact List.forall_mem_nil _ | (refine List.forall_mem_cons.mpr ⟨by with_unfolding_all rfl, ?_⟩))))
  case hnews => ((repeat' (first | exact List.forall_mem_nil _ | (refine List.forall_mem_cons.mpr ⟨by k_memK, ?_⟩))))
  case hj =>
    dsimp only
    exact ⟨by assumption, by assumption, .nil, by assumption, by omega, by simp [rangeL_length]; omega, by simp⟩
  case done =>
    rintro ⟨lp, lr, lf, vp, vr, vf, np, nr, nf, kp, kr, kf, y', ty'⟩ u h9 tk ⟨hx1, hx2, hx3⟩ F3 N3
    dsimp only at hx1 hx2 hx3 F3 N3 ⊢
    (repeat' (first | (k_unfold; (try dsimp only)) | ((fail_if_success (with_reducible show wpAny _ _ (PySem.exec (PySem.Stmt.While _ _ _ _) _) _ _ _)); (fail_if_success (with_reducible show wpAny _ _ (PySem.exec (PySem.Stmt.For _ _ _ _ _) _) _ _ _)); (fail_if_success (with_reducible show wpAny _ _ (PySem.pyIter _) _ _ _)); (fail_if_success (with_reducible show wpAny _ _ (PySem.setItem _ _ _) _ _ _)); first | ((with_reducible show wpAny _ _ (PySem.call (Value.builtin "list.append") _) _ _ _); (k_dflt ((rename Fr _ _ _ _ => F9q); (rename News _ _ _ _ => N9q); (repeat (rename @LT.lt Nat _ _ _ ∧ _ => z9; obtain ⟨_, _⟩ := z9)); (refine app0 F9q N9q (by (repeat' (first | exact List.forall_mem_nil _ | (apply Upd.head) | (apply Upd.tail; focus (refine neN ?_; (try dsimp only); first | exact Nat.ne_of_lt (by with_reducible assumption) | exact Nat.ne_of_gt (by with_reducible assumption) | omega)) | (refine List.forall_mem_cons.mpr ⟨(by (refine neN ?_; (try dsimp only); first | exact Nat.ne_of_lt (by with_reducible assumption) | exact Nat.ne_of_gt (by with_reducible assumption) | omega)), ?_⟩)))) (by (simp only [List.length_append, List.length_cons, List.length_nil]; omega)) ?_); clear F9q N9q; intro _ _ _))) | ((k_dflt ((with_reducible show wpAny _ _ (call (Value.builtin "list.pop") [Value.ref _, Value.int 0 _]) _ _ _); (rename Fr _ _ _ _ => F9q); (rename News _ _ _ _ => N9q); (repeat (rename @LT.lt Nat _ _ _ ∧ _ => z9; obtain ⟨_, _⟩ := z9)); (refine pop0 F9q N9q (by (repeat' (first | exact List.forall_mem_nil _ | (apply Upd.head) | (apply Upd.tail; focus (refine neN ?_; (try dsimp only); first | exact Nat.ne_of_lt (by with_reducible assumption) | exact Nat.ne_of_gt (by with_reducible assumption) | omega)) | (refine List.forall_mem_cons.mpr ⟨(by (refine neN ?_; (try dsimp only); first | exact Nat.ne_of_lt (by with_reducible assumption) | exact Nat.ne_of_gt (by with_reducible assumption) | omega)), ?_⟩)))) (by first | exact p7 (by with_reducible assumption) | omega) ?_); clear F9q N9q; intro _ _ _))) | ((with_reducible show wpAny _ _ (compareOp CmpOp.NotEq (Value.ref _) (Value.ref _)) _ _ _); (k_dflt ((rename News _ _ _ _ => N9q); (refine ne_nil N9q (by k_memK) (by exact List.Mem.head _) (by first | assumption | exact .nil | exact .cons _ _ (by assumption)) (by (simp only [Around.deeper, Around.in1]; omega)) ?_ ?_); all_goals (intro e9q; first | exact absurd rfl e9q | exact (List.cons_ne_nil _ _ e9q).elim | clear e9q)))) | ((with_reducible show wpAny _ _ (compareOp CmpOp.Eq (Value.ref _) (Value.ref _)) _ _ _); (k_dflt ((rename News _ _ _ _ => N9q); (refine eq_nil N9q (by k_memK) (by exact List.Mem.head _) (by first | assumption | exact .nil | exact .cons _ _ (by assumption)) (by (simp only [Around.deeper, Around.in1]; omega)) ?_ ?_); all_goals (intro e9q; first | exact absurd rfl e9q | exact (List.cons_ne_nil _ _ e9q).elim | clear e9q)))) | ((k_dflt ((with_reducible show wpAny _ _ (call (Value.builtin "len") [Value.ref _]) _ _ _); (rename News _ _ _ _ => N9q); (refine len_news N9q (by k_memK) (by first | assumption | exact .nil | exact .cons _ _ (by assumption)) (by first | with_reducible assumption | omega) ?_)))) | ((k_dflt ((with_reducible show wpAny _ _ (call (Value.type _) [Value.ref _]) _ _ _); (refine list_range _ (by rfl) (by assumption) (by assumption) (by assumption) (by first | with_reducible exact smD (by assumption) | with_reducible exact smU (by assumption) | exact small_mine (by omega) (by omega) (by omega)) (by assumption) (by first | with_reducible assumption | omega) ?_; intro _ _ _ _ _ _ l1q _ _; (try k_lt l1q))))) | ((k_dflt ((with_reducible show wpAny _ _ (call (Value.type _) [Value.int _ _, Value.int _ _, Value.int _ _]) _ _ _); (refine rng3 (by assumption) (by assumption) (by decide) (by omega) ?_); intro _ _ _ _ _ _ _ _ _))) | ((k_dflt ((with_reducible show wpAny _ _ (call (Value.type _) [Value.int _ _, Value.int _ _]) _ _ _); (refine rng2 (by assumption) (by assumption) ?_); intro _ _ _ _ _ _ _ _ _))) | walk1 | (dsimp only; walk1) | (leave1; try dsimp only))))
    exact h _ _ _ _ _ _ (Fr.keep F3) hx1 hx2 hx3 (N3 _ (.head _)).2.2 (N3 _ (.head _)).1
  case turn =>
  clear F1 N1
  rintro ⟨lp, lr, lf, vp, vr, vf, np, nr, nf, kp, kr, kf, y', ty'⟩ u h9 tk ⟨hp1, hp2, hp3, hp4, hp5, hp6, hp7⟩ F3 N3
  dsimp only at hp1 hp2 hp3 hp4 hp5 hp6 hp7 F3 N3 ⊢
  k_fold
  have hz1 : Unit → vp.length ≤ 7 := fun _ => p7l hp6 hn hp1.length
  have hz2 : Unit → vr.length ≤ 7 := fun _ => p7r hp6 hn hp2.length
  have hz3 : nf.length ≤ 1000 := p7c hp6 hn
  have hp8 : @LT.lt Nat _ lp lf := Nat.lt_trans hp4 hp5
  rcases hp1 with _ | @⟨a, t1, vs1, ns1, hi1⟩ <;> rcases hp2 with _ | @⟨b, t2, vs2, ns2, hi2⟩
  all_goals simp only [List.length_cons, List.length_nil] at hp6 hz1 hz2
  all_goals (repeat' (first | (k_unfold; (try dsimp only)) | ((fail_if_success (with_reducible show wpAny _ _ (PySem.exec (PySem.Stmt.While _ _ _ _) _) _ _ _)); (fail_if_success (with_reducible show wpAny _ _ (PySem.exec (PySem.Stmt.For _ _ _ _ _) _) _ _ _)); (fail_if_success (with_reducible show wpAny _ _ (PySem.pyIter _) _ _ _)); (fail_if_success (with_reducible show wpAny _ _ (PySem.setItem _ _ _) _ _ _)); first | ((with_reducible show wpAny _ _ (PySem.call (Value.builtin "list.append") _) _ _ _); (k_dflt ((rename Fr _ _ _ _ => F9q); (rename News _ _ _ _ => N9q); (repeat (rename @LT.lt Nat _ _ _ ∧ _ => z9; obtain ⟨_, _⟩ := z9)); (refine app0 F9q N9q (by (repeat' (first | exact List.forall_mem_nil _ | (apply Upd.head) | (apply Upd.tail; focus (refine neN ?_; (try dsimp only); first | exact Nat.ne_of_lt (by with_reducible assumption) | exact Nat.ne_of_gt (by with_reducible assumption) | omega)) | (refine List.forall_mem_cons.mpr ⟨(by (refine neN ?_; (try dsimp only); first | exact Nat.ne_of_lt (by with_reducible assumption) | exact Nat.ne_of_gt (by with_reducible assumption) | omega)), ?_⟩)))) (by (simp only [List.length_append, List.length_cons, List.length_nil]; omega)) ?_); clear F9q N9q; intro _ _ _))) | ((k_dflt ((with_reducible show wpAny _ _ (call (Value.builtin "list.pop") [Value.ref _, Value.int 0 _]) _ _ _); (rename Fr _ _ _ _ => F9q); (rename News _ _ _ _ => N9q); (repeat (rename @LT.lt Nat _ _ _ ∧ _ => z9; obtain ⟨_, _⟩ := z9)); (refine pop0 F9q N9q (by (repeat' (first | exact List.forall_mem_nil _ | (apply Upd.head) | (apply Upd.tail; focus (refine neN ?_; (try dsimp only); first | exact Nat.ne_of_lt (by with_reducible assumption) | exact Nat.ne_of_gt (by with_reducible assumption) | omega)) | (refine List.forall_mem_cons.mpr ⟨(by (refine neN ?_; (try dsimp only); first | exact Nat.ne_of_lt (by with_reducible assumption) | exact Nat.ne_of_gt (by with_reducible assumption) | omega)), ?_⟩)))) (by first | exact p7 (by with_reducible assumption) | omega) ?_); clear F9q N9q; intro _ _ _))) | ((with_reducible show wpAny _ _ (compareOp CmpOp.NotEq (Value.ref _) (Value.ref _)) _ _ _); (k_dflt ((rename News _ _ _ _ => N9q); (refine ne_nil N9q (by k_memK) (by exact List.Mem.head _) (by first | assumption | exact .nil | exact .cons _ _ (by assumption)) (by (simp only [Around.deeper, Around.in1]; omega)) ?_ ?_); all_goals (intro e9q; first | exact absurd rfl e9q | exact (List.cons_ne_nil _ _ e9q).elim | clear e9q)))) | ((with_reducible show wpAny _ _ (compareOp CmpOp.Eq (Value.ref _) (Value.ref _)) _ _ _); (k_dflt ((rename News _ _ _ _ => N9q); (refine eq_nil N9q (by k_memK) (by exact List.Mem.head _) (by first | assumption | exact .nil | exact .cons _ _ (by assumption)) (by (simp only [Around.deeper, Around.in1]; omega)) ?_ ?_); all_goals (intro e9q; first | exact absurd rfl e9q | exact (List.cons_ne_nil _ _ e9q).elim | clear e9q)))) | ((k_dflt ((with_reducible show wpAny _ _ (call (Value.builtin "len") [Value.ref _]) _ _ _); (rename News _ _ _ _ => N9q); (refine len_news N9q (by k_memK) (by first | assumption | exact .nil | exact .cons _ _ (by assumption)) (by first | with_reducible assumption | omega) ?_)))) | ((k_dflt ((with_reducible show wpAny _ _ (call (Value.type _) [Value.ref _]) _ _ _); (refine list_range _ (by rfl) (by assumption) (by assumption) (by assumption) (by first | with_reducible exact smD (by assumption) | with_reducible exact smU (by assumption) | exact small_mine (by omega) (by omega) (by omega)) (by assumption) (by first | with_reducible assumption | omega) ?_; intro _ _ _ _ _ _ l1q _ _; (try k_lt l1q))))) | ((k_dflt ((with_reducible show wpAny _ _ (call (Value.type _) [Value.int _ _, Value.int _ _, Value.int _ _]) _ _ _); (refine rng3 (by assumption) (by assumption) (by decide) (by omega) ?_); intro _ _ _ _ _ _ _ _ _))) | ((k_dflt ((with_reducible show wpAny _ _ (call (Value.type _) [Value.int _ _, Value.int _ _]) _ _ _); (refine rng2 (by assumption) (by assumption) ?_); intro _ _ _ _ _ _ _ _ _))) | walk1 | (dsimp only; walk1) | (leave1; try dsimp only))))
  all_goals rename News _ _ _ _ => N9
  all_goals rename Fr _ _ _ _ => F9
  · refine' ExitW.here ⟨lp, lr, lf, _, _, _, [], [], nf, _, _, _, y', _⟩ F9 N9 ?n ?hp ?P
    case hp => ((repeat' (first | exact List.forall_mem_nil _ | (refine List.forall_mem_cons.mpr ⟨by with_unfolding_all rfl, ?_⟩))))
    case n => ((repeat' (first | exact List.forall_mem_nil _ | (refine List.forall_mem_cons.mpr ⟨by k_memK, ?_⟩))))
    case P =>
      refine ⟨hp3, ?_, (sN hp6).1⟩
      dsimp only
      rw [← hp7, (sN hp6).2]
      simp [riffF]
  all_goals
    rw [fdiv2] at F9
    rw [List.push_toArray] at N9
  all_goals try simp only [fmod2] at *
  · refine' TurnW.next ⟨lp, lr, lf, _, _, _, [], ns2, nf ++ [b], _, _, _, y' / 2, _⟩ F9 N9 ?n ?hp ?P ?m
    case hp => ((repeat' (first | exact List.forall_mem_nil _ | (refine List.forall_mem_cons.mpr ⟨by with_unfolding_all rfl, ?_⟩))))
    case n => ((repeat' (first | exact List.forall_mem_nil _ | (refine List.forall_mem_cons.mpr ⟨by k_memK, ?_⟩))))
    case P =>
      dsimp only
      exact ⟨.nil, hi2, IntsAre.append hp3 (.cons _ _ .nil), hp4, hp5, (by simp only [List.length_append, List.length_cons, List.length_nil]; exact sA hp6), riff1 hp7 (ltA hp6)⟩
    case m => dsimp only; simp only [List.length_append, List.length_cons, List.length_nil]; exact mst (ltA hp6)
  · refine' TurnW.next ⟨lp, lr, lf, _, _, _, ns1, [], nf ++ [a], _, _, _, y' / 2, _⟩ F9 N9 ?n ?hp ?P ?m
    case hp => ((repeat' (first | exact List.forall_mem_nil _ | (refine List.forall_mem_cons.mpr ⟨by with_unfolding_all rfl, ?_⟩))))
    case n => ((repeat' (first | exact List.forall_mem_nil _ | (refine List.forall_mem_cons.mpr ⟨by k_memK, ?_⟩))))
    case P =>
      dsimp only
      exact ⟨hi1, .nil, IntsAre.append hp3 (.cons _ _ .nil), hp4, hp5, (by simp only [List.length_append, List.length_cons, List.length_nil]; exact sB hp6), riff2 hp7 (ltB hp6)⟩
    case m => dsimp only; simp only [List.length_append, List.length_cons, List.length_nil]; exact mst (ltB hp6)
  · refine' TurnW.next ⟨lp, lr, lf, _, _, _, ns1, b :: ns2, nf ++ [a], _, _, _, y' / 2, _⟩ F9 N9 ?n ?hp ?P ?m
    case hp => ((repeat' (first | exact List.forall_mem_nil _ | (refine List.forall_mem_cons.mpr ⟨by with_unfolding_all rfl, ?_⟩))))
    case n => ((repeat' (first | exact List.forall_mem_nil _ | (refine List.forall_mem_cons.mpr ⟨by k_memK, ?_⟩))))
    case P =>
      dsimp only
      exact ⟨hi1, .cons _ _ hi2, IntsAre.append hp3 (.cons _ _ .nil), hp4, hp5, (by simp only [List.length_append, List.length_cons, List.length_nil]; exact sB hp6), riff3 hp7 (ltB hp6) (by omega)⟩
    case m => dsimp only; simp only [List.length_append, List.length_cons, List.length_nil]; exact mst (ltB hp6)
  · refine' TurnW.next ⟨lp, lr, lf, _, _, _, a :: ns1, ns2, nf ++ [b], _, _, _, y' / 2, _⟩ F9 N9 ?n ?hp ?P ?m
    case hp => ((repeat' (first | exact List.forall_mem_nil _ | (refine List.forall_mem_cons.mpr ⟨by with_unfolding_all rfl, ?_⟩))))
    case n => ((repeat' (first | exact List.forall_mem_nil _ | (refine List.forall_mem_cons.mpr ⟨by k_memK, ?_⟩))))
    case P =>
      dsimp only
      exact ⟨.cons _ _ hi1, hi2, IntsAre.append hp3 (.cons _ _ .nil), hp4, hp5, (by simp only [List.length_append, List.length_cons, List.length_nil]; exact sA hp6), riff4 hp7 (ltB hp6) (by omega)⟩
    case m => dsimp only; simp only [List.length_append, List.length_cons, List.length_nil]; exact mst (ltB hp6)
end Mine
end
section
open PySem PySem.W PyProof.Rows PySem.Calls PySem.Spec
set_option maxRecDepth 100000
set_option maxHeartbeats 8000000
namespace Mine
theorem fill_C1exch : PySem.Challenge.rw_sc0035_01.foot = 8 ∧ hd.heap_39 = hd.heap_39 := by
  w_top off
  k_fill
  exact ⟨rfl, rfl⟩
theorem c_exch {w : World} {A : Around} {s : Shared} {Q E : Value → Shared → Prop} (C : Cx 2 w A s.heap)
    {l l2 : Addr} {vs vs2 : List Value} {ns ns2 : List Int} (hl : s.heap.IsList l vs.toArray) (hi : IntsAre vs ns) (hl2 : s.heap.IsList l2 vs2.toArray) (hi2 : IntsAre vs2 ns2) (hlen : ns.length ≤ 8 ∧ 1 ≤ ns.length) (hlen2 : ns2.length ≤ 8)
    (h : ∀ lo vs3 ns3 k h' tk, Keeps s.heap h' → IntsAre vs3 ns3 → ns3.Perm ns → s.heap.get? lo = none → h'.get? lo = some (listOf vs3.toArray k) → Q (.ref lo) { s with heap := h', toks := tk }) :
    wpAny (model PR w) A (call (.ref 63) [.ref l, .ref l2]) Q E s := by
  obtain ⟨X, ⟨prg, loose, mean, mg, mb, T⟩, hh, hroom, hun⟩ := C
  obtain ⟨_, dp, fr, gd, un⟩ := A
  cases hh
  replace hroom : dp + 2 < recursionLimit := hroom
  replace hun : un + 60 < cLine := hun
  refine own_call [(Str.ofString "cards", .ref l), (Str.ofString "numbers", .ref l2)] X T (by k_is) (by k_is) (by (show dp < _); omega) (BindsTo.of_eq rfl) (locs rfl) (fun L h₁ tk F N => ?_) (by decide) rfl rfl rfl
  k_fold
  have hvl := hi.length
  (repeat' (first | (k_unfold; (try dsimp only)) | ((fail_if_success (with_reducible show wpAny _ _ (PySem.exec (PySem.Stmt.While _ _ _ _) _) _ _ _)); (fail_if_success (with_reducible show wpAny _ _ (PySem.exec (PySem.Stmt.For _ _ _ _ _) _) _ _ _)); (fail_if_success (with_reducible show wpAny _ _ (PySem.pyIter _) _ _ _)); (fail_if_success (with_reducible show wpAny _ _ (PySem.setItem _ _ _) _ _ _)); first | ((k_dflt ((with_reducible show wpAny _ _ (call (Value.builtin "len") [Value.ref _]) _ _ _); (rename News _ _ _ _ => N9q); (refine len_news N9q (by k_memK) (by assumption) (by omega) ?_)))) | ((k_dflt ((with_reducible show wpAny _ _ (call (Value.type _) [Value.int _ _, Value.int _ _]) _ _ _); (refine rng2 (by assumption) (by assumption) ?_); intro _ _ _ _ _ _ _ _ _))) | walk1 | (dsimp only; walk1) | (leave1; try dsimp only))))
  refine For_invV s.heap rfl rfl ?_
  (repeat' (first | (k_unfold; (try dsimp only)) | ((fail_if_success (with_reducible show wpAny _ _ (PySem.exec (PySem.Stmt.While _ _ _ _) _) _ _ _)); (fail_if_success (with_reducible show wpAny _ _ (PySem.exec (PySem.Stmt.For _ _ _ _ _) _) _ _ _)); (fail_if_success (with_reducible show wpAny _ _ (PySem.pyIter _) _ _ _)); (fail_if_success (with_reducible show wpAny _ _ (PySem.setItem _ _ _) _ _ _)); first | ((k_dflt ((with_reducible show wpAny _ _ (call (Value.builtin "len") [Value.ref _]) _ _ _); (rename News _ _ _ _ => N9q); (refine len_news N9q (by k_memK) (by assumption) (by omega) ?_)))) | ((k_dflt ((with_reducible show wpAny _ _ (call (Value.type _) [Value.int _ _, Value.int _ _]) _ _ _); (refine rng2 (by assumption) (by assumption) ?_); intro _ _ _ _ _ _ _ _ _))) | walk1 | (dsimp only; walk1) | (leave1; try dsimp only))))
  rename Fr _ _ _ _ => F1
  rename News _ _ _ _ => N1
  obtain ⟨o2, ho2, -⟩ := id hl2
  refine' for_list (σ := LE) [] (fun c => [(c.l, listOf c.vs.toArray c.k)]) (fun c => [(Str.ofString "other", .ref c.l)])
    (fun i c => ∃ ns3, IntsAre c.vs ns3 ∧ ns3.Perm ns) ⟨_, _, _⟩ ?hh ?hl ?hlc F1 N1 ?hnews ?hp0 ?hj ?turn1 ?done1
  case hh => rfl
  case hp0 => ((repeat' (first | exact List.forall_mem_nil _ | (refine List.forall_mem_cons.mpr ⟨by with_unfolding_all rfl, ?_⟩))))
  case hnews => ((repeat' (first | exact List.forall_mem_nil _ | (refine List.forall_mem_cons.mpr ⟨by k_memK, ?_⟩))))
  case hl => exact hl2.at fun o e => (Fr.keep F1) _ _ e
  case hlc => exact .inl ⟨_, ho2⟩
  case hj => exact ⟨ns, hi, .refl _⟩
  case done1 =>
    clear F1 N1
    rintro ⟨lo, vs3, k⟩ u h9 tk ⟨ns3, hi3, hp3⟩ F3 N3
    dsimp only at hi3 F3 N3 ⊢
    (repeat' (first | (k_unfold; (try dsimp only)) | ((fail_if_success (with_reducible show wpAny _ _ (PySem.exec (PySem.Stmt.While _ _ _ _) _) _ _ _)); (fail_if_success (with_reducible show wpAny _ _ (PySem.exec (PySem.Stmt.For _ _ _ _ _) _) _ _ _)); (fail_if_success (with_reducible show wpAny _ _ (PySem.pyIter _) _ _ _)); (fail_if_success (with_reducible show wpAny _ _ (PySem.setItem _ _ _) _ _ _)); first | ((k_dflt ((with_reducible show wpAny _ _ (call (Value.builtin "len") [Value.ref _]) _ _ _); (rename News _ _ _ _ => N9q); (refine len_news N9q (by k_memK) (by assumption) (by omega) ?_)))) | ((k_dflt ((with_reducible show wpAny _ _ (call (Value.type _) [Value.int _ _, Value.int _ _]) _ _ _); (refine rng2 (by assumption) (by assumption) ?_); intro _ _ _ _ _ _ _ _ _))) | walk1 | (dsimp only; walk1) | (leave1; try dsimp only))))
    exact h _ _ _ _ _ _ (Fr.keep F3) hi3 hp3 (N3 _ (.head _)).2.2 (N3 _ (.head _)).1
  case turn1 =>
  clear F1
  rintro i v ⟨lo, vs3, k⟩ u h9 tk I io hv ⟨ns3, hi3, hp3⟩ hio F3 N3 hlI -
  dsimp only at hi3 F3 N3 hlI ⊢
  simp only [List.nil_append] at N3
  have hl3 := hi3.length
  have hl4 := hp3.length_eq
  obtain ⟨q, t, rfl⟩ : ∃ (q : Int) (t : Tok), v = .int q t := ints_at hi2 i v hv
  have hne : @Ne Nat lo I := hlI _ (.head _)
  try k_fold
  (repeat' (first | (k_unfold; (try dsimp only)) | ((fail_if_success (with_reducible show wpAny _ _ (PySem.exec (PySem.Stmt.While _ _ _ _) _) _ _ _)); (fail_if_success (with_reducible show wpAny _ _ (PySem.exec (PySem.Stmt.For _ _ _ _ _) _) _ _ _)); (fail_if_success (with_reducible show wpAny _ _ (PySem.pyIter _) _ _ _)); (fail_if_success (with_reducible show wpAny _ _ (PySem.setItem _ _ _) _ _ _)); first | ((k_dflt ((with_reducible show wpAny _ _ (call (Value.builtin "len") [Value.ref _]) _ _ _); (rename News _ _ _ _ => N9q); (refine len_news N9q (by k_memK) (by assumption) (by omega) ?_)))) | ((k_dflt ((with_reducible show wpAny _ _ (call (Value.type _) [Value.int _ _, Value.int _ _]) _ _ _); (refine rng2 (by assumption) (by assumption) ?_); intro _ _ _ _ _ _ _ _ _))) | walk1 | (dsimp only; walk1) | (leave1; try dsimp only))))
  have hn0 : 0 < ns3.length := by omega
  obtain ⟨a, ha, ea⟩ := fmodB q ns3.length hn0
  obtain ⟨b, hb, eb⟩ := fmodB (q.fdiv ns3.length) ns3.length hn0
  rename Fr _ _ _ _ => F9
  rename News _ _ _ _ => N9
  simp only [ea, eb, Int.toNat_natCast] at F9 N9 ⊢
  refine' put_list (vs := vs3) (k := k) (p := a) F9 N9 ?hp ?hlt ?hz ?U ?_
  case hp => rfl
  case hlt => omega
  case hz => omega
  case U => k_upd
  intro h8 F8 N8
  (repeat' (first | (k_unfold; (try dsimp only)) | ((fail_if_success (with_reducible show wpAny _ _ (PySem.exec (PySem.Stmt.While _ _ _ _) _) _ _ _)); (fail_if_success (with_reducible show wpAny _ _ (PySem.exec (PySem.Stmt.For _ _ _ _ _) _) _ _ _)); (fail_if_success (with_reducible show wpAny _ _ (PySem.pyIter _) _ _ _)); (fail_if_success (with_reducible show wpAny _ _ (PySem.setItem _ _ _) _ _ _)); first | ((k_dflt ((with_reducible show wpAny _ _ (call (Value.builtin "len") [Value.ref _]) _ _ _); (rename News _ _ _ _ => N9q); (refine len_news N9q (by k_memK) (by assumption) (by omega) ?_)))) | ((k_dflt ((with_reducible show wpAny _ _ (call (Value.type _) [Value.int _ _, Value.int _ _]) _ _ _); (refine rng2 (by assumption) (by assumption) ?_); intro _ _ _ _ _ _ _ _ _))) | walk1 | (dsimp only; walk1) | (leave1; try dsimp only))))
  rename Fr _ _ _ _ => F7
  rename News _ _ _ _ => N7
  refine' put_list (vs := vs3.set a _) (k := k) (p := b) F7 N7 ?hp ?hlt ?hz ?U ?_
  case hp => rfl
  case hlt => rw [List.length_set]; omega
  case hz => rw [List.length_set]; omega
  case U => k_upd
  intro h6 F6 N6
  (repeat' (first | (k_unfold; (try dsimp only)) | ((fail_if_success (with_reducible show wpAny _ _ (PySem.exec (PySem.Stmt.While _ _ _ _) _) _ _ _)); (fail_if_success (with_reducible show wpAny _ _ (PySem.exec (PySem.Stmt.For _ _ _ _ _) _) _ _ _)); (fail_if_success (with_reducible show wpAny _ _ (PySem.pyIter _) _ _ _)); (fail_if_success (with_reducible show wpAny _ _ (PySem.setItem _ _ _) _ _ _)); first | ((k_dflt ((with_reducible show wpAny _ _ (call (Value.builtin "len") [Value.ref _]) _ _ _); (rename News _ _ _ _ => N9q); (refine len_news N9q (by k_memK) (by assumption) (by omega) ?_)))) | ((k_dflt ((with_reducible show wpAny _ _ (call (Value.type _) [Value.int _ _, Value.int _ _]) _ _ _); (refine rng2 (by assumption) (by assumption) ?_); intro _ _ _ _ _ _ _ _ _))) | walk1 | (dsimp only; walk1) | (leave1; try dsimp only))))
  refine' TurnP.next ⟨lo, _, k⟩ F6 N6 ?n ?c ?hp ?P
  case hp => ((repeat' (first | exact List.forall_mem_nil _ | (refine List.forall_mem_cons.mpr ⟨by with_unfolding_all rfl, ?_⟩))))
  case n => ((repeat' (first | exact List.forall_mem_nil _ | (refine List.forall_mem_cons.mpr ⟨by k_memK, ?_⟩))))
  case c => rw [hio]; exact List.forall_mem_cons.mpr ⟨(show Value.type "list" ≠ Value.type "list_iterator" by decide), List.forall_mem_nil _⟩
  case P => exact ⟨_, intsAre_set (intsAre_set hi3 _ _ _) _ _ _, (swap_perm ha hb).trans hp3⟩
end Mine
end
section
open PySem PySem.W PyProof.Rows PySem.Calls PySem.Spec
set_option maxRecDepth 100000
set_option maxHeartbeats 8000000
namespace Mine
theorem fill_C1neigh : PySem.Challenge.rw_sc0035_01.foot = 8 ∧ hd.heap_39 = hd.heap_39 := by
  w_top off
  k_fill
  exact ⟨rfl, rfl⟩

theorem c_neigh {w : World} {A : Around} {s : Shared} {Q E : Value → Shared → Prop} (C : Cx 2 w A s.heap)
    {l : Addr} {vs : List Value} {ns : List Int} (hl : s.heap.IsList l vs.toArray) (hi : IntsAre vs ns) (hlen : ns.length ≤ 8 ∧ 1 ≤ ns.length)
    (h : ∀ h' tk, Keeps s.heap h' → Q (.bool (neighF ns)) { s with heap := h', toks := tk }) :
    wpAny (model PR w) A (call (.ref 82) [.ref l]) Q E s := by
  obtain ⟨X, ⟨prg, loose, mean, mg, mb, T⟩, hh, hroom, hun⟩ := C
  obtain ⟨_, dp, fr, gd, un⟩ := A
  cases hh
  replace hroom : dp + 2 < recursionLimit := hroom
  replace hun : un + 60 < cLine := hun
  refine own_call [(Str.ofString "cards", .ref l)] X T (by k_is) (by k_is) (by (show dp < _); omega) (BindsTo.of_eq rfl) (locs rfl) (fun L h₁ tk F N => ?_) (by decide) rfl rfl rfl
  k_fold
  have hvl := hi.length
  have h2 : ∀ b h' tk, b = neighF ns → Keeps s.heap h' → Q (.bool b) { s with heap := h', toks := tk } := by rintro _ h' tk rfl k; exact h h' tk k
  (repeat' (first | (k_unfold; (try dsimp only)) | ((fail_if_success (with_reducible show wpAny _ _ (PySem.exec (PySem.Stmt.While _ _ _ _) _) _ _ _)); (fail_if_success (with_reducible show wpAny _ _ (PySem.exec (PySem.Stmt.For _ _ _ _ _) _) _ _ _)); (fail_if_success (with_reducible show wpAny _ _ (PySem.pyIter _) _ _ _)); (fail_if_success (with_reducible show wpAny _ _ (PySem.setItem _ _ _) _ _ _)); first | ((k_dflt ((with_reducible show wpAny _ _ (call (Value.type _) [Value.int _ _, Value.int _ _]) _ _ _); (refine rng2 (by assumption) (by assumption) ?_); intro _ _ _ _ _ _ _ _ _))) | walk1 | (dsimp only; walk1) | (leave1; try dsimp only))))
  refine For_invV s.heap rfl rfl ?_
  (repeat' (first | (k_unfold; (try dsimp only)) | ((fail_if_success (with_reducible show wpAny _ _ (PySem.exec (PySem.Stmt.While _ _ _ _) _) _ _ _)); (fail_if_success (with_reducible show wpAny _ _ (PySem.exec (PySem.Stmt.For _ _ _ _ _) _) _ _ _)); (fail_if_success (with_reducible show wpAny _ _ (PySem.pyIter _) _ _ _)); (fail_if_success (with_reducible show wpAny _ _ (PySem.setItem _ _ _) _ _ _)); first | ((k_dflt ((with_reducible show wpAny _ _ (call (Value.type _) [Value.int _ _, Value.int _ _]) _ _ _); (refine rng2 (by assumption) (by assumption) ?_); intro _ _ _ _ _ _ _ _ _))) | walk1 | (dsimp only; walk1) | (leave1; try dsimp only))))
  rename Fr _ _ _ _ => F1
  rename News _ _ _ _ => N1
  refine' for_range (σ := Unit) ns.length (fun j => (j : Int) + 1) [] (fun c => []) (fun c => [(Str.ofString "cards", .ref l)])
    (fun i c => ∀ j < i, neighAt ns j = true) () ?hh ?hr ?hs ?hn ?hg F1 N1 ?hnews ?hp0 ?hj ?turn1 ?done1
  case hh => rfl
  case hr => assumption
  case hs => exact small_mine (by omega) (by omega) (by omega)
  case hn => unfold PySem.Builtin.Range.rangeSize; simp only [show (1 : Int) > 0 by decide, if_true]; split <;> omega
  case hg => intro i; omega
  case hp0 => ((repeat' (first | exact List.forall_mem_nil _ | (refine List.forall_mem_cons.mpr ⟨by with_unfolding_all rfl, ?_⟩))))
  case hnews => ((repeat' (first | exact List.forall_mem_nil _ | (refine List.forall_mem_cons.mpr ⟨by k_memK, ?_⟩))))
  case hj => exact fun j hj => absurd hj (Nat.not_lt_zero _)
  case done1 =>
    clear F1
    rintro ⟨⟩ u h9 tk hall F3 N3
    dsimp only at F3 N3 ⊢
    (repeat' (first | (k_unfold; (try dsimp only)) | ((fail_if_success (with_reducible show wpAny _ _ (PySem.exec (PySem.Stmt.While _ _ _ _) _) _ _ _)); (fail_if_success (with_reducible show wpAny _ _ (PySem.exec (PySem.Stmt.For _ _ _ _ _) _) _ _ _)); (fail_if_success (with_reducible show wpAny _ _ (PySem.pyIter _) _ _ _)); (fail_if_success (with_reducible show wpAny _ _ (PySem.setItem _ _ _) _ _ _)); first | ((k_dflt ((with_reducible show wpAny _ _ (call (Value.type _) [Value.int _ _, Value.int _ _]) _ _ _); (refine rng2 (by assumption) (by assumption) ?_); intro _ _ _ _ _ _ _ _ _))) | walk1 | (dsimp only; walk1) | (leave1; try dsimp only))))
    exact h2 _ _ _ (neigh_all hall) (Fr.keep F3)
  case turn1 =>
  clear F1
  rintro j tj ⟨⟩ u h9 tk I io hj hall hio F3 N3 - -
  dsimp only at F3 N3 ⊢
  simp only [List.nil_append] at N3
  try k_fold
  (repeat' (first | (k_unfold; (try dsimp only)) | ((fail_if_success (with_reducible show wpAny _ _ (PySem.exec (PySem.Stmt.While _ _ _ _) _) _ _ _)); (fail_if_success (with_reducible show wpAny _ _ (PySem.exec (PySem.Stmt.For _ _ _ _ _) _) _ _ _)); (fail_if_success (with_reducible show wpAny _ _ (PySem.pyIter _) _ _ _)); (fail_if_success (with_reducible show wpAny _ _ (PySem.setItem _ _ _) _ _ _)); first | ((k_dflt ((with_reducible show wpAny _ _ (call (Value.type _) [Value.int _ _, Value.int _ _]) _ _ _); (refine rng2 (by assumption) (by assumption) ?_); intro _ _ _ _ _ _ _ _ _))) | walk1 | (dsimp only; walk1) | (leave1; try dsimp only))))
  · exact h2 _ _ _ (neigh_no hj (by assumption) (by assumption) (by assumption) (by assumption) (by assumption)) (Fr.keep (by assumption))
  · refine' TurnP.next () ?F ?N ?n ?c ?hp ?P
    case F => assumption
    case N => assumption
    case n => ((repeat' (first | exact List.forall_mem_nil _ | (refine List.forall_mem_cons.mpr ⟨by k_memK, ?_⟩))))
    case hp => ((repeat' (first | exact List.forall_mem_nil _ | (refine List.forall_mem_cons.mpr ⟨by with_unfolding_all rfl, ?_⟩))))
    case c => exact List.forall_mem_nil _
    case P => exact neigh_yes (by assumption) (by assumption) (by assumption) (by assumption) (by assumption) hall
end Mine
end
section
open PySem PySem.W PyProof.Rows PySem.Calls PySem.Spec
set_option maxRecDepth 100000
set_option maxHeartbeats 8000000
namespace Mine
theorem paired_ints {pz : Int → Bool} {p : Value → Bool} {R : Int → Value → Prop} (hp : ∀ n t, p (.int n t) = pz n) : ∀ {vs : List Value} {ns : List Int}, IntsAre vs ns → ∀ {ys : List Value},
    Paired (fun v y => ∃ n t, v = Value.int n t ∧ R n y) (vs.filter p) ys → Paired R (ns.filter pz) ys
  | _, _, .nil, _, .nil => .nil
  | _, _, .cons n t h, ys, q => by
    rw [List.filter_cons, hp] at q
    rw [List.filter_cons]
    by_cases e : pz n = true
    · rw [if_pos e] at q ⊢
      cases q with
      | cons a b =>
        obtain ⟨n', t', e', r⟩ := a
        cases e'
        exact .cons r (paired_ints hp h b)
    · rw [if_neg e] at q ⊢
      exact paired_ints hp h q
noncomputable def intTest (pz : Int → Bool) : Value → Bool
  | .int n _ => pz n
  | _ => false
section
variable {prog : Program} {w : World} {A : Around} {E : Value → Shared → Prop} {s₁ : Shared} {h₀ : Heap} {L : Addr} {m : Str → Option Value} {news : List (Addr × Obj)}
theorem comp_core {env : Env} {elt : PySem.Expr} {x : Str} {ifs : List PySem.Expr} {scope : Scope} {Q : Value → Shared → Prop} {o : Obj} {fp : List Addr} {P : Nat → Value → Prop} {St : Nat → Heap → Prop} {ns : List Int}
    (R : Int → Value → Prop) (pz : Int → Bool)
    (W : Walks prog w A s₁.heap.objs.size fp [s₁.heap.objs.size] ns.length P St) (hP : ∀ i v, P i v → ∃ (n : Int) (t : Tok), ns[i]? = some n ∧ v = .int n t)
    (hst : St 0 (s₁.heap.push o)) (hfp : ∀ b ∈ fp, b ≤ s₁.heap.objs.size) (hsz : ns.length ≤ 1000) (F : Fr h₀ L s₁.heap m) (N : News h₀ L s₁.heap news)
    (g1 : ∀ C n t s₂ m₂ E', n ∈ ns → s₂.heap.Ns C m₂ → m₂ x = some (.int n t) → (∀ b o, s₁.heap.get? b = some o → s₂.heap.get? b = some o) →
      wpAny (model prog w) A (forIn ifs true fun c r => if r = true then do let ok ← isTrue c (compEnv scope C env) (eval c (compEnv scope C env)); pure (ForInStep.yield ok) else pure (ForInStep.yield r))
        (fun ok s₃ => ok = pz n ∧ PySem.Keeps s₂ s₃) E' s₂)
    (g2 : ∀ C n t s₂ m₂ E', n ∈ ns → pz n = true → s₂.heap.Ns C m₂ → m₂ x = some (.int n t) → (∀ b o, s₁.heap.get? b = some o → s₂.heap.get? b = some o) →
      wpAny (model prog w) A (eval elt (compEnv scope C env)) (fun r s₃ => R n r ∧ PySem.Keeps s₂ s₃) E' s₂)
    (g3 : ∀ D ys k h' tk, Paired R (ns.filter pz) ys → (∀ p ∈ news, p.1 ≠ D) → Fr h₀ L h' m → News h₀ L h' ((D, listOf ys.toArray k) :: news) → Q (.ref D) { s₁ with heap := h', toks := tk }) :
    CompPost prog w A env scope x ifs elt Q (.ref s₁.heap.objs.size) { s₁ with heap := s₁.heap.push o } := by
  have up : ∀ (h' : Heap), (∀ b o', b ∉ [s₁.heap.objs.size] → (s₁.heap.push o).get? b = some o' → h'.get? b = some o') → ∀ b o', s₁.heap.get? b = some o' → h'.get? b = some o' :=
    fun h' hk b o' e => hk b o' (not_iter_of_old e) (Heap.get?_push_of_some _ e)
  refine ⟨intTest pz, fun v y => ∃ n t, v = Value.int n t ∧ R n y, s₁.heap.objs.size, fp, [s₁.heap.objs.size], ns.length, P, St, rfl, W, by rw [sizeLine_eq]; omega, hst, ?_, ⟨?_, ?_⟩, ?_⟩
  · intro b hb
    show b < (s₁.heap.push o).objs.size
    rw [Heap.size_push]
    exact Nat.lt_succ_of_le (hfp b hb)
  · intro C i v s₃ m₃ E' hPv hn hm hk _
    obtain ⟨n, t, e, rfl⟩ := hP i v hPv
    exact g1 C n t s₃ m₃ E' (List.mem_of_getElem? e) hn hm (up _ hk)
  · intro C i v s₃ m₃ E' hPv hp hn hm hk _
    obtain ⟨n, t, e, rfl⟩ := hP i v hPv
    exact wpAny_mono (g2 C n t s₃ m₃ E' (List.mem_of_getElem? e) hp hn hm (up _ hk)) (fun r s₄ h₄ => ⟨⟨n, t, rfl, h₄.1⟩, h₄.2⟩) fun _ _ e => e
  · intro D h' tk ys vs hnew hlD hplD hlen hPs hF hk
    have hi : IntsAre vs ns := intsAre_of hlen fun i v hv => by
      obtain ⟨n, t, e, rfl⟩ := hP i v (hPs i v hv)
      exact ⟨t, by rw [List.getD_eq_getElem?_getD, e]; rfl⟩
    have hnew1 : s₁.heap.get? D = none := by
      cases e : s₁.heap.get? D with
      | none => rfl
      | some o' => rw [Heap.get?_push_of_some _ e] at hnew; cases hnew
    obtain ⟨k, hk2⟩ := hplD
    refine g3 D ys.toList k h' tk (paired_ints (fun _ _ => rfl) hi hF) (fun p hp e => ?_) (F.keeps (up h' hk)) (News.addK F N (up h' hk) hnew1 hk2)
    have := (N p hp).1
    rw [e, hnew1] at this
    cases this
theorem comp_bytes {env : Env} {elt : PySem.Expr} {x : Str} {scope : Scope} {Q : Value → Shared → Prop} {b : Array UInt8} {tb : Tok} {ns : List Int}
    (R : Int → Value → Prop) (hh : A.handled = none) (hb : KBw.bInts b = ns) (hsz : ns.length ≤ 1000) (F : Fr h₀ L s₁.heap m) (N : News h₀ L s₁.heap news)
    (g2 : ∀ C n t s₂ m₂ E', n ∈ ns → s₂.heap.Ns C m₂ → m₂ x = some (.int n t) → (∀ b o, s₁.heap.get? b = some o → s₂.heap.get? b = some o) →
      wpAny (model prog w) A (eval elt (compEnv scope C env)) (fun r s₃ => R n r ∧ PySem.Keeps s₂ s₃) E' s₂)
    (g3 : ∀ D ys k h' tk, Paired R ns ys → (∀ p ∈ news, p.1 ≠ D) → Fr h₀ L h' m → News h₀ L h' ((D, listOf ys.toArray k) :: news) → Q (.ref D) { s₁ with heap := h', toks := tk }) :
    wpAny (model prog w) A (pyIter (.bytes b tb)) (CompPost prog w A env scope x [] elt Q) E s₁ := by
  refine KBw.pyIter_bytes ?_
  have W := KBw.walks (prog := prog) (w := w) hh s₁.heap.objs.size b tb
  rw [← KBw.ints_length, hb] at W
  refine comp_core R (fun _ => true) W ?_ ⟨_, Heap.get?_push_size _ rfl, rfl, rfl⟩ (fun b hb => by rw [List.mem_singleton.mp hb]; exact Nat.le_refl _) hsz F N ?_ (fun C n t s₂ m₂ E' a _ => g2 C n t s₂ m₂ E' a) ?_
  · rintro i v ⟨c, u, e, rfl⟩
    exact ⟨_, u, by rw [← hb]; exact KBw.ints_get e, rfl⟩
  · intro C n t s₂ m₂ E' _ _ _ _
    exact wpAny_pure ⟨rfl, s₂.heap, s₂.toks, rfl, fun _ _ e => e⟩
  · intro D ys k h' tk q
    rw [List.filter_eq_self.mpr (fun _ _ => rfl)] at q
    exact g3 D ys k h' tk q
theorem comp_list {env : Env} {elt : PySem.Expr} {x : Str} {scope : Scope} {Q : Value → Shared → Prop} {l : Addr} {vs : List Value} {ns : List Int}
    (R : Int → Value → Prop) (hh : A.handled = none) (hl : s₁.heap.IsList l vs.toArray) (hi : IntsAre vs ns) (hsz : ns.length ≤ 1000) (F : Fr h₀ L s₁.heap m) (N : News h₀ L s₁.heap news)
    (g2 : ∀ C n t s₂ m₂ E', n ∈ ns → s₂.heap.Ns C m₂ → m₂ x = some (.int n t) → (∀ b o, s₁.heap.get? b = some o → s₂.heap.get? b = some o) →
      wpAny (model prog w) A (eval elt (compEnv scope C env)) (fun r s₃ => R n r ∧ PySem.Keeps s₂ s₃) E' s₂)
    (g3 : ∀ D ys k h' tk, Paired R ns ys → (∀ p ∈ news, p.1 ≠ D) → Fr h₀ L h' m → News h₀ L h' ((D, listOf ys.toArray k) :: news) → Q (.ref D) { s₁ with heap := h', toks := tk }) :
    wpAny (model prog w) A (pyIter (.ref l)) (CompPost prog w A env scope x [] elt Q) E s₁ := by
  have hlt : l < s₁.heap.objs.size := by obtain ⟨_, e, _⟩ := hl; exact Heap.lt_size e
  refine wpAny_pyIter_list hl ?_
  have W := Walks.list (prog := prog) (w := w) hh s₁.heap.objs.size l (Nat.ne_of_lt hlt) vs.toArray
  rw [show vs.toArray.size = ns.length by rw [List.size_toArray, hi.length]] at W
  refine comp_core R (fun _ => true) W ?_ ⟨⟨_, Heap.get?_push_size _ rfl, rfl, rfl⟩, hl.at fun o e => Heap.get?_push_of_some _ e⟩ (fun b hb => ?_) hsz F N ?_ (fun C n t s₂ m₂ E' a _ => g2 C n t s₂ m₂ E' a) ?_
  · intro i v hv
    have hv' : vs[i]? = some v := by simpa using hv
    have hi' : i < ns.length := by rw [← hi.length]; exact (List.getElem?_eq_some_iff.mp hv').1
    obtain ⟨t, ht⟩ := intsAre_at hi hi'
    rw [hv'] at ht
    cases ht
    exact ⟨_, t, by rw [List.getD_eq_getElem?_getD, List.getElem?_eq_getElem hi']; rfl, rfl⟩
  · rcases List.mem_cons.mp hb with rfl | hb
    · exact Nat.le_refl _
    · rw [List.mem_singleton.mp hb]; exact Nat.le_of_lt hlt
  · intro C n t s₂ m₂ E' _ _ _ _
    exact wpAny_pure ⟨rfl, s₂.heap, s₂.toks, rfl, fun _ _ e => e⟩
  · intro D ys k h' tk q
    rw [List.filter_eq_self.mpr (fun _ _ => rfl)] at q
    exact g3 D ys k h' tk q
end
theorem blk_B {M : Model} {A : Around} {E : Value → Shared → Prop} {s : Shared} {h₀ : Heap} {L : Addr} {m : Str → Option Value} {K : Frag} {mg mb : Str → Option Value} {p : Program} {loose : List Str} {x : Str} {pos : Pos} {v : Value} {env : Env} {Q : Value → Shared → Prop} (F : Fr h₀ L s.heap m) (X : K.In h₀) (T : TopRead p loose mg mb h₀)
    (e : nsIn K mainGlobals x = some none) (hv : bootBuiltins x = some v) (hn : x ≠ "__name__") (h : Q v s) (hg : env.globals = mainGlobals) (hb : env.builtins = builtinsNs) (hk : env.scope.kind = .function) (hx : env.kindOf x = some .globalImplicit) (hd : (x == ("__debug__" : Str)) = false) :
    wpAny M A (eval (.Name x pos) env) Q E s :=
  Name_function_global hk hx (loadGlobal_builtin (env := env) (by rw [hg]; exact T.g.keeps F.keep) (mg_none_of X T.g e) (by rw [hb]; exact T.b.keeps F.keep) ((T.builtins x hn).trans hv) h) hd
theorem blk_L {M : Model} {A : Around} {E : Value → Shared → Prop} {s : Shared} {C : Addr} {m : Str → Option Value} {x : Str} {pos : Pos} {v : Value} {env : Env} {Q : Value → Shared → Prop} (n : s.heap.Ns C m) (hC : env.locals = C) (hv : m x = some v) (h : Q v s)
    (hk : env.scope.kind = .function) (hx : env.kindOf x = some .local) (hd : (x == ("__debug__" : Str)) = false) :
    wpAny M A (eval (.Name x pos) env) Q E s := wpAny_Name (wpAny_loadName_local hk hx (hC ▸ n) hv h) hd
end Mine
end
section
open PySem PySem.W PyProof.Rows PySem.Calls PySem.Spec
set_option maxRecDepth 100000
set_option maxHeartbeats 8000000
namespace Mine
theorem fill_C1text : PySem.Challenge.rw_sc0035_01.foot = 8 ∧ hd.heap_39 = hd.heap_39 := by
  w_top off
  k_fill
  exact ⟨rfl, rfl⟩
theorem str_app (a : Nat) (l : List Nat) : (one a ++ txt [] ++ txt l : Str) = txt (a :: l) := by
  show (⟨(#[a] ++ #[]) ++ l.toArray⟩ : Str) = ⟨(a :: l).toArray⟩
  simp
theorem join_txt : ∀ l : List Nat, PySem.Txt.join (PySem.Str.ofString "") (l.map one) = txt l := by
  intro l
  show Builtin.Str.glued (PySem.Str.ofString "") (l.map one) = _
  rw [StrLaws.glued_eq_join]
  have g : ∀ (r : List Nat) (a : Nat), PySem.Str.join (PySem.Str.ofString "") ((a :: r).map one) = txt (a :: r) := by
    intro r
    induction r with
    | nil => intro a; rfl
    | cons b r ih =>
      intro a
      show (one a ++ PySem.Str.ofString "" ++ PySem.Str.join (PySem.Str.ofString "") ((b :: r).map one) : Str) = _
      rw [ih b]
      exact str_app a (b :: r)
  cases l with
  | nil => rfl
  | cons a r => exact g r a
theorem carried_ones : ∀ {ds : List Nat} {ys : List Value}, Paired (fun n v => Carried v (.str (one (Int.toNat n)))) (ds.map fun (d : Nat) => ((65 + d : Nat) : Int)) ys → CarriedAll ys (ds.map fun d => PyData.str (one (65 + d)))
  | [], _, .nil => .nil
  | d :: r, _, .cons a b => .cons a (carried_ones b)
theorem bInts_ap {ds : List Nat} (h : ∀ d ∈ ds, d < 16) : KBw.bInts (ap ds) = ds.map fun (d : Nat) => ((65 + d : Nat) : Int) := by
  unfold ap KBw.bInts
  simp only [List.map_map]
  refine List.map_congr_left fun d hd => ?_
  have := h d hd
  simp only [Function.comp]
  rw [UInt8.toNat_ofNat']; omega
theorem val16_fold (ds : List Nat) : (ds.map fun (d : Nat) => (d : Int)).foldl (fun a n => 16 * a + n) 0 = ((val16 ds : Nat) : Int) := by
  have g : ∀ (ds : List Nat) (a : Nat), (ds.map fun (d : Nat) => (d : Int)).foldl (fun a n => 16 * a + n) (a : Int) = ((ds.foldl (fun a d => 16 * a + d) a : Nat) : Int) := by
    intro ds
    induction ds with
    | nil => intro a; rfl
    | cons d r ih =>
      intro a
      simp only [List.map_cons, List.foldl_cons]
      rw [← ih]; congr 1
  exact g ds 0
theorem c_text {w : World} {A : Around} {s : Shared} {Q E : Value → Shared → Prop} (C : Cx 2 w A s.heap)
    {l : Addr} {vs : List Value} {ns : List Int} (hl : s.heap.IsList l vs.toArray) (hi : IntsAre vs ns) {ds : List Nat} (he : ns = ds.map fun (d : Nat) => (d : Int)) (hlen : ds.length ≤ 8) (hd : ∀ d ∈ ds, d < 16) (h0 : ds.head? ≠ some 0)
    (h : ∀ t h' tk, Keeps s.heap h' → Q (.str (txt (ds.map fun n => 65 + n)) t) { s with heap := h', toks := tk }) :
    wpAny (model PR w) A (call (.ref 94) [.ref l]) Q E s := by
  obtain ⟨X, ⟨prg, loose, mean, mg, mb, T⟩, hh, hroom, hun⟩ := C
  obtain ⟨_, dp, fr, gd, un⟩ := A
  cases hh
  replace hroom : dp + 2 < recursionLimit := hroom
  replace hun : un + 60 < cLine := hun
  refine own_call [(Str.ofString "cards", .ref l)] X T (by k_is) (by k_is) (by (show dp < _); omega) (BindsTo.of_eq rfl) (locs rfl) (fun L h₁ tk F N => ?_) (by decide) rfl rfl rfl
  k_fold
  have hvl := hi.length
  have hnum : (-(ns.foldl (fun a n => 16 * a + n) 0)).natAbs = val16 ds := by
    rw [he, val16_fold]; simp
  (repeat' (first | (k_unfold; (try dsimp only)) | ((fail_if_success (with_reducible show wpAny _ _ (PySem.exec (PySem.Stmt.While _ _ _ _) _) _ _ _)); (fail_if_success (with_reducible show wpAny _ _ (PySem.exec (PySem.Stmt.For _ _ _ _ _) _) _ _ _)); (fail_if_success (with_reducible show wpAny _ _ (PySem.pyIter _) _ _ _)); (fail_if_success (with_reducible show wpAny _ _ (PySem.setItem _ _ _) _ _ _)); first | (((with_reducible show wpAny _ _ (eval (Expr.Name _ _) (compEnv _ _ _)) _ _ _); k_dflt (refine blk_B (by assumption) (by assumption) (by k_asm) (by k_is) (by boot_fast) (by decide) ?_ (by rfl) (by rfl) (by rfl) (by rfl) (by decide); k_whole))) | ((k_dflt ((with_reducible show wpAny _ _ (call (Value.ref 49) _) _ _ _); (refine c_ap (by (exact ⟨Frag.In.keeps (by assumption) (Fr.keep (by assumption)), ⟨_, _, _, _, _, Top.keeps (by assumption) (Fr.keep (by assumption))⟩, rfl, by (simp only [Around.deeper, Around.in1]; omega), by (simp only [Around.deeper, Around.in1]; omega)⟩)) (by assumption) (by assumption) (by assumption) (by assumption) ?_; intro _ _ _ k9q; (rename Fr _ _ _ _ => F9q); (rename News _ _ _ _ => N9q); (have F8q := Fr.keepsK F9q k9q); (have N8q := News.keepsK N9q k9q); clear F9q N9q k9q)))) | ((k_dflt ((with_reducible show wpAny _ _ (call (Value.ref 89) _) _ _ _); (refine c_number (by (exact ⟨Frag.In.keeps (by assumption) (Fr.keep (by assumption)), ⟨_, _, _, _, _, Top.keeps (by assumption) (Fr.keep (by assumption))⟩, rfl, by (simp only [Around.deeper, Around.in1]; omega), by (simp only [Around.deeper, Around.in1]; omega)⟩)) (by exact Heap.IsList.at (by assumption) (fun o e => (Fr.keep (by assumption)) _ _ e)) (by assumption) ?_; intro _ _ _ k9q; (rename Fr _ _ _ _ => F9q); (rename News _ _ _ _ => N9q); (have F8q := Fr.keepsK F9q k9q); (have N8q := News.keepsK N9q k9q); clear F9q N9q k9q)))) | ((k_dflt ((with_reducible show wpAny _ _ (call (Value.type _) [Value.int _ _, Value.int _ _]) _ _ _); (refine rng2 (by assumption) (by assumption) ?_); intro _ _ _ _ _ _ _ _ _))) | walk1 | (dsimp only; walk1) | (leave1; try dsimp only))))
  rename Fr _ _ _ _ => F9
  rename News _ _ _ _ => N9
  refine comp_bytes (fun n v => Carried v (.str (one (Int.toNat n)))) rfl (bInts_ap hd) (by simp; omega) F9 N9 ?_ ?_
  · intro C n t s₂ m₂ E' hn hns hm hk
    obtain ⟨d, hd1, rfl⟩ := List.mem_map.mp hn
    have hd2 := hd d hd1
    (repeat' (first | (k_unfold; (try dsimp only)) | ((fail_if_success (with_reducible show wpAny _ _ (PySem.exec (PySem.Stmt.While _ _ _ _) _) _ _ _)); (fail_if_success (with_reducible show wpAny _ _ (PySem.exec (PySem.Stmt.For _ _ _ _ _) _) _ _ _)); (fail_if_success (with_reducible show wpAny _ _ (PySem.pyIter _) _ _ _)); (fail_if_success (with_reducible show wpAny _ _ (PySem.setItem _ _ _) _ _ _)); first | (((with_reducible show wpAny _ _ (eval (Expr.Name _ _) (compEnv _ _ _)) _ _ _); k_dflt (refine blk_B (by assumption) (by assumption) (by k_asm) (by k_is) (by boot_fast) (by decide) ?_ (by rfl) (by rfl) (by rfl) (by rfl) (by decide); k_whole))) | ((k_dflt ((with_reducible show wpAny _ _ (call (Value.ref 49) _) _ _ _); (refine c_ap (by (exact ⟨Frag.In.keeps (by assumption) (Fr.keep (by assumption)), ⟨_, _, _, _, _, Top.keeps (by assumption) (Fr.keep (by assumption))⟩, rfl, by (simp only [Around.deeper, Around.in1]; omega), by (simp only [Around.deeper, Around.in1]; omega)⟩)) (by assumption) (by assumption) (by assumption) (by assumption) ?_; intro _ _ _ k9q; (rename Fr _ _ _ _ => F9q); (rename News _ _ _ _ => N9q); (have F8q := Fr.keepsK F9q k9q); (have N8q := News.keepsK N9q k9q); clear F9q N9q k9q)))) | ((k_dflt ((with_reducible show wpAny _ _ (call (Value.ref 89) _) _ _ _); (refine c_number (by (exact ⟨Frag.In.keeps (by assumption) (Fr.keep (by assumption)), ⟨_, _, _, _, _, Top.keeps (by assumption) (Fr.keep (by assumption))⟩, rfl, by (simp only [Around.deeper, Around.in1]; omega), by (simp only [Around.deeper, Around.in1]; omega)⟩)) (by exact Heap.IsList.at (by assumption) (fun o e => (Fr.keep (by assumption)) _ _ e)) (by assumption) ?_; intro _ _ _ k9q; (rename Fr _ _ _ _ => F9q); (rename News _ _ _ _ => N9q); (have F8q := Fr.keepsK F9q k9q); (have N8q := News.keepsK N9q k9q); clear F9q N9q k9q)))) | ((k_dflt ((with_reducible show wpAny _ _ (call (Value.type _) [Value.int _ _, Value.int _ _]) _ _ _); (refine rng2 (by assumption) (by assumption) ?_); intro _ _ _ _ _ _ _ _ _))) | walk1 | (dsimp only; walk1) | (leave1; try dsimp only))))
    all_goals first | exact .str _ _ | exact ⟨s₂.heap, _, rfl, fun _ _ e => e⟩ | exact ⟨.str _ _, s₂.heap, _, rfl, fun _ _ e => e⟩
  · intro D ys k h' tk hy hne F7 N7
    (repeat' (first | (k_unfold; (try dsimp only)) | ((fail_if_success (with_reducible show wpAny _ _ (PySem.exec (PySem.Stmt.While _ _ _ _) _) _ _ _)); (fail_if_success (with_reducible show wpAny _ _ (PySem.exec (PySem.Stmt.For _ _ _ _ _) _) _ _ _)); (fail_if_success (with_reducible show wpAny _ _ (PySem.pyIter _) _ _ _)); (fail_if_success (with_reducible show wpAny _ _ (PySem.setItem _ _ _) _ _ _)); first | (((with_reducible show wpAny _ _ (eval (Expr.Name _ _) (compEnv _ _ _)) _ _ _); k_dflt (refine blk_B (by assumption) (by assumption) (by k_asm) (by k_is) (by boot_fast) (by decide) ?_ (by rfl) (by rfl) (by rfl) (by rfl) (by decide); k_whole))) | ((k_dflt ((with_reducible show wpAny _ _ (call (Value.ref 49) _) _ _ _); (refine c_ap (by (exact ⟨Frag.In.keeps (by assumption) (Fr.keep (by assumption)), ⟨_, _, _, _, _, Top.keeps (by assumption) (Fr.keep (by assumption))⟩, rfl, by (simp only [Around.deeper, Around.in1]; omega), by (simp only [Around.deeper, Around.in1]; omega)⟩)) (by assumption) (by assumption) (by assumption) (by assumption) ?_; intro _ _ _ k9q; (rename Fr _ _ _ _ => F9q); (rename News _ _ _ _ => N9q); (have F8q := Fr.keepsK F9q k9q); (have N8q := News.keepsK N9q k9q); clear F9q N9q k9q)))) | ((k_dflt ((with_reducible show wpAny _ _ (call (Value.ref 89) _) _ _ _); (refine c_number (by (exact ⟨Frag.In.keeps (by assumption) (Fr.keep (by assumption)), ⟨_, _, _, _, _, Top.keeps (by assumption) (Fr.keep (by assumption))⟩, rfl, by (simp only [Around.deeper, Around.in1]; omega), by (simp only [Around.deeper, Around.in1]; omega)⟩)) (by exact Heap.IsList.at (by assumption) (fun o e => (Fr.keep (by assumption)) _ _ e)) (by assumption) ?_; intro _ _ _ k9q; (rename Fr _ _ _ _ => F9q); (rename News _ _ _ _ => N9q); (have F8q := Fr.keepsK F9q k9q); (have N8q := News.keepsK N9q k9q); clear F9q N9q k9q)))) | ((k_dflt ((with_reducible show wpAny _ _ (call (Value.type _) [Value.int _ _, Value.int _ _]) _ _ _); (refine rng2 (by assumption) (by assumption) ?_); intro _ _ _ _ _ _ _ _ _))) | walk1 | (dsimp only; walk1) | (leave1; try dsimp only))))
    refine KT.join_1 (l := ds) (g := fun d => one (65 + d)) ⟨_, (N7 _ (.head _)).1, rfl, k, rfl⟩ (carried_ones hy) (fun _ _ => rfl) (by omega) ?_
    intro t' k' _
    rw [show (ds.map fun d => one (65 + d)) = (ds.map fun d => 65 + d).map one by rw [List.map_map]; rfl, join_txt]
    exact h _ _ _ (Fr.keep F7)
end Mine
end
section
open PySem PySem.W PyProof.Rows PySem.Calls PySem.Spec
set_option maxRecDepth 100000
set_option maxHeartbeats 8000000
namespace Mine
theorem own_callC {prog : Program} {w : World} {A : Around} {s : Shared} {K : Frag} {p : Program} {loose : List Str} {mean : ExcName → Option Value} {mg mb : Str → Option Value} {Q E : Value → Shared → Prop}
    {f : Addr} {oc : Value} {od : Option Addr} {osl : Array (Option Value)} {name qual : Str} {params : Arguments} {body : List Stmt} {scope : Scope} {dV kV doc pm cdv ct : Value} {an : Option Addr} {vals : List Value} (binds : List (Str × Value))
    (X : Frag.In K s.heap) (T : Top p loose mean mg mb s.heap) (ho : K.lookup f = some ⟨oc, od, .func (fnOf name qual params body scope dV kV doc pm an cdv ct), osl⟩) (hcd : codeIn K cdv qual = true) (hroom : A.depth < recursionLimit)
    (hbind : BindsTo s (fnOf name qual params body scope dV kV doc pm an cdv ct) ⟨vals, []⟩ binds)
    (hkind : ∀ n, ∀ x ∈ binds, scope.names.lookup x.1 = some .local ∨ (scope.names.lookup x.1 = some .cell ∧ ((cellsFrom n scope.names []).lookup x.1).isSome = true))
    (hnd : ((cellsFrom 0 scope.names []).map (·.1)).Nodup)
    (h : ∀ L h₁ tk cells, Fr s.heap L h₁ (bindL (envOfC qual scope L f cdv).kindOf binds fun _ => none) → News s.heap L h₁ cells →
      CellsAre (bindC (envOfC qual scope L f cdv).kindOf binds fun _ => none) (cellsFrom (L + 1) scope.names []) cells →
      wpAny (model prog w) (A.deeper (envOfC qual scope L f cdv)) (execs body (envOfC qual scope L f cdv)) (fun fl s' => Q (match fl with | .ret v => v | _ => .none) s') (fun _ _ => False) { s with heap := h₁, toks := tk })
    (hco : scope.isCoroutine = false) (hgen : scope.isGenerator = false) (hk : scope.kind = .function) :
    wpAny (model prog w) A (call (.ref f) vals) Q E s := by
  refine wpAny_call (codeAny_call_function (fd := fnOf name qual params body scope dV kV doc pm an cdv ct) hroom (X _ _ ho) rfl hco hgen rfl (codeRec_of X hcd) (hbind _ _ _ _ ?_))
  refine wpAny_newFunctionEnv_cells hk (hkind _) fun env' he s' x => ?_
  subst he
  refine ⟨T.nolimit.keeps x.toInCall.keep, codeAny_func ?_⟩
  obtain ⟨h₁, tk, rfl, _⟩ := x.done
  have hk₁ := x.toInCall.keep
  obtain ⟨cells, NC, Y⟩ := Cl.news (h₀ := s.heap) (Nat.le_refl _) fun n c hm => ⟨x.cell n c (lookup_of_mem_nodup (cellsFrom_names scope.names 0 (s.heap.objs.size + 1) [] [] rfl ▸ hnd) hm), x.above n c hm⟩
  exact wpAny_mono (h s.heap.objs.size h₁ tk cells ⟨x.toInCall.ns, fun b o e => hk₁ b o e, Nat.le_refl _⟩ (fun p hp => ⟨(NC p hp).1, (NC p hp).2.1, (NC p hp).2.2⟩) Y) (fun fl s' q => q) fun _ _ x => x.elim
section
variable {prog : Program} {w : World} {A : Around} {E : Value → Shared → Prop} {s₁ : Shared} {h₀ : Heap} {L : Addr} {m : Str → Option Value} {news : List (Addr × Obj)}
noncomputable def PostC (prog : Program) (w : World) (A : Around) (env : Env) (scope : Scope) (cl : List (Str × Addr)) (x : Str) (ifs : List PySem.Expr) (elt : PySem.Expr) (p : Value → Bool) (F : Value → Value → Prop) (Q : Value → Shared → Prop) (it : Value) (s₂ : Shared) : Prop :=
  ∃ I fp wr n P St, it = .ref I ∧ Walks prog w A I fp wr n P St ∧ n ≤ sizeLine ∧ St 0 s₂.heap ∧ (∀ b ∈ fp, b < s₂.heap.objs.size) ∧
      QuietOnC prog w A env scope cl x ifs elt wr P p F s₂ ∧
      (∀ D h' tk ys (vs : List Value), s₂.heap.get? D = none → h'.IsList D ys → h'.PlainList D ys → vs.length = n → (∀ j v, vs[j]? = some v → P j v) → Paired F (vs.filter p) ys.toList →
        (∀ b o, b ∉ wr → s₂.heap.get? b = some o → h'.get? b = some o) → Q (.ref D) { s₂ with heap := h', toks := tk })
theorem comp_coreC {env : Env} {elt : PySem.Expr} {x : Str} {ifs : List PySem.Expr} {scope : Scope} {cl : List (Str × Addr)} {Q : Value → Shared → Prop} {o : Obj} {fp : List Addr} {P : Nat → Value → Prop} {St : Nat → Heap → Prop} {ns : List Int}
    (R : Int → Value → Prop) (pz : Int → Bool)
    (W : Walks prog w A s₁.heap.objs.size fp [s₁.heap.objs.size] ns.length P St) (hP : ∀ i v, P i v → ∃ (n : Int) (t : Tok), ns[i]? = some n ∧ v = .int n t)
    (hst : St 0 (s₁.heap.push o)) (hfp : ∀ b ∈ fp, b ≤ s₁.heap.objs.size) (hsz : ns.length ≤ 1000) (F : Fr h₀ L s₁.heap m) (N : News h₀ L s₁.heap news)
    (g1 : ∀ C n t s₂ m₂ E', n ∈ ns → s₂.heap.Ns C m₂ → m₂ x = some (.int n t) → Fr h₀ L s₂.heap m → News h₀ L s₂.heap news →
      wpAny (model prog w) A (forIn ifs true fun c r => if r = true then do let ok ← isTrue c (compEnvC scope cl C env) (eval c (compEnvC scope cl C env)); pure (ForInStep.yield ok) else pure (ForInStep.yield r))
        (fun ok s₃ => ok = pz n ∧ PySem.Keeps s₂ s₃) E' s₂)
    (g2 : ∀ C n t s₂ m₂ E', n ∈ ns → pz n = true → s₂.heap.Ns C m₂ → m₂ x = some (.int n t) → Fr h₀ L s₂.heap m → News h₀ L s₂.heap news →
      wpAny (model prog w) A (eval elt (compEnvC scope cl C env)) (fun r s₃ => R n r ∧ PySem.Keeps s₂ s₃) E' s₂)
    (g3 : ∀ D ys k h' tk, Paired R (ns.filter pz) ys → (∀ p ∈ news, p.1 ≠ D) → Fr h₀ L h' m → News h₀ L h' ((D, listOf ys.toArray k) :: news) → Q (.ref D) { s₁ with heap := h', toks := tk }) :
    PostC prog w A env scope cl x ifs elt (intTest pz) (fun v y => ∃ n t, v = Value.int n t ∧ R n y) Q (.ref s₁.heap.objs.size) { s₁ with heap := s₁.heap.push o } := by
  have up : ∀ (h' : Heap), (∀ b o', b ∉ [s₁.heap.objs.size] → (s₁.heap.push o).get? b = some o' → h'.get? b = some o') → ∀ b o', s₁.heap.get? b = some o' → h'.get? b = some o' :=
    fun h' hk b o' e => hk b o' (not_iter_of_old e) (Heap.get?_push_of_some _ e)
  refine ⟨s₁.heap.objs.size, fp, [s₁.heap.objs.size], ns.length, P, St, rfl, W, by rw [sizeLine_eq]; omega, hst, ?_, ⟨?_, ?_⟩, ?_⟩
  · intro b hb
    show b < (s₁.heap.push o).objs.size
    rw [Heap.size_push]
    exact Nat.lt_succ_of_le (hfp b hb)
  · intro C i v s₃ m₃ E' _ hPv hn hm hk _
    obtain ⟨n, t, e, rfl⟩ := hP i v hPv
    exact g1 C n t s₃ m₃ E' (List.mem_of_getElem? e) hn hm (F.keeps (up _ hk)) (N.grown (up _ hk))
  · intro C i v s₃ m₃ E' _ hPv hp hn hm hk _
    obtain ⟨n, t, e, rfl⟩ := hP i v hPv
    exact wpAny_mono (g2 C n t s₃ m₃ E' (List.mem_of_getElem? e) hp hn hm (F.keeps (up _ hk)) (N.grown (up _ hk))) (fun r s₄ h₄ => ⟨⟨n, t, rfl, h₄.1⟩, h₄.2⟩) fun _ _ e => e
  · intro D h' tk ys vs hnew hlD hplD hlen hPs hF hk
    have hi : IntsAre vs ns := intsAre_of hlen fun i v hv => by
      obtain ⟨n, t, e, rfl⟩ := hP i v (hPs i v hv)
      exact ⟨t, by rw [List.getD_eq_getElem?_getD, e]; rfl⟩
    have hnew1 : s₁.heap.get? D = none := by
      cases e : s₁.heap.get? D with
      | none => rfl
      | some o' => rw [Heap.get?_push_of_some _ e] at hnew; cases hnew
    obtain ⟨k, hk2⟩ := hplD
    refine g3 D ys.toList k h' tk (paired_ints (fun _ _ => rfl) hi hF) (fun p hp e => ?_) (F.keeps (up h' hk)) (News.addK F N (up h' hk) hnew1 hk2)
    have := (N p hp).1
    rw [e, hnew1] at this
    cases this
theorem comp_listC {env : Env} {elt : PySem.Expr} {x : Str} {scope : Scope} {cl : List (Str × Addr)} {Q : Value → Shared → Prop} {l : Addr} {vs : List Value} {ns : List Int}
    (R : Int → Value → Prop) (hh : A.handled = none) (hl : s₁.heap.IsList l vs.toArray) (hi : IntsAre vs ns) (hsz : ns.length ≤ 1000) (F : Fr h₀ L s₁.heap m) (N : News h₀ L s₁.heap news)
    (g2 : ∀ C n t s₂ m₂ E', n ∈ ns → s₂.heap.Ns C m₂ → m₂ x = some (.int n t) → Fr h₀ L s₂.heap m → News h₀ L s₂.heap news →
      wpAny (model prog w) A (eval elt (compEnvC scope cl C env)) (fun r s₃ => R n r ∧ PySem.Keeps s₂ s₃) E' s₂)
    (g3 : ∀ D ys k h' tk, Paired R ns ys → (∀ p ∈ news, p.1 ≠ D) → Fr h₀ L h' m → News h₀ L h' ((D, listOf ys.toArray k) :: news) → Q (.ref D) { s₁ with heap := h', toks := tk }) :
    wpAny (model prog w) A (pyIter (.ref l)) (PostC prog w A env scope cl x [] elt (intTest fun _ => true) (fun v y => ∃ n t, v = Value.int n t ∧ R n y) Q) E s₁ := by
  have hlt : l < s₁.heap.objs.size := by obtain ⟨_, e, _⟩ := hl; exact Heap.lt_size e
  refine wpAny_pyIter_list hl ?_
  have W := Walks.list (prog := prog) (w := w) hh s₁.heap.objs.size l (Nat.ne_of_lt hlt) vs.toArray
  rw [show vs.toArray.size = ns.length by rw [List.size_toArray, hi.length]] at W
  refine comp_coreC R (fun _ => true) W ?_ ⟨⟨_, Heap.get?_push_size _ rfl, rfl, rfl⟩, hl.at fun o e => Heap.get?_push_of_some _ e⟩ (fun b hb => ?_) hsz F N ?_ (fun C n t s₂ m₂ E' a _ => g2 C n t s₂ m₂ E' a) ?_
  · intro i v hv
    have hv' : vs[i]? = some v := by simpa using hv
    have hi' : i < ns.length := by rw [← hi.length]; exact (List.getElem?_eq_some_iff.mp hv').1
    obtain ⟨t, ht⟩ := intsAre_at hi hi'
    rw [hv'] at ht
    cases ht
    exact ⟨_, t, by rw [List.getD_eq_getElem?_getD, List.getElem?_eq_getElem hi']; rfl, rfl⟩
  · rcases List.mem_cons.mp hb with rfl | hb
    · exact Nat.le_refl _
    · rw [List.mem_singleton.mp hb]; exact Nat.le_of_lt hlt
  · intro C n t s₂ m₂ E' _ _ _ _ _
    exact wpAny_pure ⟨rfl, s₂.heap, s₂.toks, rfl, fun _ _ e => e⟩
  · intro D ys k h' tk q
    rw [List.filter_eq_self.mpr (fun _ _ => rfl)] at q
    exact g3 D ys k h' tk q
theorem LC_C {s : Shared} {env : Env} {elt iter : PySem.Expr} {x : Str} {px : Pos} {ifs : List PySem.Expr} {scope : Scope} {cl : List (Str × Addr)} {pos : Pos} {Q : Value → Shared → Prop} (R : Int → Value → Prop) (pz : Int → Bool)
    (hclos : closureFor scope env = pure cl) (hcell : ∀ y ∈ scope.names, y.2 ≠ .cell) (hkind : scope.kind = .function)
    (hnames : ∀ y ∈ scope.names, y.2 = .local → scope.names.lookup y.1 = some .local) (hx : scope.names.lookup x = some .local)
    (hs : ∀ x, foldedSetIterable iter env x = pure x)
    (h : wpAny (model prog w) A (eval iter env) (fun xv s₁ => wpAny (model prog w) A (pyIter xv) (PostC prog w A env scope cl x ifs elt (intTest pz) (fun v y => ∃ n t, v = Value.int n t ∧ R n y) Q) E s₁) E s) :
    wpAny (model prog w) A (eval (.ListComp elt [⟨.Name x px, iter, ifs, 0⟩] scope pos) env) Q E s :=
  wpAny_ListComp_free _ _ hclos hcell hkind hnames hx h hs
theorem blk_C {M : Model} {A : Around} {E : Value → Shared → Prop} {s : Shared} {env : Env} {c : Addr} {o : Obj} {y : Str} {pos : Pos} {v : Value} {Q : Value → Shared → Prop} (N : News h₀ L s.heap news) (hc : env.cells.lookup y = some c) (hm : (c, o) ∈ news) (hd : o.data = .cell (some v)) (h : Q v s)
    (hk : env.scope.kind = .function) (hx : env.kindOf y = some .cell) (hb : (y == ("__debug__" : Str)) = false) :
    wpAny M A (eval (.Name y pos) env) Q E s := wpAny_Name (wpAny_loadName_cell hk hx hc ⟨o, N.get hm, hd⟩ h) hb
end
end Mine
end
section
open PySem PySem.W PyProof.Rows PySem.Calls PySem.Spec
set_option maxRecDepth 100000
set_option maxHeartbeats 8000000
namespace Mine
theorem all_eq {a b : List Int} (h : a.length = b.length) : ((List.range a.length).all fun j => a.getD j 0 == b.getD j 0) = decide (a = b) := by
  rw [Bool.eq_iff_iff, List.all_eq_true, decide_eq_true_iff]
  constructor
  · intro hh
    apply List.ext_getElem h
    intro i h1 h2
    have := hh i (List.mem_range.mpr h1)
    rw [List.getD_eq_getElem?_getD, List.getElem?_eq_getElem h1, List.getD_eq_getElem?_getD, List.getElem?_eq_getElem h2] at this
    simpa using this
  · rintro rfl i _
    exact beq_self_eq_true _
theorem ints_elt {vs : List Value} {ns : List Int} (hi : IntsAre vs ns) {j : Nat} (h1 : j < vs.toArray.size) : ∃ t : Tok, vs.toArray[j] = .int (ns.getD j 0) t := by
  have h2 : j < vs.length := by simpa using h1
  obtain ⟨t, ht⟩ := intsAre_at hi (p := j) (by rw [← hi.length]; exact h2)
  refine ⟨t, ?_⟩
  rw [List.getElem?_eq_getElem h2] at ht
  simpa using ht
section
variable {prog : Program} {w : World} {A : Around} {E : Value → Shared → Prop} {s : Shared}
theorem eq_ints {l l9 : Addr} {vs vs9 : List Value} {ns ns9 : List Int} {Q : Value → Shared → Prop} (hl : s.heap.IsList l vs.toArray) (hi : IntsAre vs ns) (hl9 : s.heap.IsList l9 vs9.toArray) (hi9 : IntsAre vs9 ns9) (hu : A.units < cLine)
    (h : Q (.bool (decide (ns = ns9))) s) : wpAny (model prog w) A (compareOp .Eq (.ref l) (.ref l9)) Q E s := by
  have e1 := hi.length
  have e2 := hi9.length
  by_cases hz : ns.length = ns9.length
  · refine SeqAt.RcAt.lists (e := fun j => ns.getD j 0 == ns9.getD j 0) hl hl9 (by simp; omega) hu (fun j h1 h2 => ?_) prog w E Q ?_
    · obtain ⟨t, ht⟩ := ints_elt hi h1
      obtain ⟨u, hu'⟩ := ints_elt hi9 h2
      rw [ht, hu']
      exact SeqAt.EqAt.int_int _ _ _ _
    · rw [List.size_toArray, e1, all_eq hz]; exact h
  · refine SeqAt.RcAt.lists_lengths hl hl9 (by simp; omega) hu prog w E Q ?_
    rw [decide_eq_false (fun e => hz (by rw [e]))] at h
    exact h
end
theorem paired_map {g : Int → Int} : ∀ {ns : List Int} {ys : List Value}, Paired (fun n y => ∃ t : Tok, y = Value.int (g n) t) ns ys → IntsAre ys (ns.map g)
  | _, _, .nil => .nil
  | _, _, .cons ⟨t, e⟩ r => by subst e; exact .cons _ t (paired_map r)
theorem rangeL_sorted (j : Nat) : (rangeL 0 1 j).Pairwise (· ≤ ·) := by
  unfold rangeL
  rw [List.pairwise_map]
  exact List.Pairwise.imp (fun {a b} h => by omega) List.pairwise_lt_range
theorem sorted_is {a b c : List Int} (p : a.Perm b) (o : a.Pairwise (· ≤ ·)) (oc : c.Pairwise (· ≤ ·)) : decide (a = c) = decide (b.Perm c) := by
  rw [decide_eq_decide]
  constructor
  · rintro rfl; exact p.symm
  · intro q
    exact List.Perm.eq_of_pairwise (le := (· ≤ ·)) (fun a b _ _ h1 h2 => Int.le_antisymm h1 h2) o oc (p.trans q)
/-- each hue once -/
noncomputable def onceF (ns2 ns : List Int) (j : Nat) : Bool := decide ((ns.map fun n => ns2.getD (n - 1).toNat 0).Perm (rangeL 0 1 j))
end Mine
end
section
open PySem PySem.W PyProof.Rows PySem.Calls PySem.Spec
set_option maxRecDepth 100000
set_option maxHeartbeats 8000000
namespace Mine
theorem fill_C1once : PySem.Challenge.rw_sc0035_01.foot = 8 ∧ hd.heap_39 = hd.heap_39 := by
  w_top off
  k_fill
  exact ⟨rfl, rfl⟩
theorem c_once {w : World} {A : Around} {s : Shared} {Q E : Value → Shared → Prop} (C : Cx 2 w A s.heap)
    {l l2 : Addr} {vs vs2 : List Value} {ns ns2 : List Int} {j : Nat} {tj : Tok} (hl : s.heap.IsList l vs.toArray) (hi : IntsAre vs ns) (hlen : ns.length ≤ 8) (hl2 : s.heap.IsList l2 vs2.toArray) (hi2 : IntsAre vs2 ns2) (hlen2 : ns2.length ≤ 8) (hns : ∀ n ∈ ns, 1 ≤ n ∧ n ≤ (ns2.length : Int)) (hj : j ≤ 8)
    (h : ∀ h' tk, Keeps s.heap h' → Q (.bool (onceF ns2 ns j)) { s with heap := h', toks := tk }) :
    wpAny (model PR w) A (call (.ref 75) [.ref l, .ref l2, .int (j : Int) tj]) Q E s := by
  obtain ⟨X, ⟨prg, loose, mean, mg, mb, T⟩, hh, hroom, hun⟩ := C
  obtain ⟨_, dp, fr, gd, un⟩ := A
  cases hh
  replace hroom : dp + 2 < recursionLimit := hroom
  replace hun : un + 60 < cLine := hun
  refine own_callC [(Str.ofString "cards", .ref l), (Str.ofString "row", .ref l2), (Str.ofString "wheel", .int (j : Int) tj)] X T (by k_is) (by k_is) (by (show dp < _); omega) (BindsTo.of_eq rfl) (fun n x hx => ?_) (by decide +kernel) (fun L h₁ tk cells F N Y => ?_) rfl rfl rfl
  · simp only [List.mem_cons, List.not_mem_nil, or_false] at hx
    rcases hx with rfl | rfl | rfl
    · exact .inl rfl
    · exact .inr ⟨rfl, rfl⟩
    · exact .inl rfl
  k_cells Y
  try dsimp only
  rename (Obj.data _ = _) => dc
  replace dc : _ = Data.cell (some (Value.ref l2)) := dc
  k_unmd
  k_fold
  have hvl := hi.length
  (repeat' (first | (k_unfold; (try dsimp only)) | ((fail_if_success (with_reducible show wpAny _ _ (PySem.eval (PySem.Expr.ListComp _ _ _ _) _) _ _ _)); first | ((k_dflt ((with_reducible show wpAny _ _ (call (Value.type _) [Value.ref _]) _ _ _); (refine list_range _ (by rfl) (by assumption) (by assumption) (by assumption) (by exact small_mine (by omega) (by omega) (by omega)) (by assumption) (by omega) ?_; intro _ _ _ _ _ _ l1q _ _; (try k_lt l1q))))) | (((with_reducible show wpAny _ _ (eval (Expr.Name _ _) (compEnvC _ _ _ _)) _ _ _); k_dflt (first | (refine blk_C (by assumption) (by rfl) (by k_mem) (by assumption) ?_ (by rfl) (by rfl) (by decide)) | (refine blk_L (by assumption) (by rfl) (by assumption) ?_ (by rfl) (by rfl) (by decide))))) | ((k_dflt ((with_reducible show wpAny _ _ (call (Value.type _) [Value.int _ _, Value.int _ _]) _ _ _); (refine rng2 (by assumption) (by assumption) ?_); intro _ _ _ _ _ _ _ _ _))) | walk1 | (dsimp only; walk1) | (leave1; try dsimp only))))
  refine' LC_C (fun n v => ∃ t, v = .int (ns2.getD (n - 1).toNat 0) t) (fun _ => true) ?hclos ?hcell ?hkind ?hnames ?hx ?hs ?_
  case hclos => with_unfolding_all rfl
  case hcell => decide
  case hkind => rfl
  case hnames => decide
  case hx => rfl
  case hs => intro _; rfl
  (repeat' (first | (k_unfold; (try dsimp only)) | ((fail_if_success (with_reducible show wpAny _ _ (PySem.exec (PySem.Stmt.While _ _ _ _) _) _ _ _)); (fail_if_success (with_reducible show wpAny _ _ (PySem.exec (PySem.Stmt.For _ _ _ _ _) _) _ _ _)); (fail_if_success (with_reducible show wpAny _ _ (PySem.pyIter _) _ _ _)); (fail_if_success (with_reducible show wpAny _ _ (PySem.setItem _ _ _) _ _ _)); first | ((k_dflt ((with_reducible show wpAny _ _ (call (Value.type _) [Value.ref _]) _ _ _); (refine list_range _ (by rfl) (by assumption) (by assumption) (by assumption) (by exact small_mine (by omega) (by omega) (by omega)) (by assumption) (by omega) ?_; intro _ _ _ _ _ _ l1q _ _; (try k_lt l1q))))) | (((with_reducible show wpAny _ _ (eval (Expr.Name _ _) (compEnvC _ _ _ _)) _ _ _); k_dflt (first | (refine blk_C (by assumption) (by rfl) (by k_mem) (by assumption) ?_ (by rfl) (by rfl) (by decide)) | (refine blk_L (by assumption) (by rfl) (by assumption) ?_ (by rfl) (by rfl) (by decide))))) | ((k_dflt ((with_reducible show wpAny _ _ (call (Value.type _) [Value.int _ _, Value.int _ _]) _ _ _); (refine rng2 (by assumption) (by assumption) ?_); intro _ _ _ _ _ _ _ _ _))) | walk1 | (dsimp only; walk1) | (leave1; try dsimp only))))
  rename Fr _ _ _ _ => F9
  rename News _ _ _ _ => N9
  refine comp_listC _ rfl (hl.at fun o e => (Fr.keep F9) _ _ e) hi (by omega) F9 N9 ?_ ?_
  · clear F9 N9
    intro C n t s₂ m₂ E' hn hns2 hm F9 N9
    have hnn := hns n hn
    (repeat' (first | (k_unfold; (try dsimp only)) | ((fail_if_success (with_reducible show wpAny _ _ (PySem.exec (PySem.Stmt.While _ _ _ _) _) _ _ _)); (fail_if_success (with_reducible show wpAny _ _ (PySem.exec (PySem.Stmt.For _ _ _ _ _) _) _ _ _)); (fail_if_success (with_reducible show wpAny _ _ (PySem.pyIter _) _ _ _)); (fail_if_success (with_reducible show wpAny _ _ (PySem.setItem _ _ _) _ _ _)); first | ((k_dflt ((with_reducible show wpAny _ _ (call (Value.type _) [Value.ref _]) _ _ _); (refine list_range _ (by rfl) (by assumption) (by assumption) (by assumption) (by exact small_mine (by omega) (by omega) (by omega)) (by assumption) (by omega) ?_; intro _ _ _ _ _ _ l1q _ _; (try k_lt l1q))))) | (((with_reducible show wpAny _ _ (eval (Expr.Name _ _) (compEnvC _ _ _ _)) _ _ _); k_dflt (first | (refine blk_C (by assumption) (by rfl) (by k_mem) (by assumption) ?_ (by rfl) (by rfl) (by decide)) | (refine blk_L (by assumption) (by rfl) (by assumption) ?_ (by rfl) (by rfl) (by decide))))) | ((k_dflt ((with_reducible show wpAny _ _ (call (Value.type _) [Value.int _ _, Value.int _ _]) _ _ _); (refine rng2 (by assumption) (by assumption) ?_); intro _ _ _ _ _ _ _ _ _))) | walk1 | (dsimp only; walk1) | (leave1; try dsimp only))))
    exact ⟨s₂.heap, _, rfl, fun _ _ e => e⟩
  · intro D ys k h' tk hy hne F7 N7
    have hys := paired_map (g := fun n => ns2.getD (n - 1).toNat 0) hy
    (repeat' (first | (k_unfold; (try dsimp only)) | ((fail_if_success (with_reducible show wpAny _ _ (PySem.call (PySem.Value.builtin "sorted") _) _ _ _)); first | ((k_dflt ((with_reducible show wpAny _ _ (call (Value.type _) [Value.ref _]) _ _ _); (refine list_range _ (by rfl) (by assumption) (by assumption) (by assumption) (by exact small_mine (by omega) (by omega) (by omega)) (by assumption) (by omega) ?_; intro _ _ _ _ _ _ l1q _ _; (try k_lt l1q))))) | (((with_reducible show wpAny _ _ (eval (Expr.Name _ _) (compEnvC _ _ _ _)) _ _ _); k_dflt (first | (refine blk_C (by assumption) (by rfl) (by k_mem) (by assumption) ?_ (by rfl) (by rfl) (by decide)) | (refine blk_L (by assumption) (by rfl) (by assumption) ?_ (by rfl) (by rfl) (by decide))))) | ((k_dflt ((with_reducible show wpAny _ _ (call (Value.type _) [Value.int _ _, Value.int _ _]) _ _ _); (refine rng2 (by assumption) (by assumption) ?_); intro _ _ _ _ _ _ _ _ _))) | walk1 | (dsimp only; walk1) | (leave1; try dsimp only))))
    refine' kso_sorted F7 N7 (isList_news N7 (.head _)) hys ?_ ?_
    · rw [List.length_map]; omega
    intro D2 vs3 ns3 c h8 F8 N8 l8 hi8 hlen8 hperm8 hsrt8 _
    clear F7 N7 hy hys
    have hrs : PySem.Builtin.Range.rangeSize 0 (j : Int) 1 = (j : Int) := by
      unfold PySem.Builtin.Range.rangeSize; simp only [show (1 : Int) > 0 by decide, if_true]; split <;> omega
    (repeat' (first | (k_unfold; (try dsimp only)) | ((fail_if_success (with_reducible show wpAny _ _ (PySem.compareOp _ _ _) _ _ _)); first | ((k_dflt ((with_reducible show wpAny _ _ (call (Value.type _) [Value.ref _]) _ _ _); (refine list_range _ (by rfl) (by assumption) (by assumption) (by assumption) (by exact small_mine (by omega) (by omega) (by omega)) (by assumption) (by omega) ?_; intro _ _ _ _ _ _ l1q _ _; (try k_lt l1q))))) | (((with_reducible show wpAny _ _ (eval (Expr.Name _ _) (compEnvC _ _ _ _)) _ _ _); k_dflt (first | (refine blk_C (by assumption) (by rfl) (by k_mem) (by assumption) ?_ (by rfl) (by rfl) (by decide)) | (refine blk_L (by assumption) (by rfl) (by assumption) ?_ (by rfl) (by rfl) (by decide))))) | ((k_dflt ((with_reducible show wpAny _ _ (call (Value.type _) [Value.int _ _, Value.int _ _]) _ _ _); (refine rng2 (by assumption) (by assumption) ?_); intro _ _ _ _ _ _ _ _ _))) | walk1 | (dsimp only; walk1) | (leave1; try dsimp only))))
    rename News _ _ _ _ => N6
    refine eq_ints (isList_news N6 (by k_memK)) hi8 (isList_news N6 (.head _)) (by assumption) (by simp only [Around.deeper, Around.in1]; omega) ?_
    rw [sorted_is hperm8 hsrt8 (rangeL_sorted j)]
    (repeat' (first | (k_unfold; (try dsimp only)) | ((fail_if_success (with_reducible show wpAny _ _ (PySem.exec (PySem.Stmt.While _ _ _ _) _) _ _ _)); (fail_if_success (with_reducible show wpAny _ _ (PySem.exec (PySem.Stmt.For _ _ _ _ _) _) _ _ _)); (fail_if_success (with_reducible show wpAny _ _ (PySem.pyIter _) _ _ _)); (fail_if_success (with_reducible show wpAny _ _ (PySem.setItem _ _ _) _ _ _)); first | ((k_dflt ((with_reducible show wpAny _ _ (call (Value.type _) [Value.ref _]) _ _ _); (refine list_range _ (by rfl) (by assumption) (by assumption) (by assumption) (by exact small_mine (by omega) (by omega) (by omega)) (by assumption) (by omega) ?_; intro _ _ _ _ _ _ l1q _ _; (try k_lt l1q))))) | (((with_reducible show wpAny _ _ (eval (Expr.Name _ _) (compEnvC _ _ _ _)) _ _ _); k_dflt (first | (refine blk_C (by assumption) (by rfl) (by k_mem) (by assumption) ?_ (by rfl) (by rfl) (by decide)) | (refine blk_L (by assumption) (by rfl) (by assumption) ?_ (by rfl) (by rfl) (by decide))))) | ((k_dflt ((with_reducible show wpAny _ _ (call (Value.type _) [Value.int _ _, Value.int _ _]) _ _ _); (refine rng2 (by assumption) (by assumption) ?_); intro _ _ _ _ _ _ _ _ _))) | walk1 | (dsimp only; walk1) | (leave1; try dsimp only))))
    exact h _ _ (Fr.keep (by assumption))
end Mine
end
section
open PySem PySem.W PyProof.Rows PySem.Calls PySem.Spec
set_option maxRecDepth 100000
set_option maxHeartbeats 8000000
namespace Mine
noncomputable def paintB (sa va : UInt64) (wh ca : Nat) (x : UInt64) : Bool :=
  match hsvF x sa va with
  | none => false
  | some (R, G, B) =>
    match rgbF R G B with
    | none => false
    | some (H, S, V) => decide (isEq S sa = true) && decide (isEq V va = true) && decide (Float64.isFinite (hueI H wh) = true) && decide ((Flt.toInt Float64.truncOf (hueI H wh)).natAbs < 2 ^ 64) && decide ((Flt.toInt Float64.truncOf (hueI H wh)).fmod wh = ((ca % wh : Nat) : Int))
theorem paint_of {sa va : UInt64} {wh ca : Nat} {x : UInt64} (h : paintB sa va wh ca x = true) : PaintOk sa va wh ca x := by
  unfold paintB at h
  split at h
  · cases h
  rename_i R G B e1
  split at h
  · cases h
  rename_i H S V e2
  simp only [Bool.and_eq_true, decide_eq_true_eq] at h
  exact ⟨R, G, B, H, S, V, e1, e2, h.1.1.1.1, h.1.1.1.2, h.1.1.2, h.1.2, h.2⟩
noncomputable def wheelB (a b : Nat) : Bool := (List.range 6).all fun i => (List.range 7).all fun j => paintB (fq (a + 1) 4) (fq (b + 1) 4) (i + 2) (j + 1) (fq (j + 1) (i + 2))
theorem wheelB_of {a b : Nat} (h : wheelB a b = true) : ∀ wh ca : Nat, 2 ≤ wh → wh ≤ 7 → 1 ≤ ca → ca ≤ 7 → PaintOk (fq (a + 1) 4) (fq (b + 1) 4) wh ca (fq ca wh) := by
  intro wh ca h1 h2 h3 h4
  unfold wheelB at h
  rw [List.all_eq_true] at h
  have h5 := h (wh - 2) (List.mem_range.mpr (by omega))
  rw [List.all_eq_true] at h5
  have h6 := h5 (ca - 1) (List.mem_range.mpr (by omega))
  rw [show wh - 2 + 2 = wh by omega, show ca - 1 + 1 = ca by omega] at h6
  exact paint_of h6
theorem wh00 : wheelB 0 0 = true := by decide +kernel
theorem wh01 : wheelB 0 1 = true := by decide +kernel
theorem wh02 : wheelB 0 2 = true := by decide +kernel
theorem wh03 : wheelB 0 3 = true := by decide +kernel
theorem wh10 : wheelB 1 0 = true := by decide +kernel
theorem wh11 : wheelB 1 1 = true := by decide +kernel
theorem wh12 : wheelB 1 2 = true := by decide +kernel
theorem wh13 : wheelB 1 3 = true := by decide +kernel
theorem wh20 : wheelB 2 0 = true := by decide +kernel
theorem wh21 : wheelB 2 1 = true := by decide +kernel
theorem wh22 : wheelB 2 2 = true := by decide +kernel
theorem wh23 : wheelB 2 3 = true := by decide +kernel
theorem wh30 : wheelB 3 0 = true := by decide +kernel
theorem wh31 : wheelB 3 1 = true := by decide +kernel
theorem wh32 : wheelB 3 2 = true := by decide +kernel
theorem wh33 : wheelB 3 3 = true := by decide +kernel
theorem paint_all : ∀ a b : Nat, a < 4 → b < 4 → ∀ wh ca : Nat, 2 ≤ wh → wh ≤ 7 → 1 ≤ ca → ca ≤ 7 → PaintOk (fq (a + 1) 4) (fq (b + 1) 4) wh ca (fq ca wh)
  | 0, 0, _, _ => wheelB_of wh00
  | 0, 1, _, _ => wheelB_of wh01
  | 0, 2, _, _ => wheelB_of wh02
  | 0, 3, _, _ => wheelB_of wh03
  | 1, 0, _, _ => wheelB_of wh10
  | 1, 1, _, _ => wheelB_of wh11
  | 1, 2, _, _ => wheelB_of wh12
  | 1, 3, _, _ => wheelB_of wh13
  | 2, 0, _, _ => wheelB_of wh20
  | 2, 1, _, _ => wheelB_of wh21
  | 2, 2, _, _ => wheelB_of wh22
  | 2, 3, _, _ => wheelB_of wh23
  | 3, 0, _, _ => wheelB_of wh30
  | 3, 1, _, _ => wheelB_of wh31
  | 3, 2, _, _ => wheelB_of wh32
  | 3, 3, _, _ => wheelB_of wh33
  | a + 4, _, h, _ => by omega
  | _, b + 4, _, h => by omega
end Mine
end
section
open PySem PySem.W PyProof.Rows PySem.Calls PySem.Spec
set_option maxRecDepth 100000
set_option maxHeartbeats 8000000
namespace Mine
theorem inf_q : ∀ a : Nat, a < 4 → ¬ Float64.isInf (fq (a + 1) 4) = true := by decide +kernel
theorem div_q {prog : Program} {w : World} {A : Around} {E : Value → Shared → Prop} {s : Shared} {z : Int} {t u : Tok} {Q : Value → Shared → Prop} (a : Nat) (ha : a < 4) (hz : z + 1 = ((a + 1 : Nat) : Int))
    (h : Q (.float (fq (a + 1) 4) s.toks) { s with toks := s.toks + 1 }) : wpAny (model prog w) A (binaryOp .Div (.int (z + 1) t) (.int 4 u)) Q E s := by
  have e := fq_of (a := z + 1) (b := 4) (p := a + 1) (q := 4) hz rfl
  refine AutoIntOps.truediv_2 (by decide) ?_ ?_
  · rw [e]; exact inf_q a ha
  · rw [e]; exact h
theorem div_q2 {prog : Program} {w : World} {A : Around} {E : Value → Shared → Prop} {s : Shared} {z : Int} {t u : Tok} {Q : Value → Shared → Prop} (hz : 0 ≤ z ∧ z < 4)
    (h : Q (.float (fq (z.toNat + 1) 4) s.toks) { s with toks := s.toks + 1 }) : wpAny (model prog w) A (binaryOp .Div (.int (z + 1) t) (.int 4 u)) Q E s :=
  div_q z.toNat (by omega) (by omega) h
theorem fmod4 (z : Int) : 0 ≤ z.fmod 4 ∧ z.fmod 4 < 4 := ⟨Int.fmod_nonneg_of_pos z (by decide), Int.fmod_lt_of_pos z (by decide)⟩
end Mine
end
section
open PySem PySem.W PyProof.Rows PySem.Calls PySem.Spec
set_option maxRecDepth 100000
set_option maxHeartbeats 8000000
namespace Mine
noncomputable def permAll (test : List Nat → Bool) : Nat → List Nat → List Nat → Bool
  | 0, _, acc => test acc.reverse
  | f + 1, rem, acc => rem.all fun c => permAll test f (rem.erase c) (c :: acc)
theorem permAll_of {test : List Nat → Bool} : ∀ (f : Nat) (rem acc p : List Nat), permAll test f rem acc = true → rem.length = f → p.Perm rem → test (acc.reverse ++ p) = true
  | 0, rem, acc, p, h, hl, hp => by
    have : rem = [] := List.length_eq_zero_iff.mp hl
    subst this
    rw [List.Perm.eq_nil hp, List.append_nil]
    exact h
  | f + 1, rem, acc, p, h, hl, hp => by
    cases p with
    | nil => have := hp.length_eq; simp [hl] at this
    | cons c q =>
      have hc : c ∈ rem := hp.subset (.head _)
      simp only [permAll, List.all_eq_true] at h
      have h2 := h c hc
      have hq : q.Perm (rem.erase c) := by
        have := hp.erase c
        simpa using this
      have := permAll_of f (rem.erase c) (c :: acc) q h2 (by rw [List.length_erase_of_mem hc, hl]; rfl) hq
      simpa using this
noncomputable def txN (l : List Nat) : List Nat := l.map (65 + ·)
noncomputable def upN (n d : Nat) : List Nat := (List.range (n + 1 - d)).map (d + ·)
noncomputable def downN (d : Nat) : List Nat := ((List.range (d - 1)).map (1 + ·)).reverse
end Mine
end
section
open PySem PySem.W PyProof.Rows PySem.Calls PySem.Spec
set_option maxRecDepth 100000
set_option maxHeartbeats 8000000
namespace Mine
noncomputable def minN (a b : Nat) : Nat := bif Nat.ble a b then a else b
noncomputable def costN (x y : Nat) : Nat := bif Nat.beq x y then 0 else 2
theorem minN_eq (a b : Nat) : ((minN a b : Nat) : Int) = min (a : Int) (b : Int) := by
  unfold minN
  cases h : Nat.ble a b
  · have : ¬ a ≤ b := fun e => by rw [Nat.ble_eq_true_of_le e] at h; cases h
    simp only [cond_false]; omega
  · have := Nat.le_of_ble_eq_true h
    simp only [cond_true]; omega
theorem costN_eq (a b : Nat) : ((costN a b : Nat) : Int) = cost a b := by
  unfold costN cost
  cases h : Nat.beq a b
  · rw [if_neg (Nat.ne_of_beq_eq_false h)]; rfl
  · rw [if_pos (Nat.eq_of_beq_eq_true h)]; rfl
noncomputable def rowStepN (bc : Nat) : Nat → Nat → Nat → List Nat → List Nat → List Nat × Nat × Nat
  | d, r, m, c :: as, x :: xs =>
    let r' := minN (Nat.add (minN r x) 2) (Nat.add d (costN bc c))
    match rowStepN bc x r' (minN r' m) as xs with
    | (y1, y2, y3) => (r' :: y1, y2, y3)
  | _, r, m, _, _ => ([], r, m)
noncomputable def bigN : Nat := 9223372036854775807
noncomputable def castsI (l : List Nat) : List Int := l.map fun (n : Nat) => (n : Int)
theorem rowStepN_eq (bc : Nat) : ∀ (as xs : List Nat) (d r m : Nat), rowStep bc d r m as (castsI xs) = (castsI (rowStepN bc d r m as xs).1, ((rowStepN bc d r m as xs).2.1 : Int), ((rowStepN bc d r m as xs).2.2 : Int))
  | [], xs, d, r, m => by cases xs <;> rfl
  | c :: as, [], d, r, m => rfl
  | c :: as, x :: xs, d, r, m => by
    have e1 : min (min (r : Int) x + 2) ((d : Int) + cost bc c) = ((minN (Nat.add (minN r x) 2) (Nat.add d (costN bc c)) : Nat) : Int) := by
      rw [minN_eq, ← costN_eq]
      show _ = min (((minN r x + 2 : Nat)) : Int) (((d + costN bc c : Nat)) : Int)
      rw [Int.natCast_add, Int.natCast_add, minN_eq]; rfl
    have e2 : ∀ r' : Nat, (if (r' : Int) < (m : Int) then (r' : Int) else m) = ((minN r' m : Nat) : Int) := by
      intro r'; rw [minN_eq]; split <;> omega
    simp only [castsI, List.map_cons, rowStep, rowStepN]
    rw [e1, e2]
    have ih := rowStepN_eq bc as xs x (minN (Nat.add (minN r x) 2) (Nat.add d (costN bc c))) (minN (minN (Nat.add (minN r x) 2) (Nat.add d (costN bc c))) m)
    simp only [castsI] at ih
    rw [ih]
noncomputable def rowsN (mc : Nat) (a : List Nat) : Nat → List Nat → List Nat → Nat → Nat
  | i, bc :: bs, row, _ =>
    match rowStepN bc (Nat.mul i 2) (Nat.mul i 2) bigN a row with
    | (y1, y2, y3) => bif Nat.ble y3 mc then rowsN mc a (Nat.add i 1) bs y1 y2 else Nat.add mc 1
  | _, [], _, res => res
theorem rowsN_eq (mc : Nat) (a : List Nat) : ∀ (bs : List Nat) (i : Nat) (row : List Nat) (res : Nat), rowsF mc a i bs (castsI row) res = ((rowsN mc a i bs row res : Nat) : Int)
  | [], i, row, res => by simp only [rowsF, rowsN]
  | bc :: bs, i, row, res => by
    have e : ((i : Int) * 2) = ((Nat.mul i 2 : Nat) : Int) := by show _ = ((i * 2 : Nat) : Int); omega
    have eb : bigM = ((bigN : Nat) : Int) := rfl
    simp only [rowsF, rowsN]
    rw [e, eb, rowStepN_eq]
    generalize rowStepN bc (Nat.mul i 2) (Nat.mul i 2) bigN a row = y
    obtain ⟨y1, y2, y3⟩ := y
    simp only
    cases h : Nat.ble y3 mc
    · have : ¬ y3 ≤ mc := fun e => by rw [Nat.ble_eq_true_of_le e] at h; cases h
      rw [if_pos (by omega)]; rfl
    · have := Nat.le_of_ble_eq_true h
      rw [if_neg (by omega)]
      exact rowsN_eq mc a bs (i + 1) y1 y2
noncomputable def eqbL : List Nat → List Nat → Bool
  | [], [] => true
  | a :: as, b :: bs => bif Nat.beq a b then eqbL as bs else false
  | _, _ => false
noncomputable def row0N : Nat → Nat → List Nat
  | 0, _ => []
  | n + 1, k => k :: row0N n (Nat.add k 2)
theorem row0N_eq : ∀ (n k : Nat), castsI (row0N n k) = (List.range n).map fun (i : Nat) => (k : Int) + 2 * (i : Int)
  | 0, k => rfl
  | n + 1, k => by
    rw [List.range_succ_eq_map]
    simp only [row0N, castsI, List.map_cons, List.map_map]
    have := row0N_eq n (k + 2)
    simp only [castsI] at this
    show _ :: (row0N n (k + 2)).map _ = _
    rw [this]
    exact List.cons_eq_cons.mpr ⟨by simp, List.map_congr_left fun i _ => by simp only [Function.comp]; omega⟩
noncomputable def coreN (a b : List Nat) (mc : Nat) : Nat :=
  bif Nat.ble (Nat.mul (Nat.sub b.length a.length) 2) mc then rowsN mc a 0 b (row0N a.length 2) 0 else Nat.add mc 1
theorem coreN_eq {a b : List Nat} {mc : Nat} : core a b mc = ((coreN a b mc : Nat) : Int) := by
  unfold core coreN
  have e0 : ((List.range a.length).map fun (i : Nat) => 2 * ((i : Int) + 1)) = castsI (row0N a.length 2) := by
    rw [row0N_eq]; exact List.map_congr_left fun i _ => by omega
  rw [e0, show (0 : Int) = ((0 : Nat) : Int) from rfl, rowsN_eq]
  have e : Nat.mul (Nat.sub b.length a.length) 2 = (b.length - a.length) * 2 := rfl
  rw [e]
  cases h : Nat.ble ((b.length - a.length) * 2) mc
  · have : ¬ (b.length - a.length) * 2 ≤ mc := fun e => by rw [Nat.ble_eq_true_of_le e] at h; cases h
    rw [if_pos (by omega)]; rfl
  · have := Nat.le_of_ble_eq_true h
    rw [if_neg (by omega)]; rfl
noncomputable def strip2N (a b : List Nat) (mc : Nat) : Nat :=
  match a, b with
  | [], b => Nat.mul 2 b.length
  | a, [] => Nat.mul 2 a.length
  | a, b => bif Nat.ble a.length b.length then coreN a b mc else coreN b a mc
theorem strip2N_eq {a b : List Nat} {mc : Nat} : strip2 a b mc = ((strip2N a b mc : Nat) : Int) := by
  cases a with
  | nil => simp only [strip2, strip2N]; rw [if_pos (.inl rfl)]; show _ = ((2 * b.length : Nat) : Int); simp
  | cons x a =>
    cases b with
    | nil => simp only [strip2, strip2N]; rw [if_pos (.inr rfl)]; show _ = ((2 * (x :: a).length : Nat) : Int); simp
    | cons y b =>
      simp only [strip2, strip2N]
      rw [if_neg (by simp only [List.length_cons]; omega)]
      cases h : Nat.ble (x :: a).length (y :: b).length
      · have : ¬ (x :: a).length ≤ (y :: b).length := fun e => by rw [Nat.ble_eq_true_of_le e] at h; cases h
        rw [if_pos (by omega)]; exact coreN_eq
      · have := Nat.le_of_ble_eq_true h
        rw [if_neg (by omega)]; exact coreN_eq
noncomputable def dropEq : List Nat → List Nat → List Nat × List Nat
  | x :: a, y :: b => bif Nat.beq x y then dropEq a b else (x :: a, y :: b)
  | a, b => (a, b)
theorem dropEq_eq : ∀ (a b : List Nat), dropEq a b = (a.drop (cpl a b), b.drop (cpl a b))
  | [], b => by simp [dropEq, cpl]
  | x :: a, [] => by simp [dropEq, cpl]
  | x :: a, y :: b => by
    simp only [dropEq, cpl]
    cases h : Nat.beq x y
    · rw [if_neg (Nat.ne_of_beq_eq_false h)]; rfl
    · rw [if_pos (Nat.eq_of_beq_eq_true h)]; exact dropEq_eq a b
noncomputable def levN (a b : List Nat) (mc : Nat) : Nat :=
  match dropEq a b with
  | (a1, b1) => match dropEq a1.reverse b1.reverse with
    | (a2, b2) => strip2N a2.reverse b2.reverse mc
theorem levN_eq {a b : List Nat} {mc : Nat} (h : a ≠ b) : levF a b mc = ((levN a b mc : Nat) : Int) := by
  unfold levF levN
  rw [if_neg h, dropEq_eq]
  simp only
  unfold strip1
  generalize a.drop (cpl a b) = a1
  generalize b.drop (cpl a b) = b1
  rw [dropEq_eq]
  simp only
  rw [strip2N_eq, List.drop_reverse, List.drop_reverse, List.reverse_reverse, List.reverse_reverse]
theorem levN_same (a : List Nat) (mc : Nat) : levN a a mc = 0 := by
  have e : dropEq a a = ([], []) := by
    rw [dropEq_eq]
    have : cpl a a = a.length := by
      induction a with
      | nil => rfl
      | cons x a ih => simp [cpl, ih]
    rw [this, List.drop_length]
  unfold levN
  rw [e]; rfl
theorem levN_is (a b : List Nat) (mc : Nat) : levF a b mc = ((levN a b mc : Nat) : Int) := by
  by_cases h : a = b
  · subst h; rw [levN_same]; simp [levF]
  · exact levN_eq h
noncomputable def sameB (a b : Bool) : Bool := bif a then b else (bif b then false else true)
theorem sameB_of {a b : Bool} (h : sameB a b = true) : a = b := by cases a <;> cases b <;> first | rfl | cases h
noncomputable def maxN (a b : Nat) : Nat := bif Nat.ble a b then b else a
/-- each front holds neighbours: least, greatest, how many so far -/
noncomputable def nearN : Nat → Nat → Nat → List Nat → Bool
  | _, _, _, [] => true
  | lo, hi, k, c :: r => bif Nat.beq (Nat.add (minN lo c) k) (maxN hi c) then nearN (minN lo c) (maxN hi c) (Nat.add k 1) r else false
noncomputable def nearB : List Nat → Bool
  | [] => true
  | c :: r => nearN c c 1 r
noncomputable def withinN (n : Nat) (deck : List Nat) : Bool :=
  let d := deck.headD 0
  let td := txN deck
  let x := Nat.mul 2 (Nat.sub d 1)
  let y := Nat.mul 2 (Nat.sub (Nat.add n 1) d)
  bif Nat.beq (levN td (txN (upN n d)) x) x then Nat.beq (levN (txN (downN d)) td y) y else false
noncomputable def deckN (n : Nat) (deck : List Nat) : Bool := sameB (withinN n deck) (nearB deck)
theorem castsI_append (a b : List Nat) : castsI (a ++ b) = castsI a ++ castsI b := List.map_append
theorem castsI_length (a : List Nat) : (castsI a).length = a.length := List.length_map _
theorem mem_casts {a : List Nat} {z : Int} : z ∈ castsI a ↔ ∃ x ∈ a, ((x : Nat) : Int) = z := by simp [castsI]
theorem nearN_iff : ∀ (r pre : List Nat) (lo hi : Nat), pre ≠ [] → (lo : Int) = minL (castsI pre) → (hi : Int) = maxL (castsI pre) →
    (nearN lo hi pre.length r = true ↔ ∀ j, pre.length ≤ j → j < pre.length + r.length → neighAt (castsI (pre ++ r)) j = true)
  | [], pre, lo, hi, hne, h1, h2 => by
    simp only [nearN, List.length_nil, true_iff]
    intro j a b; omega
  | c :: r, pre, lo, hi, hne, h1, h2 => by
    have hc : castsI pre ≠ [] := by
      intro e; apply hne; cases pre with
      | nil => rfl
      | cons x p => cases e
    have m1 := minL_spec hc
    have m2 := maxL_spec hc
    rw [← h1] at m1
    rw [← h2] at m2
    have e1 : ((minN lo c : Nat) : Int) = minL (castsI (pre ++ [c])) := by
      rw [minN_eq]
      apply minL_of
      · rw [castsI_append, List.mem_append]
        rcases Int.le_total (lo : Int) (c : Int) with h | h
        · rw [Int.min_eq_left h]; exact .inl m1.1
        · rw [Int.min_eq_right h]; exact .inr (by simp [castsI])
      · intro a ha
        rw [castsI_append, List.mem_append] at ha
        rcases ha with ha | ha
        · have := m1.2 a ha; omega
        · have : a = (c : Int) := by simpa [castsI] using ha
          omega
    have em : ((maxN hi c : Nat) : Int) = max (hi : Int) (c : Int) := by
      unfold maxN
      cases h : Nat.ble hi c
      · have : ¬ hi ≤ c := fun e => by rw [Nat.ble_eq_true_of_le e] at h; cases h
        simp only [cond_false]; omega
      · have := Nat.le_of_ble_eq_true h
        simp only [cond_true]; omega
    have e2 : ((maxN hi c : Nat) : Int) = maxL (castsI (pre ++ [c])) := by
      rw [em]
      apply maxL_of
      · rw [castsI_append, List.mem_append]
        rcases Int.le_total (hi : Int) (c : Int) with h | h
        · rw [Int.max_eq_right h]; exact .inr (by simp [castsI])
        · rw [Int.max_eq_left h]; exact .inl m2.1
      · intro a ha
        rw [castsI_append, List.mem_append] at ha
        rcases ha with ha | ha
        · have := m2.2 a ha; omega
        · have : a = (c : Int) := by simpa [castsI] using ha
          omega
    have hat : neighAt (castsI (pre ++ c :: r)) pre.length = true ↔ Nat.add (minN lo c) pre.length = maxN hi c := by
      have et : (castsI (pre ++ c :: r)).take (pre.length + 1) = castsI (pre ++ [c]) := by
        rw [castsI, ← List.map_take]
        congr 1
        rw [show pre ++ c :: r = (pre ++ [c]) ++ r by simp, List.take_left' (by simp)]
      unfold neighAt
      rw [et, ← e1, ← e2, decide_eq_true_iff]
      show _ ↔ minN lo c + pre.length = maxN hi c
      omega
    have ih := nearN_iff r (pre ++ [c]) (minN lo c) (maxN hi c) (by simp) e1 e2
    rw [show (pre ++ [c]).length = Nat.add pre.length 1 from List.length_append, show (pre ++ [c]) ++ r = pre ++ c :: r by simp] at ih
    simp only [nearN]
    cases hb : Nat.beq (Nat.add (minN lo c) pre.length) (maxN hi c)
    · simp only [cond_false]
      constructor
      · intro h; cases h
      · intro h
        have := hat.mp (h pre.length (Nat.le_refl _) (by simp))
        exact absurd this (Nat.ne_of_beq_eq_false hb)
    · simp only [cond_true]
      rw [ih]
      have hp := hat.mpr (Nat.eq_of_beq_eq_true hb)
      constructor
      · intro h j a b
        rcases Nat.eq_or_lt_of_le a with e | e
        · rw [← e]; exact hp
        · exact h j e (by simp only [List.length_cons] at b; show j < pre.length + 1 + r.length; omega)
      · intro h j a b
        have a' : pre.length + 1 ≤ j := a
        have b' : j < pre.length + 1 + r.length := b
        exact h j (by omega) (by simp only [List.length_cons]; omega)
theorem nearB_eq (ds : List Nat) : neighF (castsI ds) = nearB ds := by
  cases ds with
  | nil => rfl
  | cons c r =>
    have h := nearN_iff r [c] c c (by simp) rfl rfl
    rw [Bool.eq_iff_iff]
    show _ ↔ nearN c c 1 r = true
    rw [show (1 : Nat) = [c].length from rfl, h, neighF, List.all_eq_true]
    constructor
    · intro h j a b
      exact h j (List.mem_range.mpr (by rw [castsI_length]; simp only [List.length_cons, List.length_nil] at a b ⊢; omega))
    · intro h j hj
      rw [List.mem_range, castsI_length] at hj
      cases j with
      | zero => simp [neighAt, castsI, maxL, minL]
      | succ j => exact h (j + 1) (by simp) (by simp only [List.length_cons, List.length_nil] at hj ⊢; omega)
noncomputable def lackN (n : Nat) (ds : List Int) : Bool := (List.range (n - 1)).all fun i => onceF (rowL n (i + 2)) (ds.take (i + 2)) (i + 2)
noncomputable def moreN (n : Nat) (deck : List Nat) (ds : List Int) : Bool := (List.range (n - 1)).all fun i =>
    let j := i + 2
    let row := rowL n j
    let last := row.getD (deck.getD (j - 1) 0 - 1) 0
    ((List.range n).all fun q => !(decide (1 ≤ q) && decide (q * j + j ≤ n)) || onceF row ((ds.drop (q * j)).take j) j) &&
      decide (last = (row.getD (maxL (ds.take (j - 1)) - 1).toNat 0 + 1).fmod j) && decide (last = (row.getD (minL (ds.take (j - 1)) - 1).toNat 0 - 1).fmod j)
noncomputable def fullN (n : Nat) (deck : List Nat) : Bool :=
  bif deckN n deck then bif sameB (lackN n (castsI deck)) (nearB deck) then bif nearB deck then moreN n deck (castsI deck) else true else false else false
theorem permAll_step {test : List Nat → Bool} {f : Nat} {rem acc : List Nat} (h : ∀ c ∈ rem, permAll test f (rem.erase c) (c :: acc) = true) : permAll test (f + 1) rem acc = true := List.all_eq_true.mpr h
theorem f5 : permAll (fullN 5) 5 [1, 2, 3, 4, 5] [] = true := by decide +kernel
theorem f6x1 : permAll (fullN 6) 5 [2, 3, 4, 5, 6] [1] = true := by decide +kernel
theorem f6x2 : permAll (fullN 6) 5 [1, 3, 4, 5, 6] [2] = true := by decide +kernel
theorem f6x3 : permAll (fullN 6) 5 [1, 2, 4, 5, 6] [3] = true := by decide +kernel
theorem f6x4 : permAll (fullN 6) 5 [1, 2, 3, 5, 6] [4] = true := by decide +kernel
theorem f6x5 : permAll (fullN 6) 5 [1, 2, 3, 4, 6] [5] = true := by decide +kernel
theorem f6x6 : permAll (fullN 6) 5 [1, 2, 3, 4, 5] [6] = true := by decide +kernel
theorem f6 : permAll (fullN 6) 6 [1, 2, 3, 4, 5, 6] [] = true := permAll_step (List.forall_mem_cons.mpr ⟨f6x1, List.forall_mem_cons.mpr ⟨f6x2, List.forall_mem_cons.mpr ⟨f6x3, List.forall_mem_cons.mpr ⟨f6x4, List.forall_mem_cons.mpr ⟨f6x5, List.forall_mem_cons.mpr ⟨f6x6, List.forall_mem_nil _⟩⟩⟩⟩⟩⟩)
theorem f7x1x2 : permAll (fullN 7) 5 [3, 4, 5, 6, 7] [2, 1] = true := by decide +kernel
theorem f7x1x3 : permAll (fullN 7) 5 [2, 4, 5, 6, 7] [3, 1] = true := by decide +kernel
theorem f7x1x4 : permAll (fullN 7) 5 [2, 3, 5, 6, 7] [4, 1] = true := by decide +kernel
theorem f7x1x5 : permAll (fullN 7) 5 [2, 3, 4, 6, 7] [5, 1] = true := by decide +kernel
theorem f7x1x6 : permAll (fullN 7) 5 [2, 3, 4, 5, 7] [6, 1] = true := by decide +kernel
theorem f7x1x7 : permAll (fullN 7) 5 [2, 3, 4, 5, 6] [7, 1] = true := by decide +kernel
theorem f7x1 : permAll (fullN 7) 6 [2, 3, 4, 5, 6, 7] [1] = true := permAll_step (List.forall_mem_cons.mpr ⟨f7x1x2, List.forall_mem_cons.mpr ⟨f7x1x3, List.forall_mem_cons.mpr ⟨f7x1x4, List.forall_mem_cons.mpr ⟨f7x1x5, List.forall_mem_cons.mpr ⟨f7x1x6, List.forall_mem_cons.mpr ⟨f7x1x7, List.forall_mem_nil _⟩⟩⟩⟩⟩⟩)
theorem f7x2x1 : permAll (fullN 7) 5 [3, 4, 5, 6, 7] [1, 2] = true := by decide +kernel
theorem f7x2x3 : permAll (fullN 7) 5 [1, 4, 5, 6, 7] [3, 2] = true := by decide +kernel
theorem f7x2x4 : permAll (fullN 7) 5 [1, 3, 5, 6, 7] [4, 2] = true := by decide +kernel
theorem f7x2x5 : permAll (fullN 7) 5 [1, 3, 4, 6, 7] [5, 2] = true := by decide +kernel
theorem f7x2x6 : permAll (fullN 7) 5 [1, 3, 4, 5, 7] [6, 2] = true := by decide +kernel
theorem f7x2x7 : permAll (fullN 7) 5 [1, 3, 4, 5, 6] [7, 2] = true := by decide +kernel
theorem f7x2 : permAll (fullN 7) 6 [1, 3, 4, 5, 6, 7] [2] = true := permAll_step (List.forall_mem_cons.mpr ⟨f7x2x1, List.forall_mem_cons.mpr ⟨f7x2x3, List.forall_mem_cons.mpr ⟨f7x2x4, List.forall_mem_cons.mpr ⟨f7x2x5, List.forall_mem_cons.mpr ⟨f7x2x6, List.forall_mem_cons.mpr ⟨f7x2x7, List.forall_mem_nil _⟩⟩⟩⟩⟩⟩)
theorem f7x3x1 : permAll (fullN 7) 5 [2, 4, 5, 6, 7] [1, 3] = true := by decide +kernel
theorem f7x3x2 : permAll (fullN 7) 5 [1, 4, 5, 6, 7] [2, 3] = true := by decide +kernel
theorem f7x3x4 : permAll (fullN 7) 5 [1, 2, 5, 6, 7] [4, 3] = true := by decide +kernel
theorem f7x3x5 : permAll (fullN 7) 5 [1, 2, 4, 6, 7] [5, 3] = true := by decide +kernel
theorem f7x3x6 : permAll (fullN 7) 5 [1, 2, 4, 5, 7] [6, 3] = true := by decide +kernel
theorem f7x3x7 : permAll (fullN 7) 5 [1, 2, 4, 5, 6] [7, 3] = true := by decide +kernel
theorem f7x3 : permAll (fullN 7) 6 [1, 2, 4, 5, 6, 7] [3] = true := permAll_step (List.forall_mem_cons.mpr ⟨f7x3x1, List.forall_mem_cons.mpr ⟨f7x3x2, List.forall_mem_cons.mpr ⟨f7x3x4, List.forall_mem_cons.mpr ⟨f7x3x5, List.forall_mem_cons.mpr ⟨f7x3x6, List.forall_mem_cons.mpr ⟨f7x3x7, List.forall_mem_nil _⟩⟩⟩⟩⟩⟩)
theorem f7x4x1 : permAll (fullN 7) 5 [2, 3, 5, 6, 7] [1, 4] = true := by decide +kernel
theorem f7x4x2 : permAll (fullN 7) 5 [1, 3, 5, 6, 7] [2, 4] = true := by decide +kernel
theorem f7x4x3 : permAll (fullN 7) 5 [1, 2, 5, 6, 7] [3, 4] = true := by decide +kernel
theorem f7x4x5 : permAll (fullN 7) 5 [1, 2, 3, 6, 7] [5, 4] = true := by decide +kernel
theorem f7x4x6 : permAll (fullN 7) 5 [1, 2, 3, 5, 7] [6, 4] = true := by decide +kernel
theorem f7x4x7 : permAll (fullN 7) 5 [1, 2, 3, 5, 6] [7, 4] = true := by decide +kernel
theorem f7x4 : permAll (fullN 7) 6 [1, 2, 3, 5, 6, 7] [4] = true := permAll_step (List.forall_mem_cons.mpr ⟨f7x4x1, List.forall_mem_cons.mpr ⟨f7x4x2, List.forall_mem_cons.mpr ⟨f7x4x3, List.forall_mem_cons.mpr ⟨f7x4x5, List.forall_mem_cons.mpr ⟨f7x4x6, List.forall_mem_cons.mpr ⟨f7x4x7, List.forall_mem_nil _⟩⟩⟩⟩⟩⟩)
theorem f7x5x1 : permAll (fullN 7) 5 [2, 3, 4, 6, 7] [1, 5] = true := by decide +kernel
theorem f7x5x2 : permAll (fullN 7) 5 [1, 3, 4, 6, 7] [2, 5] = true := by decide +kernel
theorem f7x5x3 : permAll (fullN 7) 5 [1, 2, 4, 6, 7] [3, 5] = true := by decide +kernel
theorem f7x5x4 : permAll (fullN 7) 5 [1, 2, 3, 6, 7] [4, 5] = true := by decide +kernel
theorem f7x5x6 : permAll (fullN 7) 5 [1, 2, 3, 4, 7] [6, 5] = true := by decide +kernel
theorem f7x5x7 : permAll (fullN 7) 5 [1, 2, 3, 4, 6] [7, 5] = true := by decide +kernel
theorem f7x5 : permAll (fullN 7) 6 [1, 2, 3, 4, 6, 7] [5] = true := permAll_step (List.forall_mem_cons.mpr ⟨f7x5x1, List.forall_mem_cons.mpr ⟨f7x5x2, List.forall_mem_cons.mpr ⟨f7x5x3, List.forall_mem_cons.mpr ⟨f7x5x4, List.forall_mem_cons.mpr ⟨f7x5x6, List.forall_mem_cons.mpr ⟨f7x5x7, List.forall_mem_nil _⟩⟩⟩⟩⟩⟩)
theorem f7x6x1 : permAll (fullN 7) 5 [2, 3, 4, 5, 7] [1, 6] = true := by decide +kernel
theorem f7x6x2 : permAll (fullN 7) 5 [1, 3, 4, 5, 7] [2, 6] = true := by decide +kernel
theorem f7x6x3 : permAll (fullN 7) 5 [1, 2, 4, 5, 7] [3, 6] = true := by decide +kernel
theorem f7x6x4 : permAll (fullN 7) 5 [1, 2, 3, 5, 7] [4, 6] = true := by decide +kernel
theorem f7x6x5 : permAll (fullN 7) 5 [1, 2, 3, 4, 7] [5, 6] = true := by decide +kernel
theorem f7x6x7 : permAll (fullN 7) 5 [1, 2, 3, 4, 5] [7, 6] = true := by decide +kernel
theorem f7x6 : permAll (fullN 7) 6 [1, 2, 3, 4, 5, 7] [6] = true := permAll_step (List.forall_mem_cons.mpr ⟨f7x6x1, List.forall_mem_cons.mpr ⟨f7x6x2, List.forall_mem_cons.mpr ⟨f7x6x3, List.forall_mem_cons.mpr ⟨f7x6x4, List.forall_mem_cons.mpr ⟨f7x6x5, List.forall_mem_cons.mpr ⟨f7x6x7, List.forall_mem_nil _⟩⟩⟩⟩⟩⟩)
theorem f7x7x1 : permAll (fullN 7) 5 [2, 3, 4, 5, 6] [1, 7] = true := by decide +kernel
theorem f7x7x2 : permAll (fullN 7) 5 [1, 3, 4, 5, 6] [2, 7] = true := by decide +kernel
theorem f7x7x3 : permAll (fullN 7) 5 [1, 2, 4, 5, 6] [3, 7] = true := by decide +kernel
theorem f7x7x4 : permAll (fullN 7) 5 [1, 2, 3, 5, 6] [4, 7] = true := by decide +kernel
theorem f7x7x5 : permAll (fullN 7) 5 [1, 2, 3, 4, 6] [5, 7] = true := by decide +kernel
theorem f7x7x6 : permAll (fullN 7) 5 [1, 2, 3, 4, 5] [6, 7] = true := by decide +kernel
theorem f7x7 : permAll (fullN 7) 6 [1, 2, 3, 4, 5, 6] [7] = true := permAll_step (List.forall_mem_cons.mpr ⟨f7x7x1, List.forall_mem_cons.mpr ⟨f7x7x2, List.forall_mem_cons.mpr ⟨f7x7x3, List.forall_mem_cons.mpr ⟨f7x7x4, List.forall_mem_cons.mpr ⟨f7x7x5, List.forall_mem_cons.mpr ⟨f7x7x6, List.forall_mem_nil _⟩⟩⟩⟩⟩⟩)
theorem f7 : permAll (fullN 7) 7 [1, 2, 3, 4, 5, 6, 7] [] = true := permAll_step (List.forall_mem_cons.mpr ⟨f7x1, List.forall_mem_cons.mpr ⟨f7x2, List.forall_mem_cons.mpr ⟨f7x3, List.forall_mem_cons.mpr ⟨f7x4, List.forall_mem_cons.mpr ⟨f7x5, List.forall_mem_cons.mpr ⟨f7x6, List.forall_mem_cons.mpr ⟨f7x7, List.forall_mem_nil _⟩⟩⟩⟩⟩⟩⟩)
theorem deck_full {n : Nat} (hn : 5 ≤ n ∧ n ≤ 7) {ds : List Nat} (hp : ds.Perm (List.range' 1 n)) : fullN n ds = true := by
  obtain ⟨h1, h2⟩ := hn
  have : n = 5 ∨ n = 6 ∨ n = 7 := by omega
  rcases this with rfl | rfl | rfl
  · exact permAll_of 5 _ [] ds f5 rfl hp
  · exact permAll_of 6 _ [] ds f6 rfl hp
  · exact permAll_of 7 _ [] ds f7 rfl hp
end Mine
end
section
open PySem PySem.W PyProof.Rows PySem.Calls PySem.Spec
set_option maxRecDepth 100000
set_option maxHeartbeats 8000000
namespace Mine
theorem size_of {vs : List Value} {ns : List Int} (_ : IntsAre vs ns) : ∃ n : Nat, (5 ≤ n ∧ n ≤ 7) ∧ 5 + (ns.length : Int).fmod 3 = (n : Int) := by
  have h1 := Int.fmod_nonneg_of_pos (ns.length : Int) (show (0 : Int) < 3 by decide)
  have h2 := Int.fmod_lt_of_pos (ns.length : Int) (show (0 : Int) < 3 by decide)
  exact ⟨(5 + (ns.length : Int).fmod 3).toNat, ⟨by omega, by omega⟩, by omega⟩
theorem fmod4L (z : Int) : (z.fmod 4).toNat < 4 := by have := fmod4 z; omega
theorem News.addMany {h₀ h h' : Heap} {L : Addr} {m : Str → Option Value} {news more : List (Addr × Obj)} (F : Fr h₀ L h m) (N : News h₀ L h news) (k : Keeps h h') (hm : ∀ p ∈ more, h.get? p.1 = none ∧ h'.get? p.1 = some p.2) : News h₀ L h' (news ++ more) := by
  intro p hp
  rcases List.mem_append.mp hp with q | q
  · exact News.keepsK N k p q
  · exact News.addK F N k (hm p q).1 (hm p q).2 _ (.head _)
/-- what a call has made lies elsewhere -/
theorem ne_made {h₀ h : Heap} {L a b : Addr} {o : Obj} {news : List (Addr × Obj)} (N : News h₀ L h news) (hm : (a, o) ∈ news) (hb : h.get? b = none) : b ≠ a := by
  rintro rfl
  have := (N _ hm).1
  rw [hb] at this
  cases this
section
variable {prog : Program} {w : World} {A : Around} {E : Value → Shared → Prop} {s : Shared} {env : Env} {h₀ : Heap} {body : List Stmt} {Q : Flow → Shared → Prop}
/-- behind a turn of a for over a list, its target any -/
noncomputable def TurnT {σ : Type} (h₀ : Heap) (L : Addr) (I : Addr) (io : Obj) (const : List (Addr × Obj)) (led : σ → List (Addr × Obj)) (ps : σ → List (Str × Value)) (P : σ → Prop) (s₁ : Shared) (f : Flow) (s₂ : Shared) : Prop :=
  f = .next ∧ ∃ c h' tk m', s₂ = { s₁ with heap := h', toks := tk } ∧ Fr h₀ L h' m' ∧ News h₀ L h' ((I, io) :: (const ++ led c)) ∧ (∀ p ∈ led c, p.1 ≠ I) ∧ (∀ p ∈ ps c, m' p.1 = some p.2) ∧ P c
theorem TurnT.next {σ : Type} {h₀ : Heap} {L : Addr} {I : Addr} {io : Obj} {const : List (Addr × Obj)} {led : σ → List (Addr × Obj)} {ps : σ → List (Str × Value)} {P : σ → Prop} {s₁ : Shared} {h' : Heap} {tk : Nat} {m' : Str → Option Value} {news' : List (Addr × Obj)} (c : σ)
    (F : Fr h₀ L h' m') (N : News h₀ L h' news') (hn : ∀ p ∈ (I, io) :: (const ++ led c), p ∈ news') (hc : ∀ p ∈ led c, p.1 ≠ I) (hp : ∀ p ∈ ps c, m' p.1 = some p.2) (h : P c) :
    TurnT h₀ L I io const led ps P s₁ .next { s₁ with heap := h', toks := tk } := ⟨rfl, c, h', tk, m', rfl, F, fun p q => N p (hn p q), hc, hp, h⟩
theorem for_listT {σ : Type} {target : PySem.Expr} {l : Addr} {vs : List Value} {m₀ : Str → Option Value} {news : List (Addr × Obj)} (const : List (Addr × Obj)) (led : σ → List (Addr × Obj)) (ps : σ → List (Str × Value)) (P : Nat → σ → Prop) (c₀ : σ)
    (hh : A.handled = none) (hl : s.heap.IsList l vs.toArray) (hlc : ∃ o, (l, o) ∈ const) (F : Fr h₀ env.locals s.heap m₀) (N : News h₀ env.locals s.heap news) (hnews : ∀ p ∈ const ++ led c₀, p ∈ news) (hp₀ : ∀ p ∈ ps c₀, m₀ p.1 = some p.2) (hj : P 0 c₀)
    (turn : ∀ i v c u s₁ I io, vs[i]? = some v → P i c → Fr h₀ env.locals s₁.heap (kstB u (ps c)) → News h₀ env.locals s₁.heap ((I, io) :: (const ++ led c)) → (∀ p ∈ led c, p.1 ≠ I) → (∀ p ∈ const, p.1 ≠ I) →
      wpAny (model prog w) A (assign target env v) (fun _ s₃ => wpAny (model prog w) A (execs body env) (TurnT h₀ env.locals I io const led ps (P (i + 1)) s₁) E s₃) E s₁)
    (done : ∀ c u h tk, P vs.length c → Fr h₀ env.locals h (kstB u (ps c)) → News h₀ env.locals h (const ++ led c) → Q .next { s with heap := h, toks := tk }) :
    wpAny (model prog w) A (pyIter (.ref l)) (fun it s₂ => LoopAtT prog w A h₀ env target body Q E it s₂) E s := by
  obtain ⟨ol, hol, _⟩ := id hl
  have hne : l ≠ s.heap.objs.size := Nat.ne_of_lt (Heap.lt_size hol)
  refine wpAny_pyIter_list hl ?_
  have W := Walks.list (prog := prog) (w := w) hh s.heap.objs.size l hne vs.toArray
  rw [List.size_toArray] at W
  have hlt : ∀ p ∈ const ++ led c₀, p.1 ≠ s.heap.objs.size := fun p hp => Nat.ne_of_lt (Heap.lt_size (N p (hnews p hp)).1)
  refine ⟨s.heap.objs.size, _, _, vs.length, _, _, m₀, const ++ led c₀, fun i m nx => ∃ c, nx = const ++ led c ∧ (∀ p ∈ ps c, m p.1 = some p.2) ∧ P i c, rfl, W, ?_, ?_, ?_,
    ⟨⟨_, Heap.get?_push_size _ rfl, rfl, rfl⟩, hl.at fun o e => Heap.get?_push_of_some _ e⟩, F.push _, fun p hp => ⟨Heap.get?_push_of_some _ (N p (hnews p hp)).1, (N p (hnews p hp)).2⟩,
    fun i s' v Q' st hQ' => letGo_listiter st.1 hQ', ⟨c₀, rfl, hp₀, hj⟩, ?_, ?_⟩
  · intro hm
    rcases List.mem_cons.mp hm with e | hm
    · exact absurd F.ns.lt (e ▸ Nat.lt_irrefl _)
    · obtain ⟨o, ho⟩ := hlc
      have := (N _ (hnews _ (List.mem_append_left _ ho))).2.1
      exact this (List.mem_singleton.mp hm).symm
  · intro b hb
    rw [List.mem_singleton.mp hb]
    exact next_is_new F
  · intro p hp hI
    exact hlt p hp (List.mem_singleton.mp hI)
  · rintro i v m₁ news₁ s₁ own hi hv ⟨c, rfl, hps, hP⟩ hoff hown hget hfpn hst' F₁ N₁
    obtain ⟨io, hio, _⟩ := hst'.1
    have hIo : (s.heap.objs.size, io) ∈ own := hfpn _ (.head _) (next_is_new F) io hio
    have N₂ : News h₀ env.locals s₁.heap ((s.heap.objs.size, io) :: (const ++ led c)) := by
      intro p hp
      rcases List.mem_cons.mp hp with rfl | hp
      · exact N₁ _ (List.mem_append_left _ hIo)
      · exact N₁ _ (List.mem_append_right _ hp)
    refine wpAny_mono (turn i v c m₁ s₁ _ io (by simpa using hv) hP (fr_of hps F₁) N₂ (fun p hp e => hoff p (List.mem_append_right _ hp) (List.mem_singleton.mpr e)) fun p hp => hlt p (List.mem_append_left _ hp)) (fun _ s₃ q => wpAny_mono q (fun f s₂ q => ?_) fun _ _ e => e) fun _ _ e => e
    obtain ⟨rfl, c', h', tk', m', rfl, F', N', hc', hp', hP'⟩ := q
    refine ⟨rfl, h', tk', m', const ++ led c', rfl, F', ?_, ?_, c', rfl, hp', hP'⟩
    · intro p hp
      rcases List.mem_append.mp hp with q | q
      · have hpg := hget p q
        rcases List.mem_cons.mp (hown p q) with e | e
        · have h2 : p.2 = io := by rw [e, hio] at hpg; exact (Option.some.inj hpg).symm
          have h3 : p = (s.heap.objs.size, io) := Prod.ext e h2
          rw [h3]; exact N' _ (.head _)
        · obtain ⟨o, ho⟩ := hlc
          have e' : p.1 = l := List.mem_singleton.mp e
          have h2 := (N₁ _ (List.mem_append_right own (List.mem_append_left (led c) ho))).1
          rw [← e', hpg] at h2
          have h3 : p = (l, o) := Prod.ext e' (Option.some.inj h2)
          rw [h3]; exact N' _ (.tail _ (List.mem_append_left _ ho))
      · exact N' p (.tail _ q)
    · intro p hp hb
      have e := List.mem_singleton.mp hb
      rcases List.mem_append.mp hp with q | q
      · exact hlt p (List.mem_append_left _ q) e
      · exact hc' p q e
  · rintro h' tk m' news' F' N' _ ⟨c, rfl, hp, hP⟩
    exact done c m' h' tk hP (fr_of hp F') N'
theorem for_listT2 {σ : Type} {target : PySem.Expr} {l : Addr} {vs : List Value} {m₀ : Str → Option Value} {news : List (Addr × Obj)} (const : Addr → List (Addr × Obj)) (led : σ → List (Addr × Obj)) (ps : σ → List (Str × Value)) (P : Nat → σ → Prop) (c₀ : σ)
    (hh : A.handled = none) (hl : s.heap.IsList l vs.toArray) (hlc : ∃ o, (l, o) ∈ const l) (F : Fr h₀ env.locals s.heap m₀) (N : News h₀ env.locals s.heap news) (hnews : ∀ p ∈ const l ++ led c₀, p ∈ news) (hp₀ : ∀ p ∈ ps c₀, m₀ p.1 = some p.2) (hj : P 0 c₀)
    (turn : ∀ i v c u s₁ I io, vs[i]? = some v → P i c → Fr h₀ env.locals s₁.heap (kstB u (ps c)) → News h₀ env.locals s₁.heap ((I, io) :: (const l ++ led c)) → (∀ p ∈ led c, p.1 ≠ I) → (∀ p ∈ const l, p.1 ≠ I) →
      wpAny (model prog w) A (assign target env v) (fun _ s₃ => wpAny (model prog w) A (execs body env) (TurnT h₀ env.locals I io (const l) led ps (P (i + 1)) s₁) E s₃) E s₁)
    (done : ∀ c u h tk, P vs.length c → Fr h₀ env.locals h (kstB u (ps c)) → News h₀ env.locals h (const l ++ led c) → Q .next { s with heap := h, toks := tk }) :
    wpAny (model prog w) A (pyIter (.ref l)) (fun it s₂ => LoopAtT prog w A h₀ env target body Q E it s₂) E s :=
  for_listT (const l) led ps P c₀ hh hl hlc F N hnews hp₀ hj turn done
end
theorem riff_perm : ∀ (f : Nat) (p r : List Int) (y : Nat), p.length + r.length = f → (riffF f p r y).Perm (p ++ r)
  | 0, p, r, y, h => by
    have h1 : p = [] := List.length_eq_zero_iff.mp (by omega)
    have h2 : r = [] := List.length_eq_zero_iff.mp (by omega)
    subst h1; subst h2; exact .refl _
  | f + 1, [], [], y, h => by simp at h
  | f + 1, a :: p, [], y, h => by
    have := riff_perm f p [] (y / 2) (by simp only [List.length_cons, List.length_nil] at h ⊢; omega)
    simpa [riffF] using this
  | f + 1, [], b :: r, y, h => by
    have := riff_perm f [] r (y / 2) (by simp only [List.length_cons, List.length_nil] at h ⊢; omega)
    simpa [riffF] using this
  | f + 1, a :: p, b :: r, y, h => by
    simp only [riffF]
    split
    · have := riff_perm f p (b :: r) (y / 2) (by simp only [List.length_cons] at h ⊢; omega)
      exact this.cons a
    · have := riff_perm f (a :: p) r (y / 2) (by simp only [List.length_cons] at h ⊢; omega)
      exact (this.cons b).trans List.perm_middle.symm
theorem dealt_perm {n d : Nat} (h : d ≤ n) : (rangeL d (-1) d ++ rangeL ((d : Int) + 1) 1 (n - d)).Perm ((List.range' 1 n).map fun (k : Nat) => (k : Int)) := by
  have e1 : rangeL d (-1) d = (((List.range' 1 d).map fun (k : Nat) => (k : Int))).reverse := by
    apply List.ext_getElem (by simp [rangeL])
    intro i h1 h2
    simp [rangeL] at h1 ⊢
    omega
  have e2 : rangeL ((d : Int) + 1) 1 (n - d) = (List.range' (d + 1) (n - d)).map fun (k : Nat) => (k : Int) := by
    apply List.ext_getElem (by simp [rangeL])
    intro i h1 h2
    simp [rangeL] at h1 ⊢
  have e3 : List.range' 1 n = List.range' 1 d ++ List.range' (d + 1) (n - d) := by
    have := List.range'_append (s := 1) (m := d) (n := n - d) (step := 1)
    rw [show 1 + 1 * d = d + 1 by omega, show d + (n - d) = n by omega] at this
    exact this.symm
  rw [e1, e2, e3, List.map_append]
  exact (List.reverse_perm _).append_right _
/-- a list of ints that is the cards in some order -/
theorem cards_of {n : Nat} {ns : List Int} (h : ns.Perm ((List.range' 1 n).map fun (k : Nat) => (k : Int))) : ∃ ds : List Nat, ns = ds.map (fun (k : Nat) => (k : Int)) ∧ ds.Perm (List.range' 1 n) := by
  have hnn : ∀ z ∈ ns, 0 ≤ z := fun z hz => by
    obtain ⟨k, _, rfl⟩ := List.mem_map.mp (h.subset hz)
    omega
  refine ⟨ns.map Int.toNat, ?_, ?_⟩
  · rw [List.map_map]
    refine (List.map_id ns).symm.trans (List.map_congr_left fun z hz => ?_)
    have := hnn z hz; simp only [Function.comp, id]; omega
  · have := h.map Int.toNat
    rw [List.map_map] at this
    rw [show (List.range' 1 n).map (Int.toNat ∘ fun (k : Nat) => (k : Int)) = List.range' 1 n from (List.map_congr_left fun k _ => rfl).trans (List.map_id _)] at this
    exact this
theorem cells_len (w : List Int) : ((w.take 5).map (fun k => k.fmod 1000000) ++ (List.replicate (5 - ((((w.take 5).map (fun k => k.fmod 1000000)).length : Nat) : Int)).toNat [(0 : Int)]).flatten).length = 5 := by
  simp
  omega
theorem cells_nn (w : List Int) : ∀ z ∈ (w.take 5).map (fun k => k.fmod 1000000) ++ (List.replicate (5 - ((((w.take 5).map (fun k => k.fmod 1000000)).length : Nat) : Int)).toNat [(0 : Int)]).flatten, 0 ≤ z := by
  intro z hz
  rcases List.mem_append.mp hz with h | h
  · obtain ⟨k, _, rfl⟩ := List.mem_map.mp h
    exact Int.fmod_nonneg_of_pos k (by decide)
  · obtain ⟨l, hl, hz⟩ := List.mem_flatten.mp h
    rw [List.eq_of_mem_replicate hl] at hz
    rw [List.mem_singleton.mp hz]
    exact Int.le_refl _
theorem small_len (w : List Int) : ((w.take 5).map (fun k => k.fmod 1000000)).length ≤ 5 := by
  simp
  omega
theorem dealt_of (q : Int) (n : Nat) : ∃ a : Nat, a ≤ n ∧ q.fmod ((n : Int) + 1) = (a : Int) := by
  obtain ⟨a, h1, h2⟩ := fmodB q (n + 1) (Nat.succ_pos n)
  exact ⟨a, by omega, by rw [← h2]; rfl⟩
theorem way_of {nc : List Int} (h : ∀ z ∈ nc, 0 ≤ z) (i : Nat) : ∃ y : Nat, 22 + nc.getD i 0 = (y : Int) := by
  have : 0 ≤ nc.getD i 0 := by
    rw [List.getD_eq_getElem?_getD]
    cases e : nc[i]? with
    | none => exact Int.le_refl _
    | some z => exact h z (List.mem_of_getElem? e)
  exact ⟨(22 + nc.getD i 0).toNat, by omega⟩
theorem at_listE {prog : Program} {w : World} {A : Around} {E : Value → Shared → Prop} {s : Shared} {Q : Value → Shared → Prop} {value slice : PySem.Expr} {l : Addr} {vs : List Value} {ns : List Int} {i z : Int} {p : Nat} {u : Tok} (hl : s.heap.IsList l vs.toArray) (hi : IntsAre vs ns) (he : ns.getD p 0 = z) (hp : i = (p : Int)) (hlt : p < ns.length) (hz : ns.length ≤ 1000)
    (h : ∀ t, Q (.int z t) s)
    (hs : subscripted slice false (.ref l) (.int i u) = operate [.ref l, .int i u] (getItem (.ref l) (.int i u)) := by with_unfolding_all rfl) :
    wpAny (model prog w) A (subscriptTail value slice (.ref l) (.int i u)) Q E s :=
  at_list hl hi hp hlt hz (fun t => by rw [he]; exact h t) hs
theorem perm_facts {n : Nat} {ds : List Nat} (h : ds.Perm (List.range' 1 n)) : ds.length = n ∧ (∀ x ∈ ds, 1 ≤ x ∧ x ≤ n) := by
  refine ⟨by have := h.length_eq; simpa using this, fun x hx => ?_⟩
  have := h.subset hx
  rw [List.mem_range'] at this
  omega
theorem head_facts {n : Nat} (hn : 1 ≤ n) {ds : List Nat} (h : ds.Perm (List.range' 1 n)) : (castsI ds).getD 0 0 = ((ds.headD 0 : Nat) : Int) ∧ 1 ≤ ds.headD 0 ∧ ds.headD 0 ≤ n := by
  obtain ⟨h1, h2⟩ := perm_facts h
  cases ds with
  | nil => simp only [List.length_nil] at h1; omega
  | cons a r => exact ⟨rfl, h2 a (.head _)⟩
theorem up_ints (n d : Nat) : rangeL (d : Int) 1 (n + 1 - d) = castsI (upN n d) := by
  simp only [rangeL, castsI, upN, List.map_map]
  exact List.map_congr_left fun i _ => by simp only [Function.comp]; omega
theorem down_ints (d : Nat) : rangeL ((d : Int) - 1) (-1) (d - 1) = castsI (downN d) := by
  apply List.ext_getElem (by simp [rangeL, castsI, downN])
  intro i h1 h2
  simp [rangeL, castsI, downN] at h1 ⊢
  omega
theorem rsDn {d : Nat} (h : 1 ≤ d) : PySem.Builtin.Range.rangeSize ((d : Int) - 1) 0 (-1) = ((d - 1 : Nat) : Int) := by
  have := rsD (d - 1)
  rw [show ((d - 1 : Nat) : Int) = (d : Int) - 1 by omega] at this
  rw [this]; omega
theorem ne_same {prog : Program} {w : World} {A : Around} {E : Value → Shared → Prop} {s : Shared} {Q : Value → Shared → Prop} {b : Array UInt8} {t u : Tok} (h : Q (.bool false) s) : wpAny (model prog w) A (compareOp .NotEq (.bytes b t) (.bytes b u)) Q E s := by
  refine ne_bytes ?_
  rw [bne_self_eq_false]; exact h
theorem arr_ap {ds : List Nat} : byteArr ((castsI ds).map fun n => 65 + n) = ap ds := by
  unfold byteArr ap castsI
  simp only [List.map_map]
  exact congrArg _ (List.map_congr_left fun d _ => by simp only [Function.comp]; rw [show (65 + (d : Int)).toNat = 65 + d by omega])
theorem in_ap {ds : List Nat} (h : ∀ d ∈ ds, d < 16) : KBa.In ((castsI ds).map fun n => 65 + n) := by
  intro z hz
  obtain ⟨y, hy, rfl⟩ := List.mem_map.mp hz
  obtain ⟨x, hx, rfl⟩ := mem_casts.mp hy
  have := h x hx
  omega
theorem num_cards (ds : List Nat) : ((castsI ds).foldl (fun a n => 16 * a + n) 0).natAbs = val16 ds := by
  have := val16_fold ds
  unfold castsI
  rw [this]; simp
theorem num_minus (ds : List Nat) : (-((castsI ds).foldl (fun a n => 16 * a + n) 0)).natAbs = val16 ds := by
  rw [Int.natAbs_neg, num_cards]
theorem head_pos {ds : List Nat} (h : ∀ d ∈ ds, 1 ≤ d ∧ d < 16) : ds.head? ≠ some 0 := by
  intro e
  have := (h 0 (List.mem_of_mem_head? e)).1
  omega
theorem up_facts {n d : Nat} (hn : n ≤ 7) (h1 : 1 ≤ d) : (upN n d).length = n + 1 - d ∧ ∀ x ∈ upN n d, 1 ≤ x ∧ x < 16 := by
  refine ⟨by simp [upN], fun x hx => ?_⟩
  simp only [upN, List.mem_map, List.mem_range] at hx
  obtain ⟨a, ha, rfl⟩ := hx
  omega
theorem down_facts {n d : Nat} (hn : n ≤ 7) (h1 : d ≤ n) : (downN d).length = d - 1 ∧ ∀ x ∈ downN d, 1 ≤ x ∧ x < 16 := by
  refine ⟨by simp [downN], fun x hx => ?_⟩
  simp only [downN, List.mem_reverse, List.mem_map, List.mem_range] at hx
  obtain ⟨a, ha, rfl⟩ := hx
  omega
noncomputable def apart : Bool := (List.range 3).all fun a => (List.range 7).all fun b => bif Nat.ble (Nat.add b 1) (Nat.add a 5) then Nat.beq (levN (txN (upN (a + 5) (b + 1))) (txN (downN (b + 1))) (2 * (a + 5))) (2 * (if a + 5 - b ≤ b then b else a + 5 - b)) else true
theorem apart_all : apart = true := by decide +kernel
theorem apart_of {n d : Nat} (hn : 5 ≤ n ∧ n ≤ 7) (h1 : 1 ≤ d) (h2 : d ≤ n) : levF (txN (upN n d)) (txN (downN d)) (2 * (n : Int)) = 2 * max ((n + 1 - d : Nat) : Int) ((d - 1 : Nat) : Int) := by
  have h := apart_all
  unfold apart at h
  rw [List.all_eq_true] at h
  have h3 := h (n - 5) (List.mem_range.mpr (by omega))
  rw [List.all_eq_true] at h3
  have h4 := h3 (d - 1) (List.mem_range.mpr (by omega))
  rw [show n - 5 + 5 = n by omega, show d - 1 + 1 = d by omega] at h4
  have hb : Nat.ble d n = true := Nat.ble_eq_true_of_le h2
  rw [show Nat.add (d - 1) 1 = d from by show d - 1 + 1 = d; omega, show Nat.add (n - 5) 5 = n from by show n - 5 + 5 = n; omega, hb, cond_true] at h4
  have h5 := Nat.eq_of_beq_eq_true h4
  rw [show (2 * (n : Int)) = ((2 * n : Nat) : Int) by omega, levN_is, h5]
  split <;> omega
theorem txn_facts {l : List Nat} {k : Nat} (h : ∀ x ∈ l, 1 ≤ x ∧ x < 16) (hl : l.length = k) : (∀ c ∈ txN l, 65 ≤ c ∧ c < 81) ∧ (txN l).length = k := by
  refine ⟨fun c hc => ?_, by simp [txN, hl]⟩
  obtain ⟨x, hx, rfl⟩ := List.mem_map.mp hc
  have := h x hx
  omega
theorem full_parts {n : Nat} {ds : List Nat} (h : fullN n ds = true) : deckN n ds = true ∧ lackN n (castsI ds) = neighF (castsI ds) ∧ (neighF (castsI ds) = true → moreN n ds (castsI ds) = true) := by
  unfold fullN at h
  rw [nearB_eq]
  cases e1 : deckN n ds with
  | false => rw [e1] at h; cases h
  | true =>
    rw [e1, cond_true] at h
    cases e2 : sameB (lackN n (castsI ds)) (nearB ds) with
    | false => rw [e2] at h; cases h
    | true =>
      rw [e2, cond_true] at h
      refine ⟨rfl, sameB_of e2, fun e3 => ?_⟩
      rw [e3, cond_true] at h
      exact h
theorem lack_nil {n : Nat} {ds : List Int} : (rangeL 2 1 (n - 1)).filter (fun j => !onceF (rowL n j.toNat) (ds.take j.toNat) j.toNat) = [] ↔ lackN n ds = true := by
  unfold lackN rangeL
  rw [List.filter_eq_nil_iff, List.all_eq_true]
  simp only [List.mem_map, List.mem_range, forall_exists_index, and_imp, Bool.not_eq_true', Bool.not_eq_false]
  constructor
  · intro h i hi
    have := h _ i hi rfl
    rw [show (2 + (i : Int) * 1).toNat = i + 2 by omega] at this
    simpa using this
  · rintro h z i hi rfl
    rw [show (2 + (i : Int) * 1).toNat = i + 2 by omega]
    simpa using h i hi
/-- the packets stand in the deck in their order just when each front holds neighbours -/
theorem within_of {n : Nat} {ds : List Nat} (h : fullN n ds = true) {d : Nat} (hd : ds.headD 0 = d) (h1 : 1 ≤ d) (h2 : d ≤ n) :
    (decide (levF (txN ds) (txN (upN n d)) (2 * ((d - 1 : Nat) : Int)) = 2 * ((d - 1 : Nat) : Int)) && decide (levF (txN (downN d)) (txN ds) (2 * ((n + 1 - d : Nat) : Int)) = 2 * ((n + 1 - d : Nat) : Int))) = neighF (castsI ds) := by
  have hk : deckN n ds = true := by
    unfold fullN at h
    cases e : deckN n ds with
    | true => rfl
    | false => rw [e] at h; cases h
  have hw := sameB_of hk
  rw [nearB_eq, ← hw]
  unfold withinN
  rw [hd]
  have e1 : Nat.mul 2 (Nat.sub d 1) = 2 * (d - 1) := rfl
  have e2 : Nat.mul 2 (Nat.sub (Nat.add n 1) d) = 2 * (n + 1 - d) := rfl
  simp only [e1, e2]
  rw [show (2 * ((d - 1 : Nat) : Int)) = ((2 * (d - 1) : Nat) : Int) by omega, show (2 * ((n + 1 - d : Nat) : Int)) = ((2 * (n + 1 - d) : Nat) : Int) by omega, levN_is, levN_is]
  cases e3 : Nat.beq (levN (txN ds) (txN (upN n d)) (2 * (d - 1))) (2 * (d - 1))
  · have := Nat.ne_of_beq_eq_false e3
    simp only [cond_false, Bool.and_eq_false_iff, decide_eq_false_iff_not]
    exact .inl (by omega)
  · have := Nat.eq_of_beq_eq_true e3
    simp only [cond_true]
    rw [decide_eq_true (by omega), Bool.true_and]
    cases e4 : Nat.beq (levN (txN (downN d)) (txN ds) (2 * (n + 1 - d))) (2 * (n + 1 - d))
    · have := Nat.ne_of_beq_eq_false e4
      exact decide_eq_false (by omega)
    · have := Nat.eq_of_beq_eq_true e4
      exact decide_eq_true (by omega)
theorem within1 {A B C D : Int} {x : Bool} (h : (decide (A = B) && decide (C = D)) = x) (a : A = B) : (C == D) = x := by
  rw [decide_eq_true a, Bool.true_and] at h
  rw [← h, Bool.eq_iff_iff]; simp
theorem within2 {A B C D : Int} {x : Bool} (h : (decide (A = B) && decide (C = D)) = x) (a : A ≠ B) : (A == B) = x := by
  rw [decide_eq_false a, Bool.false_and] at h
  rw [← h]; exact beq_eq_false_iff_ne.mpr a
theorem ne_bsame {prog : Program} {w : World} {A : Around} {E : Value → Shared → Prop} {s : Shared} {Q : Value → Shared → Prop} {b : Bool} (h : Q (.bool false) s) : wpAny (model prog w) A (compareOp .NotEq (.bool b) (.bool b)) Q E s := by
  refine ne_bool ?_
  rw [bne_self_eq_false]; exact h
noncomputable def PostA (prog : Program) (w : World) (A : Around) (env : Env) (scope : Scope) (cl : List (Str × Addr)) (y x : Str) (ifs : List PySem.Expr) (elt : PySem.Expr) (p : Value → Bool) (F : Value → Value → Prop) (Q : Flow → Shared → Prop) (it : Value) (s₂ : Shared) : Prop :=
  ∃ I fp wr n P St m, it = .ref I ∧ Walks prog w A I fp wr n P St ∧ n ≤ sizeLine ∧ St 0 s₂.heap ∧ (∀ b ∈ fp, b < s₂.heap.objs.size) ∧
      env.locals ∉ wr ∧ s₂.heap.Ns env.locals m ∧ QuietOnC prog w A env scope cl x ifs elt wr P p F s₂ ∧
      (∀ D h' tk ys (vs : List Value), s₂.heap.get? D = none → h'.IsList D ys → h'.PlainList D ys → vs.length = n → (∀ j v, vs[j]? = some v → P j v) → Paired F (vs.filter p) ys.toList →
        h'.Ns env.locals (fun z => if z = y then some (.ref D) else m z) → (∀ b o, b ≠ env.locals → b ∉ wr → s₂.heap.get? b = some o → h'.get? b = some o) → Q .next { s₂ with heap := h', toks := tk })
/-- a name is set to a comprehension over a range, closing over cells -/
theorem comp_rangeA {prog : Program} {w : World} {A : Around} {E : Value → Shared → Prop} {s₁ : Shared} {h₀ : Heap} {m : Str → Option Value} {news : List (Addr × Obj)}
    {env : Env} {elt : PySem.Expr} {x y : Str} {ifs : List PySem.Expr} {scope : Scope} {cl : List (Str × Addr)} {Q : Flow → Shared → Prop} {r : Addr} {a b st : Int} {t₀ u₀ v₀ : Tok} (n : Nat)
    (R : Int → Value → Prop) (pz : Int → Bool) (hh : A.handled = none) (hr : IsRange s₁.heap r a b st t₀ u₀ v₀) (hsmall : Builtin.Range.small a b st = true) (hn : Builtin.Range.rangeSize a b st = (n : Int)) (hsz : n ≤ 1000) (F : Fr h₀ env.locals s₁.heap m) (N : News h₀ env.locals s₁.heap news)
    (g1 : ∀ C z t s₂ m₂ E', z ∈ rangeL a st n → s₂.heap.Ns C m₂ → m₂ x = some (.int z t) → Fr h₀ env.locals s₂.heap m → News h₀ env.locals s₂.heap news →
      wpAny (model prog w) A (forIn ifs true fun c r => if r = true then do let ok ← isTrue c (compEnvC scope cl C env) (eval c (compEnvC scope cl C env)); pure (ForInStep.yield ok) else pure (ForInStep.yield r))
        (fun ok s₃ => ok = pz z ∧ PySem.Keeps s₂ s₃) E' s₂)
    (g2 : ∀ C z t s₂ m₂ E', z ∈ rangeL a st n → pz z = true → s₂.heap.Ns C m₂ → m₂ x = some (.int z t) → Fr h₀ env.locals s₂.heap m → News h₀ env.locals s₂.heap news →
      wpAny (model prog w) A (eval elt (compEnvC scope cl C env)) (fun r s₃ => R z r ∧ PySem.Keeps s₂ s₃) E' s₂)
    (g3 : ∀ D ys k h' tk, Paired R ((rangeL a st n).filter pz) ys → Fr h₀ env.locals h' (fun z => if z = y then some (.ref D) else m z) → News h₀ env.locals h' ((D, listOf ys.toArray k) :: news) → Q .next { s₁ with heap := h', toks := tk }) :
    wpAny (model prog w) A (pyIter (.ref r)) (PostA prog w A env scope cl y x ifs elt (intTest pz) (fun v y => ∃ n t, v = Value.int n t ∧ R n y) Q) E s₁ := by
  refine wpAny_pyIter_range hr hsmall ?_
  have W := Walks.range (prog := prog) (w := w) hh s₁.heap.objs.size a st n
  have W' : Walks prog w A s₁.heap.objs.size [s₁.heap.objs.size] [s₁.heap.objs.size] n (fun i v => i < n ∧ ∃ t, v = .int (a + i * st) t) (fun i h => IsRangeIter h s₁.heap.objs.size (a + (i : Nat) * st) ((n : Int) - (i : Nat)) st) :=
    { sub := W.sub, self := W.self, frame := W.frame, item := fun i s Q E hi st hQ => W.item i s Q E hi st fun v h tk hP => hQ v h tk ⟨hi, hP⟩, done := W.done }
  have hP : ∀ i v, (i < n ∧ ∃ t, v = Value.int (a + (i : Nat) * st) t) → ∃ (z : Int) (t : Tok), (rangeL a st n)[i]? = some z ∧ v = .int z t := by
    rintro i v ⟨hi, t, rfl⟩
    exact ⟨a + i * st, t, by simp [rangeL, hi], rfl⟩
  generalize ho : (⟨_, _, _, _⟩ : Obj) = o
  have up : ∀ (h' : Heap), (∀ b o', b ∉ [s₁.heap.objs.size] → (s₁.heap.push o).get? b = some o' → h'.get? b = some o') → ∀ b o', s₁.heap.get? b = some o' → h'.get? b = some o' :=
    fun h' hk b o' e => hk b o' (not_iter_of_old e) (Heap.get?_push_of_some _ e)
  refine ⟨s₁.heap.objs.size, [s₁.heap.objs.size], [s₁.heap.objs.size], n, _, _, m, rfl, W', by rw [sizeLine_eq]; omega, ?_, ?_, ?_, (F.push o).ns, ⟨?_, ?_⟩, ?_⟩
  · show IsRangeIter _ _ _ _ _
    rw [← ho, hn]; simpa using Heap.get?_push_size _ rfl
  · intro b hb
    show b < (s₁.heap.push o).objs.size
    rw [List.mem_singleton.mp hb, Heap.size_push]
    exact Nat.lt_succ_self _
  · intro hb
    exact absurd F.ns.lt (by rw [List.mem_singleton.mp hb]; exact Nat.lt_irrefl _)
  · intro C i v s₃ m₃ E' _ hPv hn hm hk _
    obtain ⟨z, t, e, rfl⟩ := hP i v hPv
    exact g1 C z t s₃ m₃ E' (List.mem_of_getElem? e) hn hm (F.keeps (up _ hk)) (N.grown (up _ hk))
  · intro C i v s₃ m₃ E' _ hPv hp hn hm hk _
    obtain ⟨z, t, e, rfl⟩ := hP i v hPv
    exact wpAny_mono (g2 C z t s₃ m₃ E' (List.mem_of_getElem? e) hp hn hm (F.keeps (up _ hk)) (N.grown (up _ hk))) (fun r s₄ h₄ => ⟨⟨z, t, rfl, h₄.1⟩, h₄.2⟩) fun _ _ e => e
  · intro D h' tk ys vs hnew hlD hplD hlen hPs hF hns hk
    have hi : IntsAre vs (rangeL a st n) := intsAre_of (hlen.trans (rangeL_length a st n).symm) fun i v hv => by
      obtain ⟨z, t, e, rfl⟩ := hP i v (hPs i v hv)
      exact ⟨t, by rw [List.getD_eq_getElem?_getD, e]; rfl⟩
    have hk' : ∀ b o', b ≠ env.locals → s₁.heap.get? b = some o' → h'.get? b = some o' := fun b o' hb e => hk b o' hb (not_iter_of_old e) (Heap.get?_push_of_some _ e)
    have hDL : D ≠ env.locals := by
      rintro rfl
      obtain ⟨oL, _, _, hL, _⟩ := F.ns
      rw [Heap.get?_push_of_some _ hL] at hnew
      cases hnew
    have hD0 : ∀ b o', s₁.heap.get? b = some o' → b ≠ D := by
      rintro b o' e rfl
      rw [Heap.get?_push_of_some _ e] at hnew
      cases hnew
    have hold : ∀ b o', h₀.get? b = some o' → b ≠ env.locals := fun b o' e => Nat.ne_of_lt (Nat.lt_of_lt_of_le (Heap.lt_size e) F.above)
    obtain ⟨k, hk2⟩ := hplD
    refine g3 D ys.toList k h' tk (paired_ints (fun _ _ => rfl) hi hF) ⟨hns, fun b o' e => hk' b o' (hold b o' e) (F.keep b o' e), F.above⟩ ?_
    intro p hp
    rcases List.mem_cons.mp hp with rfl | hp
    · refine ⟨hk2, hDL, ?_⟩
      cases e : h₀.get? D with
      | none => rfl
      | some o' => exact absurd rfl (hD0 _ _ (F.keep _ _ e))
    · exact ⟨hk' _ _ (N p hp).2.1 (N p hp).1, (N p hp).2⟩
theorem LC_A {prog : Program} {w : World} {A : Around} {E : Value → Shared → Prop} {s : Shared} {env : Env} {elt iter : PySem.Expr} {x y : Str} {px py : Pos} {ifs : List PySem.Expr} {scope : Scope} {cl : List (Str × Addr)} {pos spos : Pos} {Q : Flow → Shared → Prop} (R : Int → Value → Prop) (pz : Int → Bool)
    (hsw : swapsWith (.ListComp elt [⟨.Name x px, iter, ifs, 0⟩] scope pos) (some (.Name y py)) spos.line env = pure true)
    (hclos : closureFor scope env = pure cl) (hcell : ∀ z ∈ scope.names, z.2 ≠ .cell) (hkind : scope.kind = .function)
    (hnames : ∀ z ∈ scope.names, z.2 = .local → scope.names.lookup z.1 = some .local) (hx : scope.names.lookup x = some .local)
    (hy : env.kindOf y = some .local) (hp : (env.scope.kind == .class || (env.scope.kind == .module && env.locals != env.globals)) = false)
    (hs : ∀ x, foldedSetIterable iter env x = pure x)
    (h : wpAny (model prog w) A (eval iter env) (fun xv s₁ => wpAny (model prog w) A (pyIter xv) (PostA prog w A env scope cl y x ifs elt (intTest pz) (fun v y => ∃ n t, v = Value.int n t ∧ R n y) Q) E s₁) E s) :
    wpAny (model prog w) A (exec (.Assign [.Name y py] (.ListComp elt [⟨.Name x px, iter, ifs, 0⟩] scope pos) spos) env) Q E s :=
  wpAny_Assign_ListComp_free _ _ hsw hclos hcell hkind hnames hx hy hp h hs
section
variable {prog : Program} {w : World} {A : Around} {E : Value → Shared → Prop} {s : Shared} {h₀ : Heap} {L : Addr} {m : Str → Option Value} {news : List (Addr × Obj)} {Q : Value → Shared → Prop} {value slice : PySem.Expr}
theorem eq_nilT {l l9 : Addr} {vs : List Value} {k k9 : Nat} {ns : List Int} (N : News h₀ L s.heap news) (hm : (l, listOf vs.toArray k) ∈ news) (hm9 : (l9, listOf #[] k9) ∈ news) (hi : IntsAre vs ns) (hn : ns = []) (hu : A.units < cLine)
    (h : Q (.bool true) s) : wpAny (model prog w) A (compareOp .Eq (.ref l) (.ref l9)) Q E s := eq_nil N hm hm9 hi hu (fun _ => h) (fun e => absurd hn e)
theorem eq_nilF {l l9 : Addr} {vs : List Value} {k k9 : Nat} {ns : List Int} (N : News h₀ L s.heap news) (hm : (l, listOf vs.toArray k) ∈ news) (hm9 : (l9, listOf #[] k9) ∈ news) (hi : IntsAre vs ns) (hn : ns ≠ []) (hu : A.units < cLine)
    (h : Q (.bool false) s) : wpAny (model prog w) A (compareOp .Eq (.ref l) (.ref l9)) Q E s := eq_nil N hm hm9 hi hu (fun e => absurd e hn) (fun _ => h)
theorem rangeQ : ∀ n : Nat, n < 8 → ∀ j : Nat, j < 8 → 2 ≤ j → j ≤ n → PySem.Builtin.Range.rangeSize (j : Int) ((n : Int) - (j : Int) + 1) (j : Int) = ((n / j - 1 : Nat) : Int) := by decide +kernel
theorem more_parts {n : Nat} {deck : List Nat} {ds : List Int} (h : moreN n deck ds = true) {i : Nat} (hi : i < n - 1) :
    (∀ q, 1 ≤ q → q * (i + 2) + (i + 2) ≤ n → onceF (rowL n (i + 2)) ((ds.drop (q * (i + 2))).take (i + 2)) (i + 2) = true) ∧
      (rowL n (i + 2)).getD (deck.getD (i + 1) 0 - 1) 0 = ((rowL n (i + 2)).getD (maxL (ds.take (i + 1)) - 1).toNat 0 + 1).fmod ((i + 2 : Nat) : Int) ∧
      (rowL n (i + 2)).getD (deck.getD (i + 1) 0 - 1) 0 = ((rowL n (i + 2)).getD (minL (ds.take (i + 1)) - 1).toNat 0 - 1).fmod ((i + 2 : Nat) : Int) := by
  unfold moreN at h
  rw [List.all_eq_true] at h
  have h1 := h i (List.mem_range.mpr hi)
  simp only [Bool.and_eq_true, decide_eq_true_eq, List.all_eq_true, List.mem_range, Bool.or_eq_true, Bool.not_eq_true'] at h1
  obtain ⟨⟨h2, h3⟩, h4⟩ := h1
  refine ⟨fun q hq1 hq2 => ?_, h3, h4⟩
  have hqn : q < n := by
    have : q * 1 ≤ q * (i + 2) := Nat.mul_le_mul_left q (by omega)
    omega
  rcases h2 q hqn with h5 | h5
  · simp [hq1, hq2] at h5
  · exact h5
theorem mul_le {n j q : Nat} (hq : q < n / j - 1) : (q + 1) * j + j ≤ n := by
  have h1 : (q + 2) * j ≤ (n / j) * j := Nat.mul_le_mul_right j (by omega)
  have h2 := Nat.div_mul_le_self n j
  rw [show (q + 1) * j + j = (q + 2) * j by rw [Nat.add_mul, Nat.add_mul]; omega]
  omega
theorem kstep (j q : Nat) : (j : Int) + (q : Int) * (j : Int) = (((q + 1) * j : Nat) : Int) := by
  rw [Int.natCast_mul, Int.natCast_add, Int.add_mul]
  omega
theorem at_listZ {l : Addr} {vs : List Value} {ns : List Int} {i : Int} {u : Tok} (hl : s.heap.IsList l vs.toArray) (hi : IntsAre vs ns) (h0 : 0 ≤ i) (hlt : i < (ns.length : Int)) (hz : ns.length ≤ 1000)
    (h : ∀ t, Q (.int (ns.getD i.toNat 0) t) s)
    (hs : subscripted slice false (.ref l) (.int i u) = operate [.ref l, .int i u] (getItem (.ref l) (.int i u)) := by with_unfolding_all rfl) :
    wpAny (model prog w) A (subscriptTail value slice (.ref l) (.int i u)) Q E s :=
  at_list hl hi (p := i.toNat) (by omega) (by omega) hz h hs
theorem card_at {n : Nat} {ds : List Nat} (h : ds.Perm (List.range' 1 n)) {i : Nat} {z : Int} (hz : z.toNat = i) (hi : i < n) : (castsI ds).getD z.toNat 0 = ((ds.getD i 0 : Nat) : Int) ∧ 1 ≤ ds.getD i 0 ∧ ds.getD i 0 ≤ n := by
  obtain ⟨h1, h2⟩ := perm_facts h
  subst hz
  have hl : z.toNat < ds.length := by omega
  have h3 := h2 ds[z.toNat] (List.getElem_mem hl)
  refine ⟨?_, ?_⟩
  · simp [castsI, List.getD_eq_getElem?_getD, hl]
  · rw [List.getD_eq_getElem?_getD, List.getElem?_eq_getElem hl]; exact h3
theorem dupl {h : Heap} {p : Addr × Obj} (N : News h₀ L h news) (hm : p ∈ news) : News h₀ L h (p :: news) := fun q hq => by
  rcases List.mem_cons.mp hq with rfl | hq
  · exact N _ hm
  · exact N q hq
theorem keeps_push2 {h : Heap} {o o2 : Obj} : Keeps h ((h.push o).push o2) := fun _ _ e => Heap.get?_push_of_some _ (Heap.get?_push_of_some _ e)
theorem cutL {l : Addr} {vs : List Value} {ns zs : List Int} {vl vu : Value} {lo hi : Option Int} (F : Fr h₀ L s.heap m) (N : News h₀ L s.heap news) (hl : s.heap.IsList l vs.toArray) (hi' : IntsAre vs ns) (pl : IsPart vl lo) (pu : IsPart vu hi)
    (hz : IntsAre (slicePick vs.toArray lo hi none).toList zs) (hlen : ns.length ≤ 1000)
    (h : ∀ D h' ws, Keeps s.heap h' → IntsAre ws zs → Fr h₀ L h' m → News h₀ L h' ((D, listOf ws.toArray 0) :: news) → (∀ p ∈ news, p.1 < D) → Q (.ref D) { s with heap := h' })
    (hs : subscripted slice false (.ref l) (.ref s.heap.objs.size) = operate [.ref s.heap.objs.size, .ref l] (getItem (.ref l) (.ref s.heap.objs.size)) := by with_unfolding_all rfl)
    (ht : ∀ r, letTemporaryGo value (.ref l) r = pure () := by intro _; with_unfolding_all rfl) :
    wpAny (model prog w) A (subscriptTail value slice (.ref l) (.ref s.heap.objs.size)) Q E { s with heap := s.heap.push { cls := .type "slice", data := .fields #[vl, vu, .none] } } := by
  refine slice_listK hl pl pu ?_ hs ht (by rw [List.size_toArray, hi'.length, sizeLine_eq]; omega)
  have hn : s.heap.get? (s.heap.objs.size + 1) = none := Heap.get?_none_of_le (Nat.le_succ _)
  refine h (s.heap.objs.size + 1) _ (slicePick vs.toArray lo hi none).toList keeps_push2 hz (Fr.keepsK F keeps_push2) (News.addK F N keeps_push2 hn ?_) (fun p hp => Nat.lt_succ_of_lt (Heap.lt_size (N p hp).1))
  have := Heap.get?_push_size (h := s.heap.push { cls := .type "slice", data := .fields #[vl, vu, .none] }) (o := { cls := .type "list", data := .seq (slicePick vs.toArray lo hi none) })
  rw [Heap.size_push] at this
  simpa using this rfl
theorem pick_to {vs : List Value} {ns : List Int} (hi : IntsAre vs ns) {j : Nat} (h : j ≤ ns.length) : IntsAre (slicePick vs.toArray none (some (j : Int)) none).toList (ns.take j) := by
  have e := kmk_pick_nat (lo := none) (hi := some (j : Int)) vs.toArray (a := 0) (b := j) (by rw [kms_bounds]; simp only [kms_lo, kms_hi, List.size_toArray, hi.length]; rw [if_neg (by omega)]; simp; omega)
  rw [e]
  simpa using hi.take j
theorem pick_mid {vs : List Value} {ns : List Int} (hi : IntsAre vs ns) {k j : Nat} (h : k + j ≤ ns.length) : IntsAre (slicePick vs.toArray (some (k : Int)) (some ((k : Int) + (j : Int))) none).toList ((ns.drop k).take j) := by
  have e := kmk_pick_nat (lo := some (k : Int)) (hi := some ((k : Int) + (j : Int))) vs.toArray (a := k) (b := k + j) (by rw [kms_bounds]; simp only [kms_lo, kms_hi, List.size_toArray, hi.length]; rw [if_neg (by omega), if_neg (by omega)]; simp; omega)
  rw [e]
  simpa using (hi.drop k).take j
theorem pick_toE {vs : List Value} {ns : List Int} (hi : IntsAre vs ns) {x : Int} {j : Nat} (hx : x = (j : Int)) (h : j ≤ ns.length) : IntsAre (slicePick vs.toArray none (some x) none).toList (ns.take j) := by subst hx; exact pick_to hi h
theorem pick_midE {vs : List Value} {ns : List Int} (hi : IntsAre vs ns) {x y : Int} {k j : Nat} (hx : x = (k : Int)) (hy : y = (k : Int) + (j : Int)) (h : k + j ≤ ns.length) : IntsAre (slicePick vs.toArray (some x) (some y) none).toList ((ns.drop k).take j) := by subst hx; subst hy; exact pick_mid hi h
theorem row_of {n : Nat} {rows : List Row} (hrl : rows.length = n - 1) (hrows : RowsOk n rows) {j : Nat} (h2 : 2 ≤ j) (hn : j ≤ n) : ∃ lr vr kr, (lr, listOf vr.toArray kr) ∈ rowsLed rows ∧ IntsAre vr (rowL n j) ∧ valueAt (kvsOf rows) (j : Int) = some (.ref lr) := by
  obtain ⟨i, rfl⟩ : ∃ i, j = i + 2 := ⟨j - 2, by omega⟩
  have hi : i < rows.length := by omega
  refine ⟨rows[i].l, rows[i].vs, rows[i].k, List.mem_map_of_mem (List.getElem_mem hi), hrows i _ (List.getElem?_eq_getElem hi), ?_⟩
  have := kvs_at (List.getElem?_eq_getElem hi)
  rw [show ((i + 2 : Nat) : Int) = (i : Int) + 2 by omega]
  exact this
end
end Mine
end
section
open PySem PySem.W PyProof.Rows PySem.Calls PySem.Spec
set_option maxRecDepth 100000
set_option maxHeartbeats 8000000
namespace Mine
theorem le8 {a n : Nat} (h : a = n) (hn : n ≤ 7) : a ≤ 8 := by omega
theorem le8u {a n d : Nat} (h : a = n + 1 - d) (hn : n ≤ 7) : a ≤ 8 := by omega
theorem le8w {a n d : Nat} (h : a = d - 1) (h2 : d ≤ n) (hn : n ≤ 7) : a ≤ 8 := by omega
theorem in16 {x n : Nat} (h : 1 ≤ x ∧ x ≤ n) (hn : n ≤ 7) : 1 ≤ x ∧ x < 16 := ⟨h.1, Nat.lt_of_le_of_lt (Nat.le_trans h.2 hn) (by decide)⟩
theorem max_if {a b U W : Nat} (hu : U = a) (hw : W = b) : 2 * max (a : Int) (b : Int) = 2 * (if ((W : Nat) : Int) > ((U : Nat) : Int) then ((W : Nat) : Int) else ((U : Nat) : Int)) := by subst hu hw; split <;> omega
theorem rsz2 (n : Nat) : Builtin.Range.rangeSize 2 ((n : Int) + 1) 1 = ((n - 1 : Nat) : Int) := by have := rsz 2 n; rw [show n + 1 - 2 = n - 1 by omega] at this; exact this
theorem small2 {n : Nat} (hn : n ≤ 7) : Builtin.Range.small 2 ((n : Int) + 1) 1 = true := small_mine (by decide) (by omega) (by decide)
theorem smallQ {n j : Nat} (hn : n ≤ 7) (hj : j + 2 ≤ n) : Builtin.Range.small ((j + 2 : Nat) : Int) ((n : Int) - ((j + 2 : Nat) : Int) + 1) ((j + 2 : Nat) : Int) = true := small_mine (by omega) (by omega) (by omega)
theorem n1k {n : Nat} (hn : n ≤ 7) : n - 1 ≤ 1000 := by omega
theorem jin {a n : Nat} (h : a < n - 1) : 2 ≤ a + 2 ∧ a + 2 ≤ n := by omega
theorem jlt {a n : Nat} (h : a < n - 1) : a + 1 < n := by omega
theorem c1000 {a n : Nat} (h : a = n) (hn : n ≤ 7) : a ≤ 1000 := by omega
theorem lt8 {n : Nat} (hn : n ≤ 7) : n < 8 := Nat.lt_succ_of_le hn
theorem take8 {j : Nat} {l : List Int} (h : j ≤ 7) : (l.take j).length ≤ 8 := by rw [List.length_take]; exact Nat.le_trans (Nat.min_le_left _ _) (Nat.le_succ_of_le h)
theorem jsub (a : Nat) : (((a + 2 : Nat) : Int) - 1).toNat = a + 1 := by omega
theorem jint (a : Nat) : ((a + 2 : Nat) : Int) - 1 = ((a + 1 : Nat) : Int) := by omega
theorem jint0 (a : Nat) : 0 ≤ ((a + 2 : Nat) : Int) - 1 := by omega
theorem jint1 {a n c : Nat} (h : c = n) (h2 : a + 1 < n) : ((a + 2 : Nat) : Int) - 1 < (c : Int) := by omega
theorem nn1 {x : Nat} (h : 1 ≤ x) : 0 ≤ (x : Int) - 1 := by omega
theorem ltN {x n c : Nat} (h : c = n) (h2 : x ≤ n) : (x : Int) - 1 < (c : Int) := by omega
theorem zz1 {z : Int} (h : 1 ≤ z) : 0 ≤ z - 1 := by omega
theorem zzN {z : Int} {n c : Nat} (h : c = n) (h2 : z ≤ (n : Int)) : z - 1 < (c : Int) := by omega
theorem nsub (x : Nat) : ((x : Int) - 1).toNat = x - 1 := by omega
structure SA where
  (D D2 : Addr) (vc vm : List Value) (kc km : Nat) (oh ok : Obj) (d : Addr) (od : Obj) (rows : List Row) (t : Tok)
theorem lawX : PySem.Challenge.rw_sc0035_01.Holds := hd (by
  w_top off
  k_go0
  all_goals try k_fold
  rename IntsAre _ _ => hscr
  rename Shared => s1
  rename World => w0
  obtain ⟨n, hn, en⟩ := size_of hscr
  (repeat' (first | (k_unfold; (try dsimp only)) | ((fail_if_success (with_reducible show wpAny _ _ (PySem.execs (PySem.Stmt.Assign [PySem.Expr.Name (PySem.Str.ofString "hues") _] _ _ :: _) _) _ _ _)); first | ((with_reducible show wpAny _ _ (compareOp CmpOp.Eq (Value.ref _) (Value.ref _)) _ _ _); (k_dflt ((rename News _ _ _ _ => N9q); (first | (refine eq_nilT N9q (by k_memK) (by exact List.Mem.head _) (by with_reducible assumption) (by with_reducible assumption) (by (simp only [Around.deeper, Around.in1]; decide)) ?_) | (refine eq_nilF N9q (by k_memK) (by exact List.Mem.head _) (by with_reducible assumption) (by with_reducible assumption) (by (simp only [Around.deeper, Around.in1]; decide)) ?_))))) | ((with_reducible show wpAny _ _ (subscriptTail (Expr.Name _ _) (Expr.Name _ _) (Value.ref _) (Value.int _ _)) _ _ _); (k_dflt ((rename News _ _ _ _ => N9q); (refine kda_item (knd := intKind PR _) N9q (by k_memK) (by with_reducible assumption) (by exact intKind_is _ _ _ _) (by with_reducible assumption) ?_)))) | (((with_reducible show wpAny _ _ (eval (Expr.Name _ _) (compEnvC _ _ _ _)) _ _ _); k_dflt (first | (refine blk_C (by assumption) (by rfl) (by k_mem) (by assumption) ?_ (by rfl) (by rfl) (by decide)) | (refine blk_L (by assumption) (by rfl) (by assumption) ?_ (by rfl) (by rfl) (by decide))))) | ((with_reducible show wpAny _ _ (compareOp CmpOp.NotEq (Value.bool _) (Value.bool _)) _ _ _); (k_dflt (with_reducible refine ne_bsame ?_))) | ((k_dflt ((with_reducible show wpAny _ _ (call (Value.builtin "len") [Value.ref _]) _ _ _); (rename News _ _ _ _ => N9q); (refine len_news N9q (by k_memK) (by with_reducible assumption) (by first | with_reducible assumption | omega) ?_)))) | ((k_dflt ((with_reducible show wpAny _ _ (call (Value.ref 82) _) _ _ _); (rename Fr _ _ _ _ => F9q); (rename News _ _ _ _ => N9q); (refine c_neigh (by (exact ⟨Frag.In.keeps (by assumption) (Fr.keep (by assumption)), ⟨_, _, _, _, _, Top.keeps (by assumption) (Fr.keep (by assumption))⟩, rfl, by (simp only [Around.deeper, Around.in1]; decide), by (simp only [Around.deeper, Around.in1]; decide)⟩)) (isList_news N9q (by k_memK)) (by with_reducible assumption) (by omega) ?_; intro _ _ k9q; (have F8q := Fr.keepsK F9q k9q); (have N8q := News.keepsK N9q k9q); clear F9q N9q k9q)))) | ((k_dflt ((with_reducible show wpAny _ _ (call (Value.ref 28) _) _ _ _); (rename Fr _ _ _ _ => F9q); (rename News _ _ _ _ => N9q); (refine c_lev (by (exact ⟨Frag.In.keeps (by assumption) (Fr.keep (by assumption)), ⟨_, _, _, _, _, Top.keeps (by assumption) (Fr.keep (by assumption))⟩, rfl, by (simp only [Around.deeper, Around.in1]; decide), by (simp only [Around.deeper, Around.in1]; decide)⟩)) (by with_reducible assumption) (by with_reducible assumption) (by first | with_reducible assumption | omega) (by first | with_reducible assumption | omega) ?_; intro _ _ _ k9q; (have F8q := Fr.keepsK F9q k9q); (have N8q := News.keepsK N9q k9q); clear F9q N9q k9q)))) | ((k_dflt ((with_reducible show wpAny _ _ (call (Value.ref 94) _) _ _ _); (rename Fr _ _ _ _ => F9q); (rename News _ _ _ _ => N9q); (refine c_text (by (exact ⟨Frag.In.keeps (by assumption) (Fr.keep (by assumption)), ⟨_, _, _, _, _, Top.keeps (by assumption) (Fr.keep (by assumption))⟩, rfl, by (simp only [Around.deeper, Around.in1]; decide), by (simp only [Around.deeper, Around.in1]; decide)⟩)) (isList_news N9q (by k_memK)) (by with_reducible assumption) (by exact rfl) (by first | with_reducible assumption | omega) (by with_reducible assumption) (by with_reducible assumption) ?_; intro _ _ _ k9q; (have F8q := Fr.keepsK F9q k9q); (have N8q := News.keepsK N9q k9q); clear F9q N9q k9q)))) | ((with_reducible show wpAny _ _ (compareOp CmpOp.NotEq (Value.bytes _ _) (Value.bytes _ _)) _ _ _); (k_dflt (refine ne_same ?_))) | ((k_dflt ((with_reducible show wpAny _ _ (call (Value.ref 49) _) _ _ _); (refine c_ap (by (exact ⟨Frag.In.keeps (by assumption) (Fr.keep (by assumption)), ⟨_, _, _, _, _, Top.keeps (by assumption) (Fr.keep (by assumption))⟩, rfl, by (simp only [Around.deeper, Around.in1]; decide), by (simp only [Around.deeper, Around.in1]; decide)⟩)) (by with_reducible assumption) (by with_reducible assumption) (by with_reducible assumption) (by with_reducible assumption) ?_; intro _ _ _ k9q; (rename Fr _ _ _ _ => F9q); (rename News _ _ _ _ => N9q); (have F8q := Fr.keepsK F9q k9q); (have N8q := News.keepsK N9q k9q); clear F9q N9q k9q)))) | ((k_dflt ((with_reducible show wpAny _ _ (call (Value.ref 89) _) _ _ _); (rename Fr _ _ _ _ => F9q); (rename News _ _ _ _ => N9q); (refine c_number (by (exact ⟨Frag.In.keeps (by assumption) (Fr.keep (by assumption)), ⟨_, _, _, _, _, Top.keeps (by assumption) (Fr.keep (by assumption))⟩, rfl, by (simp only [Around.deeper, Around.in1]; decide), by (simp only [Around.deeper, Around.in1]; decide)⟩)) (isList_news N9q (by k_memK)) (by with_reducible assumption) ?_; intro _ _ _ k9q; (have F8q := Fr.keepsK F9q k9q); (have N8q := News.keepsK N9q k9q); clear F9q N9q k9q)))) | ((with_reducible show wpAny _ _ (subscriptTail (Expr.Name _ _) (Expr.Constant _ _ _) (Value.ref _) (Value.int _ _)) _ _ _); (k_dflt ((rename News _ _ _ _ => N9q); (refine at_listE (isList_news N9q (by k_memK)) (by with_reducible assumption) (by with_reducible assumption) (by rfl) (by omega) (by omega) ?_); intro _))) | ((k_dflt ((with_reducible show wpAny _ _ (call (Value.type _) [Value.ref _]) _ _ _); (refine list_range _ (by rfl) (by assumption) (by assumption) (by assumption) (by exact small_mine (by omega) (by omega) (by omega)) (by assumption) (by omega) ?_; intro _ _ _ _ _ _ l1q _ _; (try k_lt l1q))))) | ((k_dflt ((with_reducible show wpAny _ _ (call (Value.type _) [Value.int _ _, Value.int _ _, Value.int _ _]) _ _ _); (refine rng3 (by assumption) (by assumption) (by first | decide | omega) (by omega) ?_); intro _ _ _ _ _ _ _ _ _))) | ((k_dflt ((with_reducible show wpAny _ _ (call (Value.type _) [Value.int _ _, Value.int _ _]) _ _ _); (refine rng2 (by assumption) (by assumption) ?_); intro _ _ _ _ _ _ _ _ _))) | ((k_dflt ((with_reducible show wpAny _ _ (call (Value.builtin "len") [Value.ref _]) _ _ _); (rename News _ _ _ _ => N9q); (refine kda_len (knd := intKind PR _) N9q (by k_memK) (by with_reducible assumption) (by with_reducible assumption) (by omega) ?_)))) | ((k_dflt ((with_reducible show wpAny _ _ (binaryOp _ (Value.int (_ + 1) _) (Value.int 4 _)) _ _ _); (refine div_q2 (by exact fmod4 _) ?_)))) | walk1 | (dsimp only; walk1) | (leave1; try dsimp only))))
  rename Fr _ _ _ _ => F1
  rename News _ _ _ _ => N1
  rw [en] at F1
  refine execs_mid (σ := SA) (L := s1.heap.objs.size) s1.heap (fun c => (s1.heap.objs.size + 1 + 1, c.ok) :: (s1.heap.objs.size + 1, c.oh) :: (c.D, listOf c.vc.toArray c.kc) :: (c.D2, listOf c.vm.toArray c.km) :: (c.d, c.od) :: rowsLed c.rows)
    (fun c => [(Str.ofString "size", .int (n : Int) c.t), (Str.ofString "cells", .ref c.D), (Str.ofString "small", .ref c.D2)])
    (fun c => (c.oh.data = .cell (some (.ref c.d)) ∧ c.ok.data = .cell none) ∧ (∃ nc, IntsAre c.vc nc ∧ nc.length = 5 ∧ ∀ z ∈ nc, 0 ≤ z) ∧ (∃ nm, IntsAre c.vm nm ∧ nm.length ≤ 5) ∧
      ((∀ p ∈ (c.d, c.od) :: rowsLed c.rows, p.1 ≠ s1.heap.objs.size + 1 ∧ p.1 ≠ s1.heap.objs.size + 1 + 1) ∧ c.D ≠ s1.heap.objs.size + 1 + 1 ∧ c.D2 ≠ s1.heap.objs.size + 1 + 1) ∧
      (c.d == sysModules) = false ∧ Obj.IsDictOf (intKind PR w0) c.od (kvsOf c.rows) ∧ c.rows.length = n - 1 ∧ RowsOk n c.rows) ?st ?rest
  case st =>

    (repeat' (first | (k_unfold; (try dsimp only)) | ((with_reducible show wpAny _ _ (PySem.exec (PySem.Stmt.Return (some (PySem.Expr.Constant (PySem.Const.bool false) _ _)) _) _) _ _ _); exfalso; first | assumption | contradiction | omega) | ((fail_if_success (with_reducible show wpAny _ _ (PySem.exec (PySem.Stmt.For _ _ _ _ _) _) _ _ _)); (fail_if_success (with_reducible show wpAny _ _ (PySem.call (PySem.Value.ref _) _) _ _ _)); first | ((with_reducible show wpAny _ _ (compareOp CmpOp.Eq (Value.ref _) (Value.ref _)) _ _ _); (k_dflt ((rename News _ _ _ _ => N9q); (first | (refine eq_nilT N9q (by k_memK) (by exact List.Mem.head _) (by with_reducible assumption) (by with_reducible assumption) (by (simp only [Around.deeper, Around.in1]; decide)) ?_) | (refine eq_nilF N9q (by k_memK) (by exact List.Mem.head _) (by with_reducible assumption) (by with_reducible assumption) (by (simp only [Around.deeper, Around.in1]; decide)) ?_))))) | ((with_reducible show wpAny _ _ (subscriptTail (Expr.Name _ _) (Expr.Name _ _) (Value.ref _) (Value.int _ _)) _ _ _); (k_dflt ((rename News _ _ _ _ => N9q); (refine kda_item (knd := intKind PR _) N9q (by k_memK) (by with_reducible assumption) (by exact intKind_is _ _ _ _) (by with_reducible assumption) ?_)))) | (((with_reducible show wpAny _ _ (eval (Expr.Name _ _) (compEnvC _ _ _ _)) _ _ _); k_dflt (first | (refine blk_C (by assumption) (by rfl) (by k_mem) (by assumption) ?_ (by rfl) (by rfl) (by decide)) | (refine blk_L (by assumption) (by rfl) (by assumption) ?_ (by rfl) (by rfl) (by decide))))) | ((with_reducible show wpAny _ _ (compareOp CmpOp.NotEq (Value.bool _) (Value.bool _)) _ _ _); (k_dflt (with_reducible refine ne_bsame ?_))) | ((k_dflt ((with_reducible show wpAny _ _ (call (Value.builtin "len") [Value.ref _]) _ _ _); (rename News _ _ _ _ => N9q); (refine len_news N9q (by k_memK) (by with_reducible assumption) (by first | with_reducible assumption | omega) ?_)))) | ((k_dflt ((with_reducible show wpAny _ _ (call (Value.ref 82) _) _ _ _); (rename Fr _ _ _ _ => F9q); (rename News _ _ _ _ => N9q); (refine c_neigh (by (exact ⟨Frag.In.keeps (by assumption) (Fr.keep (by assumption)), ⟨_, _, _, _, _, Top.keeps (by assumption) (Fr.keep (by assumption))⟩, rfl, by (simp only [Around.deeper, Around.in1]; decide), by (simp only [Around.deeper, Around.in1]; decide)⟩)) (isList_news N9q (by k_memK)) (by with_reducible assumption) (by omega) ?_; intro _ _ k9q; (have F8q := Fr.keepsK F9q k9q); (have N8q := News.keepsK N9q k9q); clear F9q N9q k9q)))) | ((k_dflt ((with_reducible show wpAny _ _ (call (Value.ref 28) _) _ _ _); (rename Fr _ _ _ _ => F9q); (rename News _ _ _ _ => N9q); (refine c_lev (by (exact ⟨Frag.In.keeps (by assumption) (Fr.keep (by assumption)), ⟨_, _, _, _, _, Top.keeps (by assumption) (Fr.keep (by assumption))⟩, rfl, by (simp only [Around.deeper, Around.in1]; decide), by (simp only [Around.deeper, Around.in1]; decide)⟩)) (by with_reducible assumption) (by with_reducible assumption) (by first | with_reducible assumption | omega) (by first | with_reducible assumption | omega) ?_; intro _ _ _ k9q; (have F8q := Fr.keepsK F9q k9q); (have N8q := News.keepsK N9q k9q); clear F9q N9q k9q)))) | ((k_dflt ((with_reducible show wpAny _ _ (call (Value.ref 94) _) _ _ _); (rename Fr _ _ _ _ => F9q); (rename News _ _ _ _ => N9q); (refine c_text (by (exact ⟨Frag.In.keeps (by assumption) (Fr.keep (by assumption)), ⟨_, _, _, _, _, Top.keeps (by assumption) (Fr.keep (by assumption))⟩, rfl, by (simp only [Around.deeper, Around.in1]; decide), by (simp only [Around.deeper, Around.in1]; decide)⟩)) (isList_news N9q (by k_memK)) (by with_reducible assumption) (by exact rfl) (by first | with_reducible assumption | omega) (by with_reducible assumption) (by with_reducible assumption) ?_; intro _ _ _ k9q; (have F8q := Fr.keepsK F9q k9q); (have N8q := News.keepsK N9q k9q); clear F9q N9q k9q)))) | ((with_reducible show wpAny _ _ (compareOp CmpOp.NotEq (Value.bytes _ _) (Value.bytes _ _)) _ _ _); (k_dflt (refine ne_same ?_))) | ((k_dflt ((with_reducible show wpAny _ _ (call (Value.ref 49) _) _ _ _); (refine c_ap (by (exact ⟨Frag.In.keeps (by assumption) (Fr.keep (by assumption)), ⟨_, _, _, _, _, Top.keeps (by assumption) (Fr.keep (by assumption))⟩, rfl, by (simp only [Around.deeper, Around.in1]; decide), by (simp only [Around.deeper, Around.in1]; decide)⟩)) (by with_reducible assumption) (by with_reducible assumption) (by with_reducible assumption) (by with_reducible assumption) ?_; intro _ _ _ k9q; (rename Fr _ _ _ _ => F9q); (rename News _ _ _ _ => N9q); (have F8q := Fr.keepsK F9q k9q); (have N8q := News.keepsK N9q k9q); clear F9q N9q k9q)))) | ((k_dflt ((with_reducible show wpAny _ _ (call (Value.ref 89) _) _ _ _); (rename Fr _ _ _ _ => F9q); (rename News _ _ _ _ => N9q); (refine c_number (by (exact ⟨Frag.In.keeps (by assumption) (Fr.keep (by assumption)), ⟨_, _, _, _, _, Top.keeps (by assumption) (Fr.keep (by assumption))⟩, rfl, by (simp only [Around.deeper, Around.in1]; decide), by (simp only [Around.deeper, Around.in1]; decide)⟩)) (isList_news N9q (by k_memK)) (by with_reducible assumption) ?_; intro _ _ _ k9q; (have F8q := Fr.keepsK F9q k9q); (have N8q := News.keepsK N9q k9q); clear F9q N9q k9q)))) | ((with_reducible show wpAny _ _ (subscriptTail (Expr.Name _ _) (Expr.Constant _ _ _) (Value.ref _) (Value.int _ _)) _ _ _); (k_dflt ((rename News _ _ _ _ => N9q); (refine at_listE (isList_news N9q (by k_memK)) (by with_reducible assumption) (by with_reducible assumption) (by rfl) (by omega) (by omega) ?_); intro _))) | ((k_dflt ((with_reducible show wpAny _ _ (call (Value.type _) [Value.ref _]) _ _ _); (refine list_range _ (by rfl) (by assumption) (by assumption) (by assumption) (by exact small_mine (by omega) (by omega) (by omega)) (by assumption) (by omega) ?_; intro _ _ _ _ _ _ l1q _ _; (try k_lt l1q))))) | ((k_dflt ((with_reducible show wpAny _ _ (call (Value.type _) [Value.int _ _, Value.int _ _, Value.int _ _]) _ _ _); (refine rng3 (by assumption) (by assumption) (by first | decide | omega) (by omega) ?_); intro _ _ _ _ _ _ _ _ _))) | ((k_dflt ((with_reducible show wpAny _ _ (call (Value.type _) [Value.int _ _, Value.int _ _]) _ _ _); (refine rng2 (by assumption) (by assumption) ?_); intro _ _ _ _ _ _ _ _ _))) | ((k_dflt ((with_reducible show wpAny _ _ (call (Value.builtin "len") [Value.ref _]) _ _ _); (rename News _ _ _ _ => N9q); (refine kda_len (knd := intKind PR _) N9q (by k_memK) (by with_reducible assumption) (by with_reducible assumption) (by omega) ?_)))) | ((k_dflt ((with_reducible show wpAny _ _ (binaryOp _ (Value.int (_ + 1) _) (Value.int 4 _)) _ _ _); (refine div_q2 (by exact fmod4 _) ?_)))) | walk1 | (dsimp only; walk1) | (leave1; try dsimp only))))
    clear F1 N1
    rename Fr _ _ _ _ => F1
    rename News _ _ _ _ => N1
    refine' c_hues ?C hn ?hts ?htv ?hAll ?_
    case C => (exact ⟨Frag.In.keeps (by assumption) (Fr.keep (by assumption)), ⟨_, _, _, _, _, Top.keeps (by assumption) (Fr.keep (by assumption))⟩, rfl, by (simp only [Around.deeper, Around.in1]; decide), by (simp only [Around.deeper, Around.in1]; decide)⟩)
    case hts => exact Nat.succ_ne_zero _
    case htv => exact Nat.succ_ne_zero _
    case hAll => exact fun wh ca h1 h2 h3 h4 => paint_all _ _ (fmod4L _) (fmod4L _) wh ca h1 (by omega) h3 (by omega)
    intro d od rows h2 tk2 k2 hnew hsys hdict hrl hrows
    have hne1 : ∀ p ∈ (d, od) :: rowsLed rows, p.1 ≠ s1.heap.objs.size + 1 := fun p hp => ne_made N1 (by k_memK) (hnew p hp).1
    have hne2 : ∀ p ∈ (d, od) :: rowsLed rows, p.1 ≠ s1.heap.objs.size + 1 + 1 := fun p hp => ne_made N1 (by k_memK) (hnew p hp).1
    have F2 := Fr.keepsK F1 k2
    have N2 := News.addMany F1 N1 k2 hnew
    clear F1 N1 k2 hnew
    refine storeX_C (c := s1.heap.objs.size + 1) F2 N2 (by with_unfolding_all rfl) (updF_of (pre := [_, _, _, _, _, _]) (post := (d, od) :: rowsLed rows) ?u1 hne1) (by assumption) ?_ rfl (by with_unfolding_all rfl)
    case u1 => repeat' (first | exact List.forall_mem_nil _ | (refine List.forall_mem_cons.mpr ⟨by (show @Ne Nat _ _); dsimp only; omega, ?_⟩))
    intro h3 o3 F3 N3 hd3
    clear F2 N2
    refine' ExitW.here ⟨_, _, _, _, _, _, o3, _, d, od, rows, _⟩ F3 N3 ?n ?hp ?P
    case hp => ((repeat' (first | exact List.forall_mem_nil _ | (refine List.forall_mem_cons.mpr ⟨by with_unfolding_all rfl, ?_⟩))))
    case n => refine List.forall_mem_cons.mpr ⟨by k_memK, List.forall_mem_cons.mpr ⟨by k_memK, List.forall_mem_cons.mpr ⟨by k_memK, List.forall_mem_cons.mpr ⟨by k_memK, fun p hp => List.mem_append_right _ (.tail _ hp)⟩⟩⟩⟩
    case P => exact ⟨⟨hd3, by with_unfolding_all assumption⟩, ⟨_, by assumption, cells_len _, cells_nn _⟩, ⟨_, by assumption, small_len _⟩, ⟨fun p hp => ⟨hne1 p hp, hne2 p hp⟩, by (show @Ne Nat _ _); dsimp only; omega, by (show @Ne Nat _ _); dsimp only; omega⟩, hsys, hdict, hrl, hrows⟩

  case rest =>
  clear F1 N1 en hscr
  repeat (rename @LT.lt _ _ _ _ ∧ _ => zz; clear zz)
  repeat (rename @Ne _ _ _ ∧ _ => zz; clear zz)
  repeat (rename @Eq Nat (List.length _) _ => zz; clear zz)
  repeat (rename @LE.le Nat _ (List.length _) _ => zz; clear zz)
  repeat (rename @Eq Nat (Array.size _) _ => zz; clear zz)
  repeat (rename @LT.lt _ _ _ _ → _ => zz; clear zz)
  repeat (rename @LE.le _ _ _ _ → _ => zz; clear zz)
  repeat (rename ¬ @LT.lt _ _ _ _ => zz; clear zz)
  repeat (rename IntsAre _ _ => zz; clear zz)
  rintro ⟨D, D2, vc, vm, kc, km, oh, ok, d, od, rows, t⟩ u h tk ⟨⟨hdh, hdk⟩, ⟨nc, hnc, hnc5, hnc0⟩, ⟨nm, hnm, hnm5⟩, ⟨hne, hneD, hneD2⟩, hsys, hdict, hrl, hrows⟩ F1 N1
  dsimp only at hdh hdk hnc hnm hne hneD hneD2 hsys hdict hrl hrows F1 N1 ⊢
  have hkl : (kvsOf rows).length = n - 1 := by rw [kvsOf, List.length_map, List.length_range, hrl]
  (repeat' (first | (k_unfold; (try dsimp only)) | ((with_reducible show wpAny _ _ (PySem.exec (PySem.Stmt.Return (some (PySem.Expr.Constant (PySem.Const.bool false) _ _)) _) _) _ _ _); exfalso; first | assumption | contradiction | omega) | ((fail_if_success (with_reducible show wpAny _ _ (PySem.exec (PySem.Stmt.For _ _ _ _ _) _) _ _ _)); (fail_if_success (with_reducible show wpAny _ _ (PySem.call (PySem.Value.ref _) _) _ _ _)); first | ((with_reducible show wpAny _ _ (compareOp CmpOp.Eq (Value.ref _) (Value.ref _)) _ _ _); (k_dflt ((rename News _ _ _ _ => N9q); (first | (refine eq_nilT N9q (by k_memK) (by exact List.Mem.head _) (by with_reducible assumption) (by with_reducible assumption) (by (simp only [Around.deeper, Around.in1]; decide)) ?_) | (refine eq_nilF N9q (by k_memK) (by exact List.Mem.head _) (by with_reducible assumption) (by with_reducible assumption) (by (simp only [Around.deeper, Around.in1]; decide)) ?_))))) | ((with_reducible show wpAny _ _ (subscriptTail (Expr.Name _ _) (Expr.Name _ _) (Value.ref _) (Value.int _ _)) _ _ _); (k_dflt ((rename News _ _ _ _ => N9q); (refine kda_item (knd := intKind PR _) N9q (by k_memK) (by with_reducible assumption) (by exact intKind_is _ _ _ _) (by with_reducible assumption) ?_)))) | (((with_reducible show wpAny _ _ (eval (Expr.Name _ _) (compEnvC _ _ _ _)) _ _ _); k_dflt (first | (refine blk_C (by assumption) (by rfl) (by k_mem) (by assumption) ?_ (by rfl) (by rfl) (by decide)) | (refine blk_L (by assumption) (by rfl) (by assumption) ?_ (by rfl) (by rfl) (by decide))))) | ((with_reducible show wpAny _ _ (compareOp CmpOp.NotEq (Value.bool _) (Value.bool _)) _ _ _); (k_dflt (with_reducible refine ne_bsame ?_))) | ((k_dflt ((with_reducible show wpAny _ _ (call (Value.builtin "len") [Value.ref _]) _ _ _); (rename News _ _ _ _ => N9q); (refine len_news N9q (by k_memK) (by with_reducible assumption) (by first | with_reducible assumption | omega) ?_)))) | ((k_dflt ((with_reducible show wpAny _ _ (call (Value.ref 82) _) _ _ _); (rename Fr _ _ _ _ => F9q); (rename News _ _ _ _ => N9q); (refine c_neigh (by (exact ⟨Frag.In.keeps (by assumption) (Fr.keep (by assumption)), ⟨_, _, _, _, _, Top.keeps (by assumption) (Fr.keep (by assumption))⟩, rfl, by (simp only [Around.deeper, Around.in1]; decide), by (simp only [Around.deeper, Around.in1]; decide)⟩)) (isList_news N9q (by k_memK)) (by with_reducible assumption) (by omega) ?_; intro _ _ k9q; (have F8q := Fr.keepsK F9q k9q); (have N8q := News.keepsK N9q k9q); clear F9q N9q k9q)))) | ((k_dflt ((with_reducible show wpAny _ _ (call (Value.ref 28) _) _ _ _); (rename Fr _ _ _ _ => F9q); (rename News _ _ _ _ => N9q); (refine c_lev (by (exact ⟨Frag.In.keeps (by assumption) (Fr.keep (by assumption)), ⟨_, _, _, _, _, Top.keeps (by assumption) (Fr.keep (by assumption))⟩, rfl, by (simp only [Around.deeper, Around.in1]; decide), by (simp only [Around.deeper, Around.in1]; decide)⟩)) (by with_reducible assumption) (by with_reducible assumption) (by first | with_reducible assumption | omega) (by first | with_reducible assumption | omega) ?_; intro _ _ _ k9q; (have F8q := Fr.keepsK F9q k9q); (have N8q := News.keepsK N9q k9q); clear F9q N9q k9q)))) | ((k_dflt ((with_reducible show wpAny _ _ (call (Value.ref 94) _) _ _ _); (rename Fr _ _ _ _ => F9q); (rename News _ _ _ _ => N9q); (refine c_text (by (exact ⟨Frag.In.keeps (by assumption) (Fr.keep (by assumption)), ⟨_, _, _, _, _, Top.keeps (by assumption) (Fr.keep (by assumption))⟩, rfl, by (simp only [Around.deeper, Around.in1]; decide), by (simp only [Around.deeper, Around.in1]; decide)⟩)) (isList_news N9q (by k_memK)) (by with_reducible assumption) (by exact rfl) (by first | with_reducible assumption | omega) (by with_reducible assumption) (by with_reducible assumption) ?_; intro _ _ _ k9q; (have F8q := Fr.keepsK F9q k9q); (have N8q := News.keepsK N9q k9q); clear F9q N9q k9q)))) | ((with_reducible show wpAny _ _ (compareOp CmpOp.NotEq (Value.bytes _ _) (Value.bytes _ _)) _ _ _); (k_dflt (refine ne_same ?_))) | ((k_dflt ((with_reducible show wpAny _ _ (call (Value.ref 49) _) _ _ _); (refine c_ap (by (exact ⟨Frag.In.keeps (by assumption) (Fr.keep (by assumption)), ⟨_, _, _, _, _, Top.keeps (by assumption) (Fr.keep (by assumption))⟩, rfl, by (simp only [Around.deeper, Around.in1]; decide), by (simp only [Around.deeper, Around.in1]; decide)⟩)) (by with_reducible assumption) (by with_reducible assumption) (by with_reducible assumption) (by with_reducible assumption) ?_; intro _ _ _ k9q; (rename Fr _ _ _ _ => F9q); (rename News _ _ _ _ => N9q); (have F8q := Fr.keepsK F9q k9q); (have N8q := News.keepsK N9q k9q); clear F9q N9q k9q)))) | ((k_dflt ((with_reducible show wpAny _ _ (call (Value.ref 89) _) _ _ _); (rename Fr _ _ _ _ => F9q); (rename News _ _ _ _ => N9q); (refine c_number (by (exact ⟨Frag.In.keeps (by assumption) (Fr.keep (by assumption)), ⟨_, _, _, _, _, Top.keeps (by assumption) (Fr.keep (by assumption))⟩, rfl, by (simp only [Around.deeper, Around.in1]; decide), by (simp only [Around.deeper, Around.in1]; decide)⟩)) (isList_news N9q (by k_memK)) (by with_reducible assumption) ?_; intro _ _ _ k9q; (have F8q := Fr.keepsK F9q k9q); (have N8q := News.keepsK N9q k9q); clear F9q N9q k9q)))) | ((with_reducible show wpAny _ _ (subscriptTail (Expr.Name _ _) (Expr.Constant _ _ _) (Value.ref _) (Value.int _ _)) _ _ _); (k_dflt ((rename News _ _ _ _ => N9q); (refine at_listE (isList_news N9q (by k_memK)) (by with_reducible assumption) (by with_reducible assumption) (by rfl) (by omega) (by omega) ?_); intro _))) | ((k_dflt ((with_reducible show wpAny _ _ (call (Value.type _) [Value.ref _]) _ _ _); (refine list_range _ (by rfl) (by assumption) (by assumption) (by assumption) (by exact small_mine (by omega) (by omega) (by omega)) (by assumption) (by omega) ?_; intro _ _ _ _ _ _ l1q _ _; (try k_lt l1q))))) | ((k_dflt ((with_reducible show wpAny _ _ (call (Value.type _) [Value.int _ _, Value.int _ _, Value.int _ _]) _ _ _); (refine rng3 (by assumption) (by assumption) (by first | decide | omega) (by omega) ?_); intro _ _ _ _ _ _ _ _ _))) | ((k_dflt ((with_reducible show wpAny _ _ (call (Value.type _) [Value.int _ _, Value.int _ _]) _ _ _); (refine rng2 (by assumption) (by assumption) ?_); intro _ _ _ _ _ _ _ _ _))) | ((k_dflt ((with_reducible show wpAny _ _ (call (Value.builtin "len") [Value.ref _]) _ _ _); (rename News _ _ _ _ => N9q); (refine kda_len (knd := intKind PR _) N9q (by k_memK) (by with_reducible assumption) (by with_reducible assumption) (by omega) ?_)))) | ((k_dflt ((with_reducible show wpAny _ _ (binaryOp _ (Value.int (_ + 1) _) (Value.int 4 _)) _ _ _); (refine div_q2 (by exact fmod4 _) ?_)))) | walk1 | (dsimp only; walk1) | (leave1; try dsimp only))))
  obtain ⟨dl, hdl, edl⟩ := dealt_of (3 + nc.getD (Int.toNat 0) 0) n
  obtain ⟨y, ey⟩ := way_of hnc0 (Int.toNat 1)
  rw [edl, ey]
  rename Fr _ _ _ _ => F1
  rename News _ _ _ _ => N1
  refine' c_riff ?C hn.2 hdl ?_
  case C => (exact ⟨Frag.In.keeps (by assumption) (Fr.keep (by assumption)), ⟨_, _, _, _, _, Top.keeps (by assumption) (Fr.keep (by assumption))⟩, rfl, by (simp only [Around.deeper, Around.in1]; decide), by (simp only [Around.deeper, Around.in1]; decide)⟩)
  intro l1 vs1 ns1 k1 h2 tk2 kk hi1 e1 hlen1 hnone1 hsome1
  have hl1 : @Ne Nat l1 (s1.heap.objs.size + 1 + 1) := ne_made N1 (.head _) hnone1
  have F2 := Fr.keepsK F1 kk
  have N2 := News.addK F1 N1 kk hnone1 hsome1
  have hp1 := (riff_perm n (rangeL dl (-1) dl) (rangeL ((dl : Int) + 1) 1 (n - dl)) y (by rw [rangeL_length, rangeL_length]; omega)).trans (dealt_perm hdl)
  rw [← e1] at hp1
  clear F1 N1 kk hnone1 hsome1 e1
  (repeat' (first | (k_unfold; (try dsimp only)) | ((with_reducible show wpAny _ _ (PySem.exec (PySem.Stmt.Return (some (PySem.Expr.Constant (PySem.Const.bool false) _ _)) _) _) _ _ _); exfalso; first | assumption | contradiction | omega) | ((fail_if_success (with_reducible show wpAny _ _ (PySem.exec (PySem.Stmt.For _ _ _ _ _) _) _ _ _)); (fail_if_success (with_reducible show wpAny _ _ (PySem.call (PySem.Value.ref _) _) _ _ _)); first | ((with_reducible show wpAny _ _ (compareOp CmpOp.Eq (Value.ref _) (Value.ref _)) _ _ _); (k_dflt ((rename News _ _ _ _ => N9q); (first | (refine eq_nilT N9q (by k_memK) (by exact List.Mem.head _) (by with_reducible assumption) (by with_reducible assumption) (by (simp only [Around.deeper, Around.in1]; decide)) ?_) | (refine eq_nilF N9q (by k_memK) (by exact List.Mem.head _) (by with_reducible assumption) (by with_reducible assumption) (by (simp only [Around.deeper, Around.in1]; decide)) ?_))))) | ((with_reducible show wpAny _ _ (subscriptTail (Expr.Name _ _) (Expr.Name _ _) (Value.ref _) (Value.int _ _)) _ _ _); (k_dflt ((rename News _ _ _ _ => N9q); (refine kda_item (knd := intKind PR _) N9q (by k_memK) (by with_reducible assumption) (by exact intKind_is _ _ _ _) (by with_reducible assumption) ?_)))) | (((with_reducible show wpAny _ _ (eval (Expr.Name _ _) (compEnvC _ _ _ _)) _ _ _); k_dflt (first | (refine blk_C (by assumption) (by rfl) (by k_mem) (by assumption) ?_ (by rfl) (by rfl) (by decide)) | (refine blk_L (by assumption) (by rfl) (by assumption) ?_ (by rfl) (by rfl) (by decide))))) | ((with_reducible show wpAny _ _ (compareOp CmpOp.NotEq (Value.bool _) (Value.bool _)) _ _ _); (k_dflt (with_reducible refine ne_bsame ?_))) | ((k_dflt ((with_reducible show wpAny _ _ (call (Value.builtin "len") [Value.ref _]) _ _ _); (rename News _ _ _ _ => N9q); (refine len_news N9q (by k_memK) (by with_reducible assumption) (by first | with_reducible assumption | omega) ?_)))) | ((k_dflt ((with_reducible show wpAny _ _ (call (Value.ref 82) _) _ _ _); (rename Fr _ _ _ _ => F9q); (rename News _ _ _ _ => N9q); (refine c_neigh (by (exact ⟨Frag.In.keeps (by assumption) (Fr.keep (by assumption)), ⟨_, _, _, _, _, Top.keeps (by assumption) (Fr.keep (by assumption))⟩, rfl, by (simp only [Around.deeper, Around.in1]; decide), by (simp only [Around.deeper, Around.in1]; decide)⟩)) (isList_news N9q (by k_memK)) (by with_reducible assumption) (by omega) ?_; intro _ _ k9q; (have F8q := Fr.keepsK F9q k9q); (have N8q := News.keepsK N9q k9q); clear F9q N9q k9q)))) | ((k_dflt ((with_reducible show wpAny _ _ (call (Value.ref 28) _) _ _ _); (rename Fr _ _ _ _ => F9q); (rename News _ _ _ _ => N9q); (refine c_lev (by (exact ⟨Frag.In.keeps (by assumption) (Fr.keep (by assumption)), ⟨_, _, _, _, _, Top.keeps (by assumption) (Fr.keep (by assumption))⟩, rfl, by (simp only [Around.deeper, Around.in1]; decide), by (simp only [Around.deeper, Around.in1]; decide)⟩)) (by with_reducible assumption) (by with_reducible assumption) (by first | with_reducible assumption | omega) (by first | with_reducible assumption | omega) ?_; intro _ _ _ k9q; (have F8q := Fr.keepsK F9q k9q); (have N8q := News.keepsK N9q k9q); clear F9q N9q k9q)))) | ((k_dflt ((with_reducible show wpAny _ _ (call (Value.ref 94) _) _ _ _); (rename Fr _ _ _ _ => F9q); (rename News _ _ _ _ => N9q); (refine c_text (by (exact ⟨Frag.In.keeps (by assumption) (Fr.keep (by assumption)), ⟨_, _, _, _, _, Top.keeps (by assumption) (Fr.keep (by assumption))⟩, rfl, by (simp only [Around.deeper, Around.in1]; decide), by (simp only [Around.deeper, Around.in1]; decide)⟩)) (isList_news N9q (by k_memK)) (by with_reducible assumption) (by exact rfl) (by first | with_reducible assumption | omega) (by with_reducible assumption) (by with_reducible assumption) ?_; intro _ _ _ k9q; (have F8q := Fr.keepsK F9q k9q); (have N8q := News.keepsK N9q k9q); clear F9q N9q k9q)))) | ((with_reducible show wpAny _ _ (compareOp CmpOp.NotEq (Value.bytes _ _) (Value.bytes _ _)) _ _ _); (k_dflt (refine ne_same ?_))) | ((k_dflt ((with_reducible show wpAny _ _ (call (Value.ref 49) _) _ _ _); (refine c_ap (by (exact ⟨Frag.In.keeps (by assumption) (Fr.keep (by assumption)), ⟨_, _, _, _, _, Top.keeps (by assumption) (Fr.keep (by assumption))⟩, rfl, by (simp only [Around.deeper, Around.in1]; decide), by (simp only [Around.deeper, Around.in1]; decide)⟩)) (by with_reducible assumption) (by with_reducible assumption) (by with_reducible assumption) (by with_reducible assumption) ?_; intro _ _ _ k9q; (rename Fr _ _ _ _ => F9q); (rename News _ _ _ _ => N9q); (have F8q := Fr.keepsK F9q k9q); (have N8q := News.keepsK N9q k9q); clear F9q N9q k9q)))) | ((k_dflt ((with_reducible show wpAny _ _ (call (Value.ref 89) _) _ _ _); (rename Fr _ _ _ _ => F9q); (rename News _ _ _ _ => N9q); (refine c_number (by (exact ⟨Frag.In.keeps (by assumption) (Fr.keep (by assumption)), ⟨_, _, _, _, _, Top.keeps (by assumption) (Fr.keep (by assumption))⟩, rfl, by (simp only [Around.deeper, Around.in1]; decide), by (simp only [Around.deeper, Around.in1]; decide)⟩)) (isList_news N9q (by k_memK)) (by with_reducible assumption) ?_; intro _ _ _ k9q; (have F8q := Fr.keepsK F9q k9q); (have N8q := News.keepsK N9q k9q); clear F9q N9q k9q)))) | ((with_reducible show wpAny _ _ (subscriptTail (Expr.Name _ _) (Expr.Constant _ _ _) (Value.ref _) (Value.int _ _)) _ _ _); (k_dflt ((rename News _ _ _ _ => N9q); (refine at_listE (isList_news N9q (by k_memK)) (by with_reducible assumption) (by with_reducible assumption) (by rfl) (by omega) (by omega) ?_); intro _))) | ((k_dflt ((with_reducible show wpAny _ _ (call (Value.type _) [Value.ref _]) _ _ _); (refine list_range _ (by rfl) (by assumption) (by assumption) (by assumption) (by exact small_mine (by omega) (by omega) (by omega)) (by assumption) (by omega) ?_; intro _ _ _ _ _ _ l1q _ _; (try k_lt l1q))))) | ((k_dflt ((with_reducible show wpAny _ _ (call (Value.type _) [Value.int _ _, Value.int _ _, Value.int _ _]) _ _ _); (refine rng3 (by assumption) (by assumption) (by first | decide | omega) (by omega) ?_); intro _ _ _ _ _ _ _ _ _))) | ((k_dflt ((with_reducible show wpAny _ _ (call (Value.type _) [Value.int _ _, Value.int _ _]) _ _ _); (refine rng2 (by assumption) (by assumption) ?_); intro _ _ _ _ _ _ _ _ _))) | ((k_dflt ((with_reducible show wpAny _ _ (call (Value.builtin "len") [Value.ref _]) _ _ _); (rename News _ _ _ _ => N9q); (refine kda_len (knd := intKind PR _) N9q (by k_memK) (by with_reducible assumption) (by with_reducible assumption) (by omega) ?_)))) | ((k_dflt ((with_reducible show wpAny _ _ (binaryOp _ (Value.int (_ + 1) _) (Value.int 4 _)) _ _ _); (refine div_q2 (by exact fmod4 _) ?_)))) | walk1 | (dsimp only; walk1) | (leave1; try dsimp only))))
  refine For_invT s1.heap ?_ (by intro _; rfl)
  (repeat' (first | (k_unfold; (try dsimp only)) | ((fail_if_success (with_reducible show wpAny _ _ (PySem.pyIter _) _ _ _)); (fail_if_success (with_reducible show wpAny _ _ (PySem.call (PySem.Value.ref _) _) _ _ _)); first | ((with_reducible show wpAny _ _ (compareOp CmpOp.Eq (Value.ref _) (Value.ref _)) _ _ _); (k_dflt ((rename News _ _ _ _ => N9q); (first | (refine eq_nilT N9q (by k_memK) (by exact List.Mem.head _) (by with_reducible assumption) (by with_reducible assumption) (by (simp only [Around.deeper, Around.in1]; decide)) ?_) | (refine eq_nilF N9q (by k_memK) (by exact List.Mem.head _) (by with_reducible assumption) (by with_reducible assumption) (by (simp only [Around.deeper, Around.in1]; decide)) ?_))))) | ((with_reducible show wpAny _ _ (subscriptTail (Expr.Name _ _) (Expr.Name _ _) (Value.ref _) (Value.int _ _)) _ _ _); (k_dflt ((rename News _ _ _ _ => N9q); (refine kda_item (knd := intKind PR _) N9q (by k_memK) (by with_reducible assumption) (by exact intKind_is _ _ _ _) (by with_reducible assumption) ?_)))) | (((with_reducible show wpAny _ _ (eval (Expr.Name _ _) (compEnvC _ _ _ _)) _ _ _); k_dflt (first | (refine blk_C (by assumption) (by rfl) (by k_mem) (by assumption) ?_ (by rfl) (by rfl) (by decide)) | (refine blk_L (by assumption) (by rfl) (by assumption) ?_ (by rfl) (by rfl) (by decide))))) | ((with_reducible show wpAny _ _ (compareOp CmpOp.NotEq (Value.bool _) (Value.bool _)) _ _ _); (k_dflt (with_reducible refine ne_bsame ?_))) | ((k_dflt ((with_reducible show wpAny _ _ (call (Value.builtin "len") [Value.ref _]) _ _ _); (rename News _ _ _ _ => N9q); (refine len_news N9q (by k_memK) (by with_reducible assumption) (by first | with_reducible assumption | omega) ?_)))) | ((k_dflt ((with_reducible show wpAny _ _ (call (Value.ref 82) _) _ _ _); (rename Fr _ _ _ _ => F9q); (rename News _ _ _ _ => N9q); (refine c_neigh (by (exact ⟨Frag.In.keeps (by assumption) (Fr.keep (by assumption)), ⟨_, _, _, _, _, Top.keeps (by assumption) (Fr.keep (by assumption))⟩, rfl, by (simp only [Around.deeper, Around.in1]; decide), by (simp only [Around.deeper, Around.in1]; decide)⟩)) (isList_news N9q (by k_memK)) (by with_reducible assumption) (by omega) ?_; intro _ _ k9q; (have F8q := Fr.keepsK F9q k9q); (have N8q := News.keepsK N9q k9q); clear F9q N9q k9q)))) | ((k_dflt ((with_reducible show wpAny _ _ (call (Value.ref 28) _) _ _ _); (rename Fr _ _ _ _ => F9q); (rename News _ _ _ _ => N9q); (refine c_lev (by (exact ⟨Frag.In.keeps (by assumption) (Fr.keep (by assumption)), ⟨_, _, _, _, _, Top.keeps (by assumption) (Fr.keep (by assumption))⟩, rfl, by (simp only [Around.deeper, Around.in1]; decide), by (simp only [Around.deeper, Around.in1]; decide)⟩)) (by with_reducible assumption) (by with_reducible assumption) (by first | with_reducible assumption | omega) (by first | with_reducible assumption | omega) ?_; intro _ _ _ k9q; (have F8q := Fr.keepsK F9q k9q); (have N8q := News.keepsK N9q k9q); clear F9q N9q k9q)))) | ((k_dflt ((with_reducible show wpAny _ _ (call (Value.ref 94) _) _ _ _); (rename Fr _ _ _ _ => F9q); (rename News _ _ _ _ => N9q); (refine c_text (by (exact ⟨Frag.In.keeps (by assumption) (Fr.keep (by assumption)), ⟨_, _, _, _, _, Top.keeps (by assumption) (Fr.keep (by assumption))⟩, rfl, by (simp only [Around.deeper, Around.in1]; decide), by (simp only [Around.deeper, Around.in1]; decide)⟩)) (isList_news N9q (by k_memK)) (by with_reducible assumption) (by exact rfl) (by first | with_reducible assumption | omega) (by with_reducible assumption) (by with_reducible assumption) ?_; intro _ _ _ k9q; (have F8q := Fr.keepsK F9q k9q); (have N8q := News.keepsK N9q k9q); clear F9q N9q k9q)))) | ((with_reducible show wpAny _ _ (compareOp CmpOp.NotEq (Value.bytes _ _) (Value.bytes _ _)) _ _ _); (k_dflt (refine ne_same ?_))) | ((k_dflt ((with_reducible show wpAny _ _ (call (Value.ref 49) _) _ _ _); (refine c_ap (by (exact ⟨Frag.In.keeps (by assumption) (Fr.keep (by assumption)), ⟨_, _, _, _, _, Top.keeps (by assumption) (Fr.keep (by assumption))⟩, rfl, by (simp only [Around.deeper, Around.in1]; decide), by (simp only [Around.deeper, Around.in1]; decide)⟩)) (by with_reducible assumption) (by with_reducible assumption) (by with_reducible assumption) (by with_reducible assumption) ?_; intro _ _ _ k9q; (rename Fr _ _ _ _ => F9q); (rename News _ _ _ _ => N9q); (have F8q := Fr.keepsK F9q k9q); (have N8q := News.keepsK N9q k9q); clear F9q N9q k9q)))) | ((k_dflt ((with_reducible show wpAny _ _ (call (Value.ref 89) _) _ _ _); (rename Fr _ _ _ _ => F9q); (rename News _ _ _ _ => N9q); (refine c_number (by (exact ⟨Frag.In.keeps (by assumption) (Fr.keep (by assumption)), ⟨_, _, _, _, _, Top.keeps (by assumption) (Fr.keep (by assumption))⟩, rfl, by (simp only [Around.deeper, Around.in1]; decide), by (simp only [Around.deeper, Around.in1]; decide)⟩)) (isList_news N9q (by k_memK)) (by with_reducible assumption) ?_; intro _ _ _ k9q; (have F8q := Fr.keepsK F9q k9q); (have N8q := News.keepsK N9q k9q); clear F9q N9q k9q)))) | ((with_reducible show wpAny _ _ (subscriptTail (Expr.Name _ _) (Expr.Constant _ _ _) (Value.ref _) (Value.int _ _)) _ _ _); (k_dflt ((rename News _ _ _ _ => N9q); (refine at_listE (isList_news N9q (by k_memK)) (by with_reducible assumption) (by with_reducible assumption) (by rfl) (by omega) (by omega) ?_); intro _))) | ((k_dflt ((with_reducible show wpAny _ _ (call (Value.type _) [Value.ref _]) _ _ _); (refine list_range _ (by rfl) (by assumption) (by assumption) (by assumption) (by exact small_mine (by omega) (by omega) (by omega)) (by assumption) (by omega) ?_; intro _ _ _ _ _ _ l1q _ _; (try k_lt l1q))))) | ((k_dflt ((with_reducible show wpAny _ _ (call (Value.type _) [Value.int _ _, Value.int _ _, Value.int _ _]) _ _ _); (refine rng3 (by assumption) (by assumption) (by first | decide | omega) (by omega) ?_); intro _ _ _ _ _ _ _ _ _))) | ((k_dflt ((with_reducible show wpAny _ _ (call (Value.type _) [Value.int _ _, Value.int _ _]) _ _ _); (refine rng2 (by assumption) (by assumption) ?_); intro _ _ _ _ _ _ _ _ _))) | ((k_dflt ((with_reducible show wpAny _ _ (call (Value.builtin "len") [Value.ref _]) _ _ _); (rename News _ _ _ _ => N9q); (refine kda_len (knd := intKind PR _) N9q (by k_memK) (by with_reducible assumption) (by with_reducible assumption) (by omega) ?_)))) | ((k_dflt ((with_reducible show wpAny _ _ (binaryOp _ (Value.int (_ + 1) _) (Value.int 4 _)) _ _ _); (refine div_q2 (by exact fmod4 _) ?_)))) | walk1 | (dsimp only; walk1) | (leave1; try dsimp only))))
  rename Fr _ _ _ _ => F1
  rename News _ _ _ _ => N1
  refine' c_exch ?C (isList_news N1 (by k_memK)) hi1 (isList_news N1 (.head _)) (by assumption) ⟨by omega, by omega⟩ (by simp only [List.length_append, List.length_cons, List.length_nil, List.length_drop]; omega) ?_
  case C => (exact ⟨Frag.In.keeps (by assumption) (Fr.keep (by assumption)), ⟨_, _, _, _, _, Top.keeps (by assumption) (Fr.keep (by assumption))⟩, rfl, by (simp only [Around.deeper, Around.in1]; decide), by (simp only [Around.deeper, Around.in1]; decide)⟩)
  intro l2 vs2 ns2 k2 h3 tk3 kk hi2 hp2 hnone2 hsome2
  have hl2 : @Ne Nat l2 (s1.heap.objs.size + 1 + 1) := ne_made N1 (by k_memK) hnone2
  have F2 := Fr.keepsK F1 kk
  have N2 := News.addK F1 N1 kk hnone2 hsome2
  replace hp2 := hp2.trans hp1
  clear F1 N1 kk hnone2 hsome2
  (repeat' (first | (k_unfold; (try dsimp only)) | ((fail_if_success (with_reducible show wpAny _ _ (PySem.pyIter _) _ _ _)); (fail_if_success (with_reducible show wpAny _ _ (PySem.call (PySem.Value.ref _) _) _ _ _)); first | ((with_reducible show wpAny _ _ (compareOp CmpOp.Eq (Value.ref _) (Value.ref _)) _ _ _); (k_dflt ((rename News _ _ _ _ => N9q); (first | (refine eq_nilT N9q (by k_memK) (by exact List.Mem.head _) (by with_reducible assumption) (by with_reducible assumption) (by (simp only [Around.deeper, Around.in1]; decide)) ?_) | (refine eq_nilF N9q (by k_memK) (by exact List.Mem.head _) (by with_reducible assumption) (by with_reducible assumption) (by (simp only [Around.deeper, Around.in1]; decide)) ?_))))) | ((with_reducible show wpAny _ _ (subscriptTail (Expr.Name _ _) (Expr.Name _ _) (Value.ref _) (Value.int _ _)) _ _ _); (k_dflt ((rename News _ _ _ _ => N9q); (refine kda_item (knd := intKind PR _) N9q (by k_memK) (by with_reducible assumption) (by exact intKind_is _ _ _ _) (by with_reducible assumption) ?_)))) | (((with_reducible show wpAny _ _ (eval (Expr.Name _ _) (compEnvC _ _ _ _)) _ _ _); k_dflt (first | (refine blk_C (by assumption) (by rfl) (by k_mem) (by assumption) ?_ (by rfl) (by rfl) (by decide)) | (refine blk_L (by assumption) (by rfl) (by assumption) ?_ (by rfl) (by rfl) (by decide))))) | ((with_reducible show wpAny _ _ (compareOp CmpOp.NotEq (Value.bool _) (Value.bool _)) _ _ _); (k_dflt (with_reducible refine ne_bsame ?_))) | ((k_dflt ((with_reducible show wpAny _ _ (call (Value.builtin "len") [Value.ref _]) _ _ _); (rename News _ _ _ _ => N9q); (refine len_news N9q (by k_memK) (by with_reducible assumption) (by first | with_reducible assumption | omega) ?_)))) | ((k_dflt ((with_reducible show wpAny _ _ (call (Value.ref 82) _) _ _ _); (rename Fr _ _ _ _ => F9q); (rename News _ _ _ _ => N9q); (refine c_neigh (by (exact ⟨Frag.In.keeps (by assumption) (Fr.keep (by assumption)), ⟨_, _, _, _, _, Top.keeps (by assumption) (Fr.keep (by assumption))⟩, rfl, by (simp only [Around.deeper, Around.in1]; decide), by (simp only [Around.deeper, Around.in1]; decide)⟩)) (isList_news N9q (by k_memK)) (by with_reducible assumption) (by omega) ?_; intro _ _ k9q; (have F8q := Fr.keepsK F9q k9q); (have N8q := News.keepsK N9q k9q); clear F9q N9q k9q)))) | ((k_dflt ((with_reducible show wpAny _ _ (call (Value.ref 28) _) _ _ _); (rename Fr _ _ _ _ => F9q); (rename News _ _ _ _ => N9q); (refine c_lev (by (exact ⟨Frag.In.keeps (by assumption) (Fr.keep (by assumption)), ⟨_, _, _, _, _, Top.keeps (by assumption) (Fr.keep (by assumption))⟩, rfl, by (simp only [Around.deeper, Around.in1]; decide), by (simp only [Around.deeper, Around.in1]; decide)⟩)) (by with_reducible assumption) (by with_reducible assumption) (by first | with_reducible assumption | omega) (by first | with_reducible assumption | omega) ?_; intro _ _ _ k9q; (have F8q := Fr.keepsK F9q k9q); (have N8q := News.keepsK N9q k9q); clear F9q N9q k9q)))) | ((k_dflt ((with_reducible show wpAny _ _ (call (Value.ref 94) _) _ _ _); (rename Fr _ _ _ _ => F9q); (rename News _ _ _ _ => N9q); (refine c_text (by (exact ⟨Frag.In.keeps (by assumption) (Fr.keep (by assumption)), ⟨_, _, _, _, _, Top.keeps (by assumption) (Fr.keep (by assumption))⟩, rfl, by (simp only [Around.deeper, Around.in1]; decide), by (simp only [Around.deeper, Around.in1]; decide)⟩)) (isList_news N9q (by k_memK)) (by with_reducible assumption) (by exact rfl) (by first | with_reducible assumption | omega) (by with_reducible assumption) (by with_reducible assumption) ?_; intro _ _ _ k9q; (have F8q := Fr.keepsK F9q k9q); (have N8q := News.keepsK N9q k9q); clear F9q N9q k9q)))) | ((with_reducible show wpAny _ _ (compareOp CmpOp.NotEq (Value.bytes _ _) (Value.bytes _ _)) _ _ _); (k_dflt (refine ne_same ?_))) | ((k_dflt ((with_reducible show wpAny _ _ (call (Value.ref 49) _) _ _ _); (refine c_ap (by (exact ⟨Frag.In.keeps (by assumption) (Fr.keep (by assumption)), ⟨_, _, _, _, _, Top.keeps (by assumption) (Fr.keep (by assumption))⟩, rfl, by (simp only [Around.deeper, Around.in1]; decide), by (simp only [Around.deeper, Around.in1]; decide)⟩)) (by with_reducible assumption) (by with_reducible assumption) (by with_reducible assumption) (by with_reducible assumption) ?_; intro _ _ _ k9q; (rename Fr _ _ _ _ => F9q); (rename News _ _ _ _ => N9q); (have F8q := Fr.keepsK F9q k9q); (have N8q := News.keepsK N9q k9q); clear F9q N9q k9q)))) | ((k_dflt ((with_reducible show wpAny _ _ (call (Value.ref 89) _) _ _ _); (rename Fr _ _ _ _ => F9q); (rename News _ _ _ _ => N9q); (refine c_number (by (exact ⟨Frag.In.keeps (by assumption) (Fr.keep (by assumption)), ⟨_, _, _, _, _, Top.keeps (by assumption) (Fr.keep (by assumption))⟩, rfl, by (simp only [Around.deeper, Around.in1]; decide), by (simp only [Around.deeper, Around.in1]; decide)⟩)) (isList_news N9q (by k_memK)) (by with_reducible assumption) ?_; intro _ _ _ k9q; (have F8q := Fr.keepsK F9q k9q); (have N8q := News.keepsK N9q k9q); clear F9q N9q k9q)))) | ((with_reducible show wpAny _ _ (subscriptTail (Expr.Name _ _) (Expr.Constant _ _ _) (Value.ref _) (Value.int _ _)) _ _ _); (k_dflt ((rename News _ _ _ _ => N9q); (refine at_listE (isList_news N9q (by k_memK)) (by with_reducible assumption) (by with_reducible assumption) (by rfl) (by omega) (by omega) ?_); intro _))) | ((k_dflt ((with_reducible show wpAny _ _ (call (Value.type _) [Value.ref _]) _ _ _); (refine list_range _ (by rfl) (by assumption) (by assumption) (by assumption) (by exact small_mine (by omega) (by omega) (by omega)) (by assumption) (by omega) ?_; intro _ _ _ _ _ _ l1q _ _; (try k_lt l1q))))) | ((k_dflt ((with_reducible show wpAny _ _ (call (Value.type _) [Value.int _ _, Value.int _ _, Value.int _ _]) _ _ _); (refine rng3 (by assumption) (by assumption) (by first | decide | omega) (by omega) ?_); intro _ _ _ _ _ _ _ _ _))) | ((k_dflt ((with_reducible show wpAny _ _ (call (Value.type _) [Value.int _ _, Value.int _ _]) _ _ _); (refine rng2 (by assumption) (by assumption) ?_); intro _ _ _ _ _ _ _ _ _))) | ((k_dflt ((with_reducible show wpAny _ _ (call (Value.builtin "len") [Value.ref _]) _ _ _); (rename News _ _ _ _ => N9q); (refine kda_len (knd := intKind PR _) N9q (by k_memK) (by with_reducible assumption) (by with_reducible assumption) (by omega) ?_)))) | ((k_dflt ((with_reducible show wpAny _ _ (binaryOp _ (Value.int (_ + 1) _) (Value.int 4 _)) _ _ _); (refine div_q2 (by exact fmod4 _) ?_)))) | walk1 | (dsimp only; walk1) | (leave1; try dsimp only))))
  rename Fr _ _ _ _ => F1
  rename News _ _ _ _ => N1
  rename Addr => lst
  refine' for_listT2 (σ := Obj) (vs := [.ref l1, .ref l2]) (fun l => [(l, listOf #[.ref l1, .ref l2] 0), (l1, listOf vs1.toArray k1), (l2, listOf vs2.toArray k2), (s1.heap.objs.size + 1, oh)]) (fun c => (s1.heap.objs.size + 1 + 1, c) :: (d, od) :: rowsLed rows) (fun _ => [(Str.ofString "size", .int (n : Int) t)])
    (fun _ c => ∃ v, c.data = .cell v) ok ?hh ?hl ?hlc F1 N1 ?hnews ?hp0 ?hj ?turn ?done
  case hh => rfl
  case hl => exact isList_news N1 (.head _)
  case hlc => exact ⟨_, .head _⟩
  case hnews => refine List.forall_mem_cons.mpr ⟨by k_memK, List.forall_mem_cons.mpr ⟨by k_memK, List.forall_mem_cons.mpr ⟨by k_memK, List.forall_mem_cons.mpr ⟨by k_memK, List.forall_mem_cons.mpr ⟨by k_memK, List.forall_mem_cons.mpr ⟨by k_memK, ?_⟩⟩⟩⟩⟩⟩; intro p hp; (repeat (first | exact hp | apply List.Mem.tail))
  case hp0 => ((repeat' (first | exact List.forall_mem_nil _ | (refine List.forall_mem_cons.mpr ⟨by with_unfolding_all rfl, ?_⟩))))
  case hj => exact ⟨_, hdk⟩
  case done =>
    clear F1 N1
    rintro c u' h4 tk4 - F1 N1
    (repeat' (first | (k_unfold; (try dsimp only)) | ((with_reducible show wpAny _ _ (PySem.exec (PySem.Stmt.Return (some (PySem.Expr.Constant (PySem.Const.bool false) _ _)) _) _) _ _ _); exfalso; first | assumption | contradiction | omega) | ((fail_if_success (with_reducible show wpAny _ _ (PySem.exec (PySem.Stmt.For _ _ _ _ _) _) _ _ _)); (fail_if_success (with_reducible show wpAny _ _ (PySem.call (PySem.Value.ref _) _) _ _ _)); first | ((with_reducible show wpAny _ _ (compareOp CmpOp.Eq (Value.ref _) (Value.ref _)) _ _ _); (k_dflt ((rename News _ _ _ _ => N9q); (first | (refine eq_nilT N9q (by k_memK) (by exact List.Mem.head _) (by with_reducible assumption) (by with_reducible assumption) (by (simp only [Around.deeper, Around.in1]; decide)) ?_) | (refine eq_nilF N9q (by k_memK) (by exact List.Mem.head _) (by with_reducible assumption) (by with_reducible assumption) (by (simp only [Around.deeper, Around.in1]; decide)) ?_))))) | ((with_reducible show wpAny _ _ (subscriptTail (Expr.Name _ _) (Expr.Name _ _) (Value.ref _) (Value.int _ _)) _ _ _); (k_dflt ((rename News _ _ _ _ => N9q); (refine kda_item (knd := intKind PR _) N9q (by k_memK) (by with_reducible assumption) (by exact intKind_is _ _ _ _) (by with_reducible assumption) ?_)))) | (((with_reducible show wpAny _ _ (eval (Expr.Name _ _) (compEnvC _ _ _ _)) _ _ _); k_dflt (first | (refine blk_C (by assumption) (by rfl) (by k_mem) (by assumption) ?_ (by rfl) (by rfl) (by decide)) | (refine blk_L (by assumption) (by rfl) (by assumption) ?_ (by rfl) (by rfl) (by decide))))) | ((with_reducible show wpAny _ _ (compareOp CmpOp.NotEq (Value.bool _) (Value.bool _)) _ _ _); (k_dflt (with_reducible refine ne_bsame ?_))) | ((k_dflt ((with_reducible show wpAny _ _ (call (Value.builtin "len") [Value.ref _]) _ _ _); (rename News _ _ _ _ => N9q); (refine len_news N9q (by k_memK) (by with_reducible assumption) (by first | with_reducible assumption | omega) ?_)))) | ((k_dflt ((with_reducible show wpAny _ _ (call (Value.ref 82) _) _ _ _); (rename Fr _ _ _ _ => F9q); (rename News _ _ _ _ => N9q); (refine c_neigh (by (exact ⟨Frag.In.keeps (by assumption) (Fr.keep (by assumption)), ⟨_, _, _, _, _, Top.keeps (by assumption) (Fr.keep (by assumption))⟩, rfl, by (simp only [Around.deeper, Around.in1]; decide), by (simp only [Around.deeper, Around.in1]; decide)⟩)) (isList_news N9q (by k_memK)) (by with_reducible assumption) (by omega) ?_; intro _ _ k9q; (have F8q := Fr.keepsK F9q k9q); (have N8q := News.keepsK N9q k9q); clear F9q N9q k9q)))) | ((k_dflt ((with_reducible show wpAny _ _ (call (Value.ref 28) _) _ _ _); (rename Fr _ _ _ _ => F9q); (rename News _ _ _ _ => N9q); (refine c_lev (by (exact ⟨Frag.In.keeps (by assumption) (Fr.keep (by assumption)), ⟨_, _, _, _, _, Top.keeps (by assumption) (Fr.keep (by assumption))⟩, rfl, by (simp only [Around.deeper, Around.in1]; decide), by (simp only [Around.deeper, Around.in1]; decide)⟩)) (by with_reducible assumption) (by with_reducible assumption) (by first | with_reducible assumption | omega) (by first | with_reducible assumption | omega) ?_; intro _ _ _ k9q; (have F8q := Fr.keepsK F9q k9q); (have N8q := News.keepsK N9q k9q); clear F9q N9q k9q)))) | ((k_dflt ((with_reducible show wpAny _ _ (call (Value.ref 94) _) _ _ _); (rename Fr _ _ _ _ => F9q); (rename News _ _ _ _ => N9q); (refine c_text (by (exact ⟨Frag.In.keeps (by assumption) (Fr.keep (by assumption)), ⟨_, _, _, _, _, Top.keeps (by assumption) (Fr.keep (by assumption))⟩, rfl, by (simp only [Around.deeper, Around.in1]; decide), by (simp only [Around.deeper, Around.in1]; decide)⟩)) (isList_news N9q (by k_memK)) (by with_reducible assumption) (by exact rfl) (by first | with_reducible assumption | omega) (by with_reducible assumption) (by with_reducible assumption) ?_; intro _ _ _ k9q; (have F8q := Fr.keepsK F9q k9q); (have N8q := News.keepsK N9q k9q); clear F9q N9q k9q)))) | ((with_reducible show wpAny _ _ (compareOp CmpOp.NotEq (Value.bytes _ _) (Value.bytes _ _)) _ _ _); (k_dflt (refine ne_same ?_))) | ((k_dflt ((with_reducible show wpAny _ _ (call (Value.ref 49) _) _ _ _); (refine c_ap (by (exact ⟨Frag.In.keeps (by assumption) (Fr.keep (by assumption)), ⟨_, _, _, _, _, Top.keeps (by assumption) (Fr.keep (by assumption))⟩, rfl, by (simp only [Around.deeper, Around.in1]; decide), by (simp only [Around.deeper, Around.in1]; decide)⟩)) (by with_reducible assumption) (by with_reducible assumption) (by with_reducible assumption) (by with_reducible assumption) ?_; intro _ _ _ k9q; (rename Fr _ _ _ _ => F9q); (rename News _ _ _ _ => N9q); (have F8q := Fr.keepsK F9q k9q); (have N8q := News.keepsK N9q k9q); clear F9q N9q k9q)))) | ((k_dflt ((with_reducible show wpAny _ _ (call (Value.ref 89) _) _ _ _); (rename Fr _ _ _ _ => F9q); (rename News _ _ _ _ => N9q); (refine c_number (by (exact ⟨Frag.In.keeps (by assumption) (Fr.keep (by assumption)), ⟨_, _, _, _, _, Top.keeps (by assumption) (Fr.keep (by assumption))⟩, rfl, by (simp only [Around.deeper, Around.in1]; decide), by (simp only [Around.deeper, Around.in1]; decide)⟩)) (isList_news N9q (by k_memK)) (by with_reducible assumption) ?_; intro _ _ _ k9q; (have F8q := Fr.keepsK F9q k9q); (have N8q := News.keepsK N9q k9q); clear F9q N9q k9q)))) | ((with_reducible show wpAny _ _ (subscriptTail (Expr.Name _ _) (Expr.Constant _ _ _) (Value.ref _) (Value.int _ _)) _ _ _); (k_dflt ((rename News _ _ _ _ => N9q); (refine at_listE (isList_news N9q (by k_memK)) (by with_reducible assumption) (by with_reducible assumption) (by rfl) (by omega) (by omega) ?_); intro _))) | ((k_dflt ((with_reducible show wpAny _ _ (call (Value.type _) [Value.ref _]) _ _ _); (refine list_range _ (by rfl) (by assumption) (by assumption) (by assumption) (by exact small_mine (by omega) (by omega) (by omega)) (by assumption) (by omega) ?_; intro _ _ _ _ _ _ l1q _ _; (try k_lt l1q))))) | ((k_dflt ((with_reducible show wpAny _ _ (call (Value.type _) [Value.int _ _, Value.int _ _, Value.int _ _]) _ _ _); (refine rng3 (by assumption) (by assumption) (by first | decide | omega) (by omega) ?_); intro _ _ _ _ _ _ _ _ _))) | ((k_dflt ((with_reducible show wpAny _ _ (call (Value.type _) [Value.int _ _, Value.int _ _]) _ _ _); (refine rng2 (by assumption) (by assumption) ?_); intro _ _ _ _ _ _ _ _ _))) | ((k_dflt ((with_reducible show wpAny _ _ (call (Value.builtin "len") [Value.ref _]) _ _ _); (rename News _ _ _ _ => N9q); (refine kda_len (knd := intKind PR _) N9q (by k_memK) (by with_reducible assumption) (by with_reducible assumption) (by omega) ?_)))) | ((k_dflt ((with_reducible show wpAny _ _ (binaryOp _ (Value.int (_ + 1) _) (Value.int 4 _)) _ _ _); (refine div_q2 (by exact fmod4 _) ?_)))) | walk1 | (dsimp only; walk1) | (leave1; try dsimp only))))
    exact goodW_bool F1 (by assumption) (fun _ => by with_unfolding_all rfl) (by with_unfolding_all rfl)
  case turn =>
    rintro i v c u' s2 I io hv ⟨v0, hc⟩ F N hlI hcI
    try dsimp only at F N hlI hcI ⊢
    simp only [List.cons_append, List.nil_append] at N
    have hIc : @Ne Nat I (s1.heap.objs.size + 1 + 1) := fun e => hlI _ (.head _) e.symm
    refine wpAny_assign_Name (storeX_C (c := s1.heap.objs.size + 1 + 1) F N (by with_unfolding_all rfl) (updF_of (pre := [_, _, _, _, _]) (post := (d, od) :: rowsLed rows) ?u1 fun p hp => (hne p hp).2) hc ?_ rfl (by with_unfolding_all rfl))
    case u1 => repeat' (first | exact List.forall_mem_nil _ | (refine List.forall_mem_cons.mpr ⟨by (show @Ne Nat _ _); dsimp only; omega, ?_⟩))
    intro h4 o4 F4 N4 hd4
    simp only [List.cons_append, List.nil_append] at N4
    obtain ⟨lD, vsD, nsD, kD, rest, hvD, hiD, hpD, N5, hrest, hback⟩ : ∃ lD vsD nsD kD rest, v = .ref lD ∧ IntsAre vsD nsD ∧ nsD.Perm ((List.range' 1 n).map fun (k : Nat) => (k : Int)) ∧ News s1.heap s1.heap.objs.size h4 ((lD, listOf vsD.toArray kD) :: (s1.heap.objs.size + 1, oh) :: (s1.heap.objs.size + 1 + 1, o4) :: (d, od) :: rest) ∧
        (∀ p ∈ rowsLed rows, p ∈ rest) ∧ (∀ p, p ∈ (I, io) :: (lst, listOf #[.ref l1, .ref l2] 0) :: (l1, listOf vs1.toArray k1) :: (l2, listOf vs2.toArray k2) :: rowsLed rows → p ∈ (lD, listOf vsD.toArray kD) :: rest) := by
      rcases i with _ | _ | i
      · refine ⟨l1, vs1, ns1, k1, (I, io) :: (lst, listOf #[.ref l1, .ref l2] 0) :: (l2, listOf vs2.toArray k2) :: rowsLed rows, (Option.some.inj hv).symm, hi1, hp1, fun p hp => N4 p ?_, fun p hp => .tail _ (.tail _ (.tail _ hp)), fun p hp => ?_⟩
        · simp only [List.mem_cons] at hp ⊢
          rcases hp with hp | hp | hp | hp | hp | hp | hp | hp <;> simp only [hp, true_or, or_true]
        · simp only [List.mem_cons] at hp ⊢
          rcases hp with hp | hp | hp | hp | hp <;> simp only [hp, true_or, or_true]
      · refine ⟨l2, vs2, ns2, k2, (I, io) :: (lst, listOf #[.ref l1, .ref l2] 0) :: (l1, listOf vs1.toArray k1) :: rowsLed rows, (Option.some.inj hv).symm, hi2, hp2, fun p hp => N4 p ?_, fun p hp => .tail _ (.tail _ (.tail _ hp)), fun p hp => ?_⟩
        · simp only [List.mem_cons] at hp ⊢
          rcases hp with hp | hp | hp | hp | hp | hp | hp | hp <;> simp only [hp, true_or, or_true]
        · simp only [List.mem_cons] at hp ⊢
          rcases hp with hp | hp | hp | hp | hp <;> simp only [hp, true_or, or_true]
      · cases hv
    subst hvD
    replace hrl : ∀ _ : Unit, rows.length = n - 1 := fun _ => hrl
    clear N4 hv hi1 hi2 hl1 hl2 hp1 hp2 hnc hnm hneD hneD2 edl ey hdl hlen1 hnc5 hnm5 hkl
    repeat (rename @Eq Int _ _ => zz; clear zz)
    repeat (rename @LT.lt _ _ _ _ ∧ _ => zz; clear zz)
    repeat (rename @Eq Nat (List.length _) _ => zz; clear zz)
    repeat (rename @LE.le Nat _ (List.length _) _ => zz; clear zz)
    obtain ⟨ds, rfl, hds⟩ := cards_of hpD
    clear hpD
    have hfull := deck_full hn hds
    obtain ⟨hd0, hd1, hd2⟩ := head_facts (by omega) hds
    obtain ⟨hdl0, hdx⟩ := perm_facts hds
    have h8d : ds.length ≤ 8 := le8 hdl0 hn.2
    have hcl : (castsI ds).length = n := (castsI_length ds).trans hdl0
    have hdl : ∀ _ : Unit, ds.length = n := fun _ => hdl0
    clear hdl0
    change IntsAre vsD (castsI ds) at hiD
    generalize hd0e : ds.headD 0 = d0 at hd0 hd1 hd2
    have hcast : ∀ z ∈ castsI ds, 1 ≤ z ∧ z ≤ (n : Int) := fun z hz => by
      obtain ⟨x, hx, rfl⟩ := mem_casts.mp hz
      have := hdx x hx
      omega
    have hrsu := rsz d0 n
    have hrsd := rsDn hd1
    refine execs_mid (σ := Row) (L := s1.heap.objs.size) s1.heap (fun c => (c.l, listOf c.vs.toArray c.k) :: (lD, listOf vsD.toArray kD) :: (s1.heap.objs.size + 1, oh) :: (s1.heap.objs.size + 1 + 1, o4) :: (d, od) :: rest)
      (fun c => [(Str.ofString "up", .ref c.l), (Str.ofString "size", .int (n : Int) t)])
      (fun c => IntsAre c.vs (castsI (upN n d0))) ?g1 ?g2
    case g1 =>

      (repeat' (first | (k_unfold; (try dsimp only)) | ((with_reducible show wpAny _ _ (PySem.exec (PySem.Stmt.Return (some (PySem.Expr.Constant (PySem.Const.bool false) _ _)) _) _) _ _ _); exfalso; first | assumption | contradiction | omega) | ((fail_if_success (with_reducible show wpAny _ _ (PySem.exec (PySem.Stmt.For _ _ _ _ _) _) _ _ _)); (fail_if_success (with_reducible show wpAny _ _ (PySem.call (PySem.Value.ref _) _) _ _ _)); first | ((with_reducible show wpAny _ _ (compareOp CmpOp.Eq (Value.ref _) (Value.ref _)) _ _ _); (k_dflt ((rename News _ _ _ _ => N9q); (first | (refine eq_nilT N9q (by k_memK) (by exact List.Mem.head _) (by with_reducible assumption) (by with_reducible assumption) (by (simp only [Around.deeper, Around.in1]; decide)) ?_) | (refine eq_nilF N9q (by k_memK) (by exact List.Mem.head _) (by with_reducible assumption) (by with_reducible assumption) (by (simp only [Around.deeper, Around.in1]; decide)) ?_))))) | ((with_reducible show wpAny _ _ (subscriptTail (Expr.Name _ _) (Expr.Name _ _) (Value.ref _) (Value.int _ _)) _ _ _); (k_dflt ((rename News _ _ _ _ => N9q); (refine kda_item (knd := intKind PR _) N9q (by k_memK) (by with_reducible assumption) (by exact intKind_is _ _ _ _) (by with_reducible assumption) ?_)))) | (((with_reducible show wpAny _ _ (eval (Expr.Name _ _) (compEnvC _ _ _ _)) _ _ _); k_dflt (first | (refine blk_C (by assumption) (by rfl) (by k_mem) (by assumption) ?_ (by rfl) (by rfl) (by decide)) | (refine blk_L (by assumption) (by rfl) (by assumption) ?_ (by rfl) (by rfl) (by decide))))) | ((with_reducible show wpAny _ _ (compareOp CmpOp.NotEq (Value.bool _) (Value.bool _)) _ _ _); (k_dflt (with_reducible refine ne_bsame ?_))) | ((k_dflt ((with_reducible show wpAny _ _ (call (Value.builtin "len") [Value.ref _]) _ _ _); (rename News _ _ _ _ => N9q); (refine len_news N9q (by k_memK) (by with_reducible assumption) (by first | with_reducible assumption | omega) ?_)))) | ((k_dflt ((with_reducible show wpAny _ _ (call (Value.ref 82) _) _ _ _); (rename Fr _ _ _ _ => F9q); (rename News _ _ _ _ => N9q); (refine c_neigh (by (exact ⟨Frag.In.keeps (by assumption) (Fr.keep (by assumption)), ⟨_, _, _, _, _, Top.keeps (by assumption) (Fr.keep (by assumption))⟩, rfl, by (simp only [Around.deeper, Around.in1]; decide), by (simp only [Around.deeper, Around.in1]; decide)⟩)) (isList_news N9q (by k_memK)) (by with_reducible assumption) (by omega) ?_; intro _ _ k9q; (have F8q := Fr.keepsK F9q k9q); (have N8q := News.keepsK N9q k9q); clear F9q N9q k9q)))) | ((k_dflt ((with_reducible show wpAny _ _ (call (Value.ref 28) _) _ _ _); (rename Fr _ _ _ _ => F9q); (rename News _ _ _ _ => N9q); (refine c_lev (by (exact ⟨Frag.In.keeps (by assumption) (Fr.keep (by assumption)), ⟨_, _, _, _, _, Top.keeps (by assumption) (Fr.keep (by assumption))⟩, rfl, by (simp only [Around.deeper, Around.in1]; decide), by (simp only [Around.deeper, Around.in1]; decide)⟩)) (by with_reducible assumption) (by with_reducible assumption) (by first | with_reducible assumption | omega) (by first | with_reducible assumption | omega) ?_; intro _ _ _ k9q; (have F8q := Fr.keepsK F9q k9q); (have N8q := News.keepsK N9q k9q); clear F9q N9q k9q)))) | ((k_dflt ((with_reducible show wpAny _ _ (call (Value.ref 94) _) _ _ _); (rename Fr _ _ _ _ => F9q); (rename News _ _ _ _ => N9q); (refine c_text (by (exact ⟨Frag.In.keeps (by assumption) (Fr.keep (by assumption)), ⟨_, _, _, _, _, Top.keeps (by assumption) (Fr.keep (by assumption))⟩, rfl, by (simp only [Around.deeper, Around.in1]; decide), by (simp only [Around.deeper, Around.in1]; decide)⟩)) (isList_news N9q (by k_memK)) (by with_reducible assumption) (by exact rfl) (by first | with_reducible assumption | omega) (by with_reducible assumption) (by with_reducible assumption) ?_; intro _ _ _ k9q; (have F8q := Fr.keepsK F9q k9q); (have N8q := News.keepsK N9q k9q); clear F9q N9q k9q)))) | ((with_reducible show wpAny _ _ (compareOp CmpOp.NotEq (Value.bytes _ _) (Value.bytes _ _)) _ _ _); (k_dflt (refine ne_same ?_))) | ((k_dflt ((with_reducible show wpAny _ _ (call (Value.ref 49) _) _ _ _); (refine c_ap (by (exact ⟨Frag.In.keeps (by assumption) (Fr.keep (by assumption)), ⟨_, _, _, _, _, Top.keeps (by assumption) (Fr.keep (by assumption))⟩, rfl, by (simp only [Around.deeper, Around.in1]; decide), by (simp only [Around.deeper, Around.in1]; decide)⟩)) (by with_reducible assumption) (by with_reducible assumption) (by with_reducible assumption) (by with_reducible assumption) ?_; intro _ _ _ k9q; (rename Fr _ _ _ _ => F9q); (rename News _ _ _ _ => N9q); (have F8q := Fr.keepsK F9q k9q); (have N8q := News.keepsK N9q k9q); clear F9q N9q k9q)))) | ((k_dflt ((with_reducible show wpAny _ _ (call (Value.ref 89) _) _ _ _); (rename Fr _ _ _ _ => F9q); (rename News _ _ _ _ => N9q); (refine c_number (by (exact ⟨Frag.In.keeps (by assumption) (Fr.keep (by assumption)), ⟨_, _, _, _, _, Top.keeps (by assumption) (Fr.keep (by assumption))⟩, rfl, by (simp only [Around.deeper, Around.in1]; decide), by (simp only [Around.deeper, Around.in1]; decide)⟩)) (isList_news N9q (by k_memK)) (by with_reducible assumption) ?_; intro _ _ _ k9q; (have F8q := Fr.keepsK F9q k9q); (have N8q := News.keepsK N9q k9q); clear F9q N9q k9q)))) | ((with_reducible show wpAny _ _ (subscriptTail (Expr.Name _ _) (Expr.Constant _ _ _) (Value.ref _) (Value.int _ _)) _ _ _); (k_dflt ((rename News _ _ _ _ => N9q); (refine at_listE (isList_news N9q (by k_memK)) (by with_reducible assumption) (by with_reducible assumption) (by rfl) (by omega) (by omega) ?_); intro _))) | ((k_dflt ((with_reducible show wpAny _ _ (call (Value.type _) [Value.ref _]) _ _ _); (refine list_range _ (by rfl) (by assumption) (by assumption) (by assumption) (by exact small_mine (by omega) (by omega) (by omega)) (by assumption) (by omega) ?_; intro _ _ _ _ _ _ l1q _ _; (try k_lt l1q))))) | ((k_dflt ((with_reducible show wpAny _ _ (call (Value.type _) [Value.int _ _, Value.int _ _, Value.int _ _]) _ _ _); (refine rng3 (by assumption) (by assumption) (by first | decide | omega) (by omega) ?_); intro _ _ _ _ _ _ _ _ _))) | ((k_dflt ((with_reducible show wpAny _ _ (call (Value.type _) [Value.int _ _, Value.int _ _]) _ _ _); (refine rng2 (by assumption) (by assumption) ?_); intro _ _ _ _ _ _ _ _ _))) | ((k_dflt ((with_reducible show wpAny _ _ (call (Value.builtin "len") [Value.ref _]) _ _ _); (rename News _ _ _ _ => N9q); (refine kda_len (knd := intKind PR _) N9q (by k_memK) (by with_reducible assumption) (by with_reducible assumption) (by omega) ?_)))) | ((k_dflt ((with_reducible show wpAny _ _ (binaryOp _ (Value.int (_ + 1) _) (Value.int 4 _)) _ _ _); (refine div_q2 (by exact fmod4 _) ?_)))) | walk1 | (dsimp only; walk1) | (leave1; try dsimp only))))
      refine' ExitW.here ⟨_, _, _⟩ ?Fx1 ?Nx1 ?nx1 ?hpx1 ?Px1
      case Fx1 => assumption
      case Nx1 => assumption
      case nx1 => exact List.forall_mem_cons.mpr ⟨by k_memK, fun p hp => .tail _ hp⟩
      case hpx1 => ((repeat' (first | exact List.forall_mem_nil _ | (refine List.forall_mem_cons.mpr ⟨by with_unfolding_all rfl, ?_⟩))))
      case Px1 => (dsimp only; rw [← up_ints]; assumption)

    case g2 =>
    clear F4 N5
    rintro ⟨lu, vu, ku⟩ u5 h5 tk5 hiu F5 N5
    dsimp only at hiu F5 N5 ⊢
    refine execs_mid (σ := Row) (L := s1.heap.objs.size) s1.heap (fun c => (c.l, listOf c.vs.toArray c.k) :: (lu, listOf vu.toArray ku) :: (lD, listOf vsD.toArray kD) :: (s1.heap.objs.size + 1, oh) :: (s1.heap.objs.size + 1 + 1, o4) :: (d, od) :: rest)
      (fun c => [(Str.ofString "down", .ref c.l), (Str.ofString "up", .ref lu), (Str.ofString "size", .int (n : Int) t)])
      (fun c => IntsAre c.vs (castsI (downN d0))) ?g3 ?g4
    case g3 =>

      (repeat' (first | (k_unfold; (try dsimp only)) | ((with_reducible show wpAny _ _ (PySem.exec (PySem.Stmt.Return (some (PySem.Expr.Constant (PySem.Const.bool false) _ _)) _) _) _ _ _); exfalso; first | assumption | contradiction | omega) | ((fail_if_success (with_reducible show wpAny _ _ (PySem.exec (PySem.Stmt.For _ _ _ _ _) _) _ _ _)); (fail_if_success (with_reducible show wpAny _ _ (PySem.call (PySem.Value.ref _) _) _ _ _)); first | ((with_reducible show wpAny _ _ (compareOp CmpOp.Eq (Value.ref _) (Value.ref _)) _ _ _); (k_dflt ((rename News _ _ _ _ => N9q); (first | (refine eq_nilT N9q (by k_memK) (by exact List.Mem.head _) (by with_reducible assumption) (by with_reducible assumption) (by (simp only [Around.deeper, Around.in1]; decide)) ?_) | (refine eq_nilF N9q (by k_memK) (by exact List.Mem.head _) (by with_reducible assumption) (by with_reducible assumption) (by (simp only [Around.deeper, Around.in1]; decide)) ?_))))) | ((with_reducible show wpAny _ _ (subscriptTail (Expr.Name _ _) (Expr.Name _ _) (Value.ref _) (Value.int _ _)) _ _ _); (k_dflt ((rename News _ _ _ _ => N9q); (refine kda_item (knd := intKind PR _) N9q (by k_memK) (by with_reducible assumption) (by exact intKind_is _ _ _ _) (by with_reducible assumption) ?_)))) | (((with_reducible show wpAny _ _ (eval (Expr.Name _ _) (compEnvC _ _ _ _)) _ _ _); k_dflt (first | (refine blk_C (by assumption) (by rfl) (by k_mem) (by assumption) ?_ (by rfl) (by rfl) (by decide)) | (refine blk_L (by assumption) (by rfl) (by assumption) ?_ (by rfl) (by rfl) (by decide))))) | ((with_reducible show wpAny _ _ (compareOp CmpOp.NotEq (Value.bool _) (Value.bool _)) _ _ _); (k_dflt (with_reducible refine ne_bsame ?_))) | ((k_dflt ((with_reducible show wpAny _ _ (call (Value.builtin "len") [Value.ref _]) _ _ _); (rename News _ _ _ _ => N9q); (refine len_news N9q (by k_memK) (by with_reducible assumption) (by first | with_reducible assumption | omega) ?_)))) | ((k_dflt ((with_reducible show wpAny _ _ (call (Value.ref 82) _) _ _ _); (rename Fr _ _ _ _ => F9q); (rename News _ _ _ _ => N9q); (refine c_neigh (by (exact ⟨Frag.In.keeps (by assumption) (Fr.keep (by assumption)), ⟨_, _, _, _, _, Top.keeps (by assumption) (Fr.keep (by assumption))⟩, rfl, by (simp only [Around.deeper, Around.in1]; decide), by (simp only [Around.deeper, Around.in1]; decide)⟩)) (isList_news N9q (by k_memK)) (by with_reducible assumption) (by omega) ?_; intro _ _ k9q; (have F8q := Fr.keepsK F9q k9q); (have N8q := News.keepsK N9q k9q); clear F9q N9q k9q)))) | ((k_dflt ((with_reducible show wpAny _ _ (call (Value.ref 28) _) _ _ _); (rename Fr _ _ _ _ => F9q); (rename News _ _ _ _ => N9q); (refine c_lev (by (exact ⟨Frag.In.keeps (by assumption) (Fr.keep (by assumption)), ⟨_, _, _, _, _, Top.keeps (by assumption) (Fr.keep (by assumption))⟩, rfl, by (simp only [Around.deeper, Around.in1]; decide), by (simp only [Around.deeper, Around.in1]; decide)⟩)) (by with_reducible assumption) (by with_reducible assumption) (by first | with_reducible assumption | omega) (by first | with_reducible assumption | omega) ?_; intro _ _ _ k9q; (have F8q := Fr.keepsK F9q k9q); (have N8q := News.keepsK N9q k9q); clear F9q N9q k9q)))) | ((k_dflt ((with_reducible show wpAny _ _ (call (Value.ref 94) _) _ _ _); (rename Fr _ _ _ _ => F9q); (rename News _ _ _ _ => N9q); (refine c_text (by (exact ⟨Frag.In.keeps (by assumption) (Fr.keep (by assumption)), ⟨_, _, _, _, _, Top.keeps (by assumption) (Fr.keep (by assumption))⟩, rfl, by (simp only [Around.deeper, Around.in1]; decide), by (simp only [Around.deeper, Around.in1]; decide)⟩)) (isList_news N9q (by k_memK)) (by with_reducible assumption) (by exact rfl) (by first | with_reducible assumption | omega) (by with_reducible assumption) (by with_reducible assumption) ?_; intro _ _ _ k9q; (have F8q := Fr.keepsK F9q k9q); (have N8q := News.keepsK N9q k9q); clear F9q N9q k9q)))) | ((with_reducible show wpAny _ _ (compareOp CmpOp.NotEq (Value.bytes _ _) (Value.bytes _ _)) _ _ _); (k_dflt (refine ne_same ?_))) | ((k_dflt ((with_reducible show wpAny _ _ (call (Value.ref 49) _) _ _ _); (refine c_ap (by (exact ⟨Frag.In.keeps (by assumption) (Fr.keep (by assumption)), ⟨_, _, _, _, _, Top.keeps (by assumption) (Fr.keep (by assumption))⟩, rfl, by (simp only [Around.deeper, Around.in1]; decide), by (simp only [Around.deeper, Around.in1]; decide)⟩)) (by with_reducible assumption) (by with_reducible assumption) (by with_reducible assumption) (by with_reducible assumption) ?_; intro _ _ _ k9q; (rename Fr _ _ _ _ => F9q); (rename News _ _ _ _ => N9q); (have F8q := Fr.keepsK F9q k9q); (have N8q := News.keepsK N9q k9q); clear F9q N9q k9q)))) | ((k_dflt ((with_reducible show wpAny _ _ (call (Value.ref 89) _) _ _ _); (rename Fr _ _ _ _ => F9q); (rename News _ _ _ _ => N9q); (refine c_number (by (exact ⟨Frag.In.keeps (by assumption) (Fr.keep (by assumption)), ⟨_, _, _, _, _, Top.keeps (by assumption) (Fr.keep (by assumption))⟩, rfl, by (simp only [Around.deeper, Around.in1]; decide), by (simp only [Around.deeper, Around.in1]; decide)⟩)) (isList_news N9q (by k_memK)) (by with_reducible assumption) ?_; intro _ _ _ k9q; (have F8q := Fr.keepsK F9q k9q); (have N8q := News.keepsK N9q k9q); clear F9q N9q k9q)))) | ((with_reducible show wpAny _ _ (subscriptTail (Expr.Name _ _) (Expr.Constant _ _ _) (Value.ref _) (Value.int _ _)) _ _ _); (k_dflt ((rename News _ _ _ _ => N9q); (refine at_listE (isList_news N9q (by k_memK)) (by with_reducible assumption) (by with_reducible assumption) (by rfl) (by omega) (by omega) ?_); intro _))) | ((k_dflt ((with_reducible show wpAny _ _ (call (Value.type _) [Value.ref _]) _ _ _); (refine list_range _ (by rfl) (by assumption) (by assumption) (by assumption) (by exact small_mine (by omega) (by omega) (by omega)) (by assumption) (by omega) ?_; intro _ _ _ _ _ _ l1q _ _; (try k_lt l1q))))) | ((k_dflt ((with_reducible show wpAny _ _ (call (Value.type _) [Value.int _ _, Value.int _ _, Value.int _ _]) _ _ _); (refine rng3 (by assumption) (by assumption) (by first | decide | omega) (by omega) ?_); intro _ _ _ _ _ _ _ _ _))) | ((k_dflt ((with_reducible show wpAny _ _ (call (Value.type _) [Value.int _ _, Value.int _ _]) _ _ _); (refine rng2 (by assumption) (by assumption) ?_); intro _ _ _ _ _ _ _ _ _))) | ((k_dflt ((with_reducible show wpAny _ _ (call (Value.builtin "len") [Value.ref _]) _ _ _); (rename News _ _ _ _ => N9q); (refine kda_len (knd := intKind PR _) N9q (by k_memK) (by with_reducible assumption) (by with_reducible assumption) (by omega) ?_)))) | ((k_dflt ((with_reducible show wpAny _ _ (binaryOp _ (Value.int (_ + 1) _) (Value.int 4 _)) _ _ _); (refine div_q2 (by exact fmod4 _) ?_)))) | walk1 | (dsimp only; walk1) | (leave1; try dsimp only))))
      refine' ExitW.here ⟨_, _, _⟩ ?Fx2 ?Nx2 ?nx2 ?hpx2 ?Px2
      case Fx2 => assumption
      case Nx2 => assumption
      case nx2 => exact List.forall_mem_cons.mpr ⟨by k_memK, fun p hp => .tail _ hp⟩
      case hpx2 => ((repeat' (first | exact List.forall_mem_nil _ | (refine List.forall_mem_cons.mpr ⟨by with_unfolding_all rfl, ?_⟩))))
      case Px2 => (dsimp only; rw [← down_ints]; assumption)

    case g4 =>
    clear F5 N5
    rintro ⟨ld, vd, kd⟩ u6 h6 tk6 hid F6 N6
    dsimp only at hid F6 N6 ⊢
    obtain ⟨hul0, hux⟩ := up_facts (d := d0) hn.2 hd1
    obtain ⟨hdwl0, hdwx⟩ := down_facts hn.2 hd2
    have h8u : (upN n d0).length ≤ 8 := le8u hul0 hn.2
    have h8w : (downN d0).length ≤ 8 := le8w hdwl0 hd2 hn.2
    have hul : ∀ _ : Unit, (upN n d0).length = n + 1 - d0 := fun _ => hul0
    have hdwl : ∀ _ : Unit, (downN d0).length = d0 - 1 := fun _ => hdwl0
    clear hul0 hdwl0
    (repeat' (first | (k_unfold; (try dsimp only)) | ((with_reducible show wpAny _ _ (PySem.exec (PySem.Stmt.Return (some (PySem.Expr.Constant (PySem.Const.bool false) _ _)) _) _) _ _ _); exfalso; first | assumption | contradiction | omega) | ((fail_if_success (with_reducible show wpAny _ _ (PySem.exec (PySem.Stmt.For _ _ _ _ _) _) _ _ _)); (fail_if_success (with_reducible show wpAny _ _ (PySem.call (PySem.Value.ref _) _) _ _ _)); first | ((with_reducible show wpAny _ _ (compareOp CmpOp.Eq (Value.ref _) (Value.ref _)) _ _ _); (k_dflt ((rename News _ _ _ _ => N9q); (first | (refine eq_nilT N9q (by k_memK) (by exact List.Mem.head _) (by with_reducible assumption) (by with_reducible assumption) (by (simp only [Around.deeper, Around.in1]; decide)) ?_) | (refine eq_nilF N9q (by k_memK) (by exact List.Mem.head _) (by with_reducible assumption) (by with_reducible assumption) (by (simp only [Around.deeper, Around.in1]; decide)) ?_))))) | ((with_reducible show wpAny _ _ (subscriptTail (Expr.Name _ _) (Expr.Name _ _) (Value.ref _) (Value.int _ _)) _ _ _); (k_dflt ((rename News _ _ _ _ => N9q); (refine kda_item (knd := intKind PR _) N9q (by k_memK) (by with_reducible assumption) (by exact intKind_is _ _ _ _) (by with_reducible assumption) ?_)))) | (((with_reducible show wpAny _ _ (eval (Expr.Name _ _) (compEnvC _ _ _ _)) _ _ _); k_dflt (first | (refine blk_C (by assumption) (by rfl) (by k_mem) (by assumption) ?_ (by rfl) (by rfl) (by decide)) | (refine blk_L (by assumption) (by rfl) (by assumption) ?_ (by rfl) (by rfl) (by decide))))) | ((with_reducible show wpAny _ _ (compareOp CmpOp.NotEq (Value.bool _) (Value.bool _)) _ _ _); (k_dflt (with_reducible refine ne_bsame ?_))) | ((k_dflt ((with_reducible show wpAny _ _ (call (Value.builtin "len") [Value.ref _]) _ _ _); (rename News _ _ _ _ => N9q); (refine len_news N9q (by k_memK) (by with_reducible assumption) (by first | with_reducible assumption | omega) ?_)))) | ((k_dflt ((with_reducible show wpAny _ _ (call (Value.ref 82) _) _ _ _); (rename Fr _ _ _ _ => F9q); (rename News _ _ _ _ => N9q); (refine c_neigh (by (exact ⟨Frag.In.keeps (by assumption) (Fr.keep (by assumption)), ⟨_, _, _, _, _, Top.keeps (by assumption) (Fr.keep (by assumption))⟩, rfl, by (simp only [Around.deeper, Around.in1]; decide), by (simp only [Around.deeper, Around.in1]; decide)⟩)) (isList_news N9q (by k_memK)) (by with_reducible assumption) (by omega) ?_; intro _ _ k9q; (have F8q := Fr.keepsK F9q k9q); (have N8q := News.keepsK N9q k9q); clear F9q N9q k9q)))) | ((k_dflt ((with_reducible show wpAny _ _ (call (Value.ref 28) _) _ _ _); (rename Fr _ _ _ _ => F9q); (rename News _ _ _ _ => N9q); (refine c_lev (by (exact ⟨Frag.In.keeps (by assumption) (Fr.keep (by assumption)), ⟨_, _, _, _, _, Top.keeps (by assumption) (Fr.keep (by assumption))⟩, rfl, by (simp only [Around.deeper, Around.in1]; decide), by (simp only [Around.deeper, Around.in1]; decide)⟩)) (by with_reducible assumption) (by with_reducible assumption) (by first | with_reducible assumption | omega) (by first | with_reducible assumption | omega) ?_; intro _ _ _ k9q; (have F8q := Fr.keepsK F9q k9q); (have N8q := News.keepsK N9q k9q); clear F9q N9q k9q)))) | ((k_dflt ((with_reducible show wpAny _ _ (call (Value.ref 94) _) _ _ _); (rename Fr _ _ _ _ => F9q); (rename News _ _ _ _ => N9q); (refine c_text (by (exact ⟨Frag.In.keeps (by assumption) (Fr.keep (by assumption)), ⟨_, _, _, _, _, Top.keeps (by assumption) (Fr.keep (by assumption))⟩, rfl, by (simp only [Around.deeper, Around.in1]; decide), by (simp only [Around.deeper, Around.in1]; decide)⟩)) (isList_news N9q (by k_memK)) (by with_reducible assumption) (by exact rfl) (by first | with_reducible assumption | omega) (by with_reducible assumption) (by with_reducible assumption) ?_; intro _ _ _ k9q; (have F8q := Fr.keepsK F9q k9q); (have N8q := News.keepsK N9q k9q); clear F9q N9q k9q)))) | ((with_reducible show wpAny _ _ (compareOp CmpOp.NotEq (Value.bytes _ _) (Value.bytes _ _)) _ _ _); (k_dflt (refine ne_same ?_))) | ((k_dflt ((with_reducible show wpAny _ _ (call (Value.ref 49) _) _ _ _); (refine c_ap (by (exact ⟨Frag.In.keeps (by assumption) (Fr.keep (by assumption)), ⟨_, _, _, _, _, Top.keeps (by assumption) (Fr.keep (by assumption))⟩, rfl, by (simp only [Around.deeper, Around.in1]; decide), by (simp only [Around.deeper, Around.in1]; decide)⟩)) (by with_reducible assumption) (by with_reducible assumption) (by with_reducible assumption) (by with_reducible assumption) ?_; intro _ _ _ k9q; (rename Fr _ _ _ _ => F9q); (rename News _ _ _ _ => N9q); (have F8q := Fr.keepsK F9q k9q); (have N8q := News.keepsK N9q k9q); clear F9q N9q k9q)))) | ((k_dflt ((with_reducible show wpAny _ _ (call (Value.ref 89) _) _ _ _); (rename Fr _ _ _ _ => F9q); (rename News _ _ _ _ => N9q); (refine c_number (by (exact ⟨Frag.In.keeps (by assumption) (Fr.keep (by assumption)), ⟨_, _, _, _, _, Top.keeps (by assumption) (Fr.keep (by assumption))⟩, rfl, by (simp only [Around.deeper, Around.in1]; decide), by (simp only [Around.deeper, Around.in1]; decide)⟩)) (isList_news N9q (by k_memK)) (by with_reducible assumption) ?_; intro _ _ _ k9q; (have F8q := Fr.keepsK F9q k9q); (have N8q := News.keepsK N9q k9q); clear F9q N9q k9q)))) | ((with_reducible show wpAny _ _ (subscriptTail (Expr.Name _ _) (Expr.Constant _ _ _) (Value.ref _) (Value.int _ _)) _ _ _); (k_dflt ((rename News _ _ _ _ => N9q); (refine at_listE (isList_news N9q (by k_memK)) (by with_reducible assumption) (by with_reducible assumption) (by rfl) (by omega) (by omega) ?_); intro _))) | ((k_dflt ((with_reducible show wpAny _ _ (call (Value.type _) [Value.ref _]) _ _ _); (refine list_range _ (by rfl) (by assumption) (by assumption) (by assumption) (by exact small_mine (by omega) (by omega) (by omega)) (by assumption) (by omega) ?_; intro _ _ _ _ _ _ l1q _ _; (try k_lt l1q))))) | ((k_dflt ((with_reducible show wpAny _ _ (call (Value.type _) [Value.int _ _, Value.int _ _, Value.int _ _]) _ _ _); (refine rng3 (by assumption) (by assumption) (by first | decide | omega) (by omega) ?_); intro _ _ _ _ _ _ _ _ _))) | ((k_dflt ((with_reducible show wpAny _ _ (call (Value.type _) [Value.int _ _, Value.int _ _]) _ _ _); (refine rng2 (by assumption) (by assumption) ?_); intro _ _ _ _ _ _ _ _ _))) | ((k_dflt ((with_reducible show wpAny _ _ (call (Value.builtin "len") [Value.ref _]) _ _ _); (rename News _ _ _ _ => N9q); (refine kda_len (knd := intKind PR _) N9q (by k_memK) (by with_reducible assumption) (by with_reducible assumption) (by omega) ?_)))) | ((k_dflt ((with_reducible show wpAny _ _ (binaryOp _ (Value.int (_ + 1) _) (Value.int 4 _)) _ _ _); (refine div_q2 (by exact fmod4 _) ?_)))) | walk1 | (dsimp only; walk1) | (leave1; try dsimp only))))
    refine For_invV s1.heap rfl rfl ?_
    (repeat' (first | (k_unfold; (try dsimp only)) | ((fail_if_success (with_reducible show wpAny _ _ (PySem.pyIter _) _ _ _)); (fail_if_success (with_reducible show wpAny _ _ (PySem.call (PySem.Value.ref _) _) _ _ _)); first | ((with_reducible show wpAny _ _ (compareOp CmpOp.Eq (Value.ref _) (Value.ref _)) _ _ _); (k_dflt ((rename News _ _ _ _ => N9q); (first | (refine eq_nilT N9q (by k_memK) (by exact List.Mem.head _) (by with_reducible assumption) (by with_reducible assumption) (by (simp only [Around.deeper, Around.in1]; decide)) ?_) | (refine eq_nilF N9q (by k_memK) (by exact List.Mem.head _) (by with_reducible assumption) (by with_reducible assumption) (by (simp only [Around.deeper, Around.in1]; decide)) ?_))))) | ((with_reducible show wpAny _ _ (subscriptTail (Expr.Name _ _) (Expr.Name _ _) (Value.ref _) (Value.int _ _)) _ _ _); (k_dflt ((rename News _ _ _ _ => N9q); (refine kda_item (knd := intKind PR _) N9q (by k_memK) (by with_reducible assumption) (by exact intKind_is _ _ _ _) (by with_reducible assumption) ?_)))) | (((with_reducible show wpAny _ _ (eval (Expr.Name _ _) (compEnvC _ _ _ _)) _ _ _); k_dflt (first | (refine blk_C (by assumption) (by rfl) (by k_mem) (by assumption) ?_ (by rfl) (by rfl) (by decide)) | (refine blk_L (by assumption) (by rfl) (by assumption) ?_ (by rfl) (by rfl) (by decide))))) | ((with_reducible show wpAny _ _ (compareOp CmpOp.NotEq (Value.bool _) (Value.bool _)) _ _ _); (k_dflt (with_reducible refine ne_bsame ?_))) | ((k_dflt ((with_reducible show wpAny _ _ (call (Value.builtin "len") [Value.ref _]) _ _ _); (rename News _ _ _ _ => N9q); (refine len_news N9q (by k_memK) (by with_reducible assumption) (by first | with_reducible assumption | omega) ?_)))) | ((k_dflt ((with_reducible show wpAny _ _ (call (Value.ref 82) _) _ _ _); (rename Fr _ _ _ _ => F9q); (rename News _ _ _ _ => N9q); (refine c_neigh (by (exact ⟨Frag.In.keeps (by assumption) (Fr.keep (by assumption)), ⟨_, _, _, _, _, Top.keeps (by assumption) (Fr.keep (by assumption))⟩, rfl, by (simp only [Around.deeper, Around.in1]; decide), by (simp only [Around.deeper, Around.in1]; decide)⟩)) (isList_news N9q (by k_memK)) (by with_reducible assumption) (by omega) ?_; intro _ _ k9q; (have F8q := Fr.keepsK F9q k9q); (have N8q := News.keepsK N9q k9q); clear F9q N9q k9q)))) | ((k_dflt ((with_reducible show wpAny _ _ (call (Value.ref 28) _) _ _ _); (rename Fr _ _ _ _ => F9q); (rename News _ _ _ _ => N9q); (refine c_lev (by (exact ⟨Frag.In.keeps (by assumption) (Fr.keep (by assumption)), ⟨_, _, _, _, _, Top.keeps (by assumption) (Fr.keep (by assumption))⟩, rfl, by (simp only [Around.deeper, Around.in1]; decide), by (simp only [Around.deeper, Around.in1]; decide)⟩)) (by with_reducible assumption) (by with_reducible assumption) (by first | with_reducible assumption | omega) (by first | with_reducible assumption | omega) ?_; intro _ _ _ k9q; (have F8q := Fr.keepsK F9q k9q); (have N8q := News.keepsK N9q k9q); clear F9q N9q k9q)))) | ((k_dflt ((with_reducible show wpAny _ _ (call (Value.ref 94) _) _ _ _); (rename Fr _ _ _ _ => F9q); (rename News _ _ _ _ => N9q); (refine c_text (by (exact ⟨Frag.In.keeps (by assumption) (Fr.keep (by assumption)), ⟨_, _, _, _, _, Top.keeps (by assumption) (Fr.keep (by assumption))⟩, rfl, by (simp only [Around.deeper, Around.in1]; decide), by (simp only [Around.deeper, Around.in1]; decide)⟩)) (isList_news N9q (by k_memK)) (by with_reducible assumption) (by exact rfl) (by first | with_reducible assumption | omega) (by with_reducible assumption) (by with_reducible assumption) ?_; intro _ _ _ k9q; (have F8q := Fr.keepsK F9q k9q); (have N8q := News.keepsK N9q k9q); clear F9q N9q k9q)))) | ((with_reducible show wpAny _ _ (compareOp CmpOp.NotEq (Value.bytes _ _) (Value.bytes _ _)) _ _ _); (k_dflt (refine ne_same ?_))) | ((k_dflt ((with_reducible show wpAny _ _ (call (Value.ref 49) _) _ _ _); (refine c_ap (by (exact ⟨Frag.In.keeps (by assumption) (Fr.keep (by assumption)), ⟨_, _, _, _, _, Top.keeps (by assumption) (Fr.keep (by assumption))⟩, rfl, by (simp only [Around.deeper, Around.in1]; decide), by (simp only [Around.deeper, Around.in1]; decide)⟩)) (by with_reducible assumption) (by with_reducible assumption) (by with_reducible assumption) (by with_reducible assumption) ?_; intro _ _ _ k9q; (rename Fr _ _ _ _ => F9q); (rename News _ _ _ _ => N9q); (have F8q := Fr.keepsK F9q k9q); (have N8q := News.keepsK N9q k9q); clear F9q N9q k9q)))) | ((k_dflt ((with_reducible show wpAny _ _ (call (Value.ref 89) _) _ _ _); (rename Fr _ _ _ _ => F9q); (rename News _ _ _ _ => N9q); (refine c_number (by (exact ⟨Frag.In.keeps (by assumption) (Fr.keep (by assumption)), ⟨_, _, _, _, _, Top.keeps (by assumption) (Fr.keep (by assumption))⟩, rfl, by (simp only [Around.deeper, Around.in1]; decide), by (simp only [Around.deeper, Around.in1]; decide)⟩)) (isList_news N9q (by k_memK)) (by with_reducible assumption) ?_; intro _ _ _ k9q; (have F8q := Fr.keepsK F9q k9q); (have N8q := News.keepsK N9q k9q); clear F9q N9q k9q)))) | ((with_reducible show wpAny _ _ (subscriptTail (Expr.Name _ _) (Expr.Constant _ _ _) (Value.ref _) (Value.int _ _)) _ _ _); (k_dflt ((rename News _ _ _ _ => N9q); (refine at_listE (isList_news N9q (by k_memK)) (by with_reducible assumption) (by with_reducible assumption) (by rfl) (by omega) (by omega) ?_); intro _))) | ((k_dflt ((with_reducible show wpAny _ _ (call (Value.type _) [Value.ref _]) _ _ _); (refine list_range _ (by rfl) (by assumption) (by assumption) (by assumption) (by exact small_mine (by omega) (by omega) (by omega)) (by assumption) (by omega) ?_; intro _ _ _ _ _ _ l1q _ _; (try k_lt l1q))))) | ((k_dflt ((with_reducible show wpAny _ _ (call (Value.type _) [Value.int _ _, Value.int _ _, Value.int _ _]) _ _ _); (refine rng3 (by assumption) (by assumption) (by first | decide | omega) (by omega) ?_); intro _ _ _ _ _ _ _ _ _))) | ((k_dflt ((with_reducible show wpAny _ _ (call (Value.type _) [Value.int _ _, Value.int _ _]) _ _ _); (refine rng2 (by assumption) (by assumption) ?_); intro _ _ _ _ _ _ _ _ _))) | ((k_dflt ((with_reducible show wpAny _ _ (call (Value.builtin "len") [Value.ref _]) _ _ _); (rename News _ _ _ _ => N9q); (refine kda_len (knd := intKind PR _) N9q (by k_memK) (by with_reducible assumption) (by with_reducible assumption) (by omega) ?_)))) | ((k_dflt ((with_reducible show wpAny _ _ (binaryOp _ (Value.int (_ + 1) _) (Value.int 4 _)) _ _ _); (refine div_q2 (by exact fmod4 _) ?_)))) | walk1 | (dsimp only; walk1) | (leave1; try dsimp only))))
    rename Fr _ _ _ _ => F6
    rename News _ _ _ _ => N6
    rename Addr => lp
    refine' for_list (σ := Unit) (vs := [.ref lD, .ref lu, .ref ld]) ((lp, listOf #[.ref lD, .ref lu, .ref ld] 0) :: (ld, listOf vd.toArray kd) :: (lu, listOf vu.toArray ku) :: (lD, listOf vsD.toArray kD) :: (s1.heap.objs.size + 1, oh) :: (s1.heap.objs.size + 1 + 1, o4) :: (d, od) :: rest) (fun _ => []) (fun _ => [(Str.ofString "down", .ref ld), (Str.ofString "up", .ref lu), (Str.ofString "size", .int (n : Int) t)])
      (fun _ _ => True) () ?hhP ?hlP ?hlcP F6 N6 ?hnewsP ?hp0P ?hjP ?turnP ?doneP
    case hhP => rfl
    case hlP => exact isList_news N6 (.head _)
    case hlcP => exact .inr ⟨_, .head _⟩
    case hnewsP => rw [List.append_nil]; exact fun p hp => hp
    case hp0P => ((repeat' (first | exact List.forall_mem_nil _ | (refine List.forall_mem_cons.mpr ⟨by with_unfolding_all rfl, ?_⟩))))
    case hjP => trivial
    case turnP =>

      clear F6 N6
      rintro i v - u7 h7 tk7 I2 io2 hv - hio2 F7 N7 - hcI2
      rw [List.append_nil] at N7
      obtain ⟨lP, vsP, kP, dsP, more, hvP, hiP, hpx, hpl, N8, hback2⟩ : ∃ lP vsP kP dsP more, v = .ref lP ∧ IntsAre vsP (castsI dsP) ∧ (∀ x ∈ dsP, 1 ≤ x ∧ x < 16) ∧ dsP.length ≤ 8 ∧ News s1.heap s1.heap.objs.size h7 ((lP, listOf vsP.toArray kP) :: more) ∧
          (∀ p, p ∈ (I2, io2) :: (lp, listOf #[.ref lD, .ref lu, .ref ld] 0) :: (ld, listOf vd.toArray kd) :: (lu, listOf vu.toArray ku) :: (lD, listOf vsD.toArray kD) :: (s1.heap.objs.size + 1, oh) :: (s1.heap.objs.size + 1 + 1, o4) :: (d, od) :: rest → p ∈ more) := by
        have dup : ∀ {a}, a ∈ ((I2, io2) :: (lp, listOf #[.ref lD, .ref lu, .ref ld] 0) :: (ld, listOf vd.toArray kd) :: (lu, listOf vu.toArray ku) :: (lD, listOf vsD.toArray kD) :: (s1.heap.objs.size + 1, oh) :: (s1.heap.objs.size + 1 + 1, o4) :: (d, od) :: rest) → News s1.heap s1.heap.objs.size h7 (a :: (I2, io2) :: (lp, listOf #[.ref lD, .ref lu, .ref ld] 0) :: (ld, listOf vd.toArray kd) :: (lu, listOf vu.toArray ku) :: (lD, listOf vsD.toArray kD) :: (s1.heap.objs.size + 1, oh) :: (s1.heap.objs.size + 1 + 1, o4) :: (d, od) :: rest) :=
          fun {a} ha p hp => by
            rcases List.mem_cons.mp hp with rfl | hp
            · exact N7 _ ha
            · exact N7 p hp
        rcases i with _ | _ | _ | i
        · exact ⟨lD, vsD, kD, ds, _, (Option.some.inj hv).symm, hiD, (fun x hx => in16 (hdx x hx) hn.2), h8d, dup (by k_memK), fun p hp => hp⟩
        · exact ⟨lu, vu, ku, upN n d0, _, (Option.some.inj hv).symm, hiu, hux, h8u, dup (by k_memK), fun p hp => hp⟩
        · exact ⟨ld, vd, kd, downN d0, _, (Option.some.inj hv).symm, hid, hdwx, h8w, dup (by k_memK), fun p hp => hp⟩
        · cases hv
      subst hvP
      clear N7 hv hcI2
      have hpn1 := num_cards dsP
      have hpn2 := num_minus dsP
      have hp16 : ∀ x ∈ dsP, x < 16 := fun x hx => (hpx x hx).2
      have hp0 := head_pos hpx
      have hpcl := castsI_length dsP
      (repeat' (first | (k_unfold; (try dsimp only)) | ((fail_if_success (with_reducible show wpAny _ _ (PySem.pyIter _) _ _ _)); (fail_if_success (with_reducible show wpAny _ _ (PySem.call (PySem.Value.ref _) _) _ _ _)); first | ((with_reducible show wpAny _ _ (compareOp CmpOp.Eq (Value.ref _) (Value.ref _)) _ _ _); (k_dflt ((rename News _ _ _ _ => N9q); (first | (refine eq_nilT N9q (by k_memK) (by exact List.Mem.head _) (by with_reducible assumption) (by with_reducible assumption) (by (simp only [Around.deeper, Around.in1]; decide)) ?_) | (refine eq_nilF N9q (by k_memK) (by exact List.Mem.head _) (by with_reducible assumption) (by with_reducible assumption) (by (simp only [Around.deeper, Around.in1]; decide)) ?_))))) | ((with_reducible show wpAny _ _ (subscriptTail (Expr.Name _ _) (Expr.Name _ _) (Value.ref _) (Value.int _ _)) _ _ _); (k_dflt ((rename News _ _ _ _ => N9q); (refine kda_item (knd := intKind PR _) N9q (by k_memK) (by with_reducible assumption) (by exact intKind_is _ _ _ _) (by with_reducible assumption) ?_)))) | (((with_reducible show wpAny _ _ (eval (Expr.Name _ _) (compEnvC _ _ _ _)) _ _ _); k_dflt (first | (refine blk_C (by assumption) (by rfl) (by k_mem) (by assumption) ?_ (by rfl) (by rfl) (by decide)) | (refine blk_L (by assumption) (by rfl) (by assumption) ?_ (by rfl) (by rfl) (by decide))))) | ((with_reducible show wpAny _ _ (compareOp CmpOp.NotEq (Value.bool _) (Value.bool _)) _ _ _); (k_dflt (with_reducible refine ne_bsame ?_))) | ((k_dflt ((with_reducible show wpAny _ _ (call (Value.builtin "len") [Value.ref _]) _ _ _); (rename News _ _ _ _ => N9q); (refine len_news N9q (by k_memK) (by with_reducible assumption) (by first | with_reducible assumption | omega) ?_)))) | ((k_dflt ((with_reducible show wpAny _ _ (call (Value.ref 82) _) _ _ _); (rename Fr _ _ _ _ => F9q); (rename News _ _ _ _ => N9q); (refine c_neigh (by (exact ⟨Frag.In.keeps (by assumption) (Fr.keep (by assumption)), ⟨_, _, _, _, _, Top.keeps (by assumption) (Fr.keep (by assumption))⟩, rfl, by (simp only [Around.deeper, Around.in1]; decide), by (simp only [Around.deeper, Around.in1]; decide)⟩)) (isList_news N9q (by k_memK)) (by with_reducible assumption) (by omega) ?_; intro _ _ k9q; (have F8q := Fr.keepsK F9q k9q); (have N8q := News.keepsK N9q k9q); clear F9q N9q k9q)))) | ((k_dflt ((with_reducible show wpAny _ _ (call (Value.ref 28) _) _ _ _); (rename Fr _ _ _ _ => F9q); (rename News _ _ _ _ => N9q); (refine c_lev (by (exact ⟨Frag.In.keeps (by assumption) (Fr.keep (by assumption)), ⟨_, _, _, _, _, Top.keeps (by assumption) (Fr.keep (by assumption))⟩, rfl, by (simp only [Around.deeper, Around.in1]; decide), by (simp only [Around.deeper, Around.in1]; decide)⟩)) (by with_reducible assumption) (by with_reducible assumption) (by first | with_reducible assumption | omega) (by first | with_reducible assumption | omega) ?_; intro _ _ _ k9q; (have F8q := Fr.keepsK F9q k9q); (have N8q := News.keepsK N9q k9q); clear F9q N9q k9q)))) | ((k_dflt ((with_reducible show wpAny _ _ (call (Value.ref 94) _) _ _ _); (rename Fr _ _ _ _ => F9q); (rename News _ _ _ _ => N9q); (refine c_text (by (exact ⟨Frag.In.keeps (by assumption) (Fr.keep (by assumption)), ⟨_, _, _, _, _, Top.keeps (by assumption) (Fr.keep (by assumption))⟩, rfl, by (simp only [Around.deeper, Around.in1]; decide), by (simp only [Around.deeper, Around.in1]; decide)⟩)) (isList_news N9q (by k_memK)) (by with_reducible assumption) (by exact rfl) (by first | with_reducible assumption | omega) (by with_reducible assumption) (by with_reducible assumption) ?_; intro _ _ _ k9q; (have F8q := Fr.keepsK F9q k9q); (have N8q := News.keepsK N9q k9q); clear F9q N9q k9q)))) | ((with_reducible show wpAny _ _ (compareOp CmpOp.NotEq (Value.bytes _ _) (Value.bytes _ _)) _ _ _); (k_dflt (refine ne_same ?_))) | ((k_dflt ((with_reducible show wpAny _ _ (call (Value.ref 49) _) _ _ _); (refine c_ap (by (exact ⟨Frag.In.keeps (by assumption) (Fr.keep (by assumption)), ⟨_, _, _, _, _, Top.keeps (by assumption) (Fr.keep (by assumption))⟩, rfl, by (simp only [Around.deeper, Around.in1]; decide), by (simp only [Around.deeper, Around.in1]; decide)⟩)) (by with_reducible assumption) (by with_reducible assumption) (by with_reducible assumption) (by with_reducible assumption) ?_; intro _ _ _ k9q; (rename Fr _ _ _ _ => F9q); (rename News _ _ _ _ => N9q); (have F8q := Fr.keepsK F9q k9q); (have N8q := News.keepsK N9q k9q); clear F9q N9q k9q)))) | ((k_dflt ((with_reducible show wpAny _ _ (call (Value.ref 89) _) _ _ _); (rename Fr _ _ _ _ => F9q); (rename News _ _ _ _ => N9q); (refine c_number (by (exact ⟨Frag.In.keeps (by assumption) (Fr.keep (by assumption)), ⟨_, _, _, _, _, Top.keeps (by assumption) (Fr.keep (by assumption))⟩, rfl, by (simp only [Around.deeper, Around.in1]; decide), by (simp only [Around.deeper, Around.in1]; decide)⟩)) (isList_news N9q (by k_memK)) (by with_reducible assumption) ?_; intro _ _ _ k9q; (have F8q := Fr.keepsK F9q k9q); (have N8q := News.keepsK N9q k9q); clear F9q N9q k9q)))) | ((with_reducible show wpAny _ _ (subscriptTail (Expr.Name _ _) (Expr.Constant _ _ _) (Value.ref _) (Value.int _ _)) _ _ _); (k_dflt ((rename News _ _ _ _ => N9q); (refine at_listE (isList_news N9q (by k_memK)) (by with_reducible assumption) (by with_reducible assumption) (by rfl) (by omega) (by omega) ?_); intro _))) | ((k_dflt ((with_reducible show wpAny _ _ (call (Value.type _) [Value.ref _]) _ _ _); (refine list_range _ (by rfl) (by assumption) (by assumption) (by assumption) (by exact small_mine (by omega) (by omega) (by omega)) (by assumption) (by omega) ?_; intro _ _ _ _ _ _ l1q _ _; (try k_lt l1q))))) | ((k_dflt ((with_reducible show wpAny _ _ (call (Value.type _) [Value.int _ _, Value.int _ _, Value.int _ _]) _ _ _); (refine rng3 (by assumption) (by assumption) (by first | decide | omega) (by omega) ?_); intro _ _ _ _ _ _ _ _ _))) | ((k_dflt ((with_reducible show wpAny _ _ (call (Value.type _) [Value.int _ _, Value.int _ _]) _ _ _); (refine rng2 (by assumption) (by assumption) ?_); intro _ _ _ _ _ _ _ _ _))) | ((k_dflt ((with_reducible show wpAny _ _ (call (Value.builtin "len") [Value.ref _]) _ _ _); (rename News _ _ _ _ => N9q); (refine kda_len (knd := intKind PR _) N9q (by k_memK) (by with_reducible assumption) (by with_reducible assumption) (by omega) ?_)))) | ((k_dflt ((with_reducible show wpAny _ _ (binaryOp _ (Value.int (_ + 1) _) (Value.int 4 _)) _ _ _); (refine div_q2 (by exact fmod4 _) ?_)))) | walk1 | (dsimp only; walk1) | (leave1; try dsimp only))))
      rename Fr _ _ _ _ => F8
      rename News _ _ _ _ => N8
      refine KBa.make_K F8 N8 rfl (isList_news N8 (.head _)) (by assumption) (in_ap hp16) (by simp only [List.length_map, hpcl]; omega) ?_
      intro h9 t9 k9 F9 N9 _
      rw [arr_ap]
      clear F8 N8
      (repeat' (first | (k_unfold; (try dsimp only)) | ((with_reducible show wpAny _ _ (PySem.exec (PySem.Stmt.Return (some (PySem.Expr.Constant (PySem.Const.bool false) _ _)) _) _) _ _ _); exfalso; first | assumption | contradiction | omega) | ((fail_if_success (with_reducible show wpAny _ _ (PySem.exec (PySem.Stmt.For _ _ _ _ _) _) _ _ _)); first | ((with_reducible show wpAny _ _ (compareOp CmpOp.Eq (Value.ref _) (Value.ref _)) _ _ _); (k_dflt ((rename News _ _ _ _ => N9q); (first | (refine eq_nilT N9q (by k_memK) (by exact List.Mem.head _) (by with_reducible assumption) (by with_reducible assumption) (by (simp only [Around.deeper, Around.in1]; decide)) ?_) | (refine eq_nilF N9q (by k_memK) (by exact List.Mem.head _) (by with_reducible assumption) (by with_reducible assumption) (by (simp only [Around.deeper, Around.in1]; decide)) ?_))))) | ((with_reducible show wpAny _ _ (subscriptTail (Expr.Name _ _) (Expr.Name _ _) (Value.ref _) (Value.int _ _)) _ _ _); (k_dflt ((rename News _ _ _ _ => N9q); (refine kda_item (knd := intKind PR _) N9q (by k_memK) (by with_reducible assumption) (by exact intKind_is _ _ _ _) (by with_reducible assumption) ?_)))) | (((with_reducible show wpAny _ _ (eval (Expr.Name _ _) (compEnvC _ _ _ _)) _ _ _); k_dflt (first | (refine blk_C (by assumption) (by rfl) (by k_mem) (by assumption) ?_ (by rfl) (by rfl) (by decide)) | (refine blk_L (by assumption) (by rfl) (by assumption) ?_ (by rfl) (by rfl) (by decide))))) | ((with_reducible show wpAny _ _ (compareOp CmpOp.NotEq (Value.bool _) (Value.bool _)) _ _ _); (k_dflt (with_reducible refine ne_bsame ?_))) | ((k_dflt ((with_reducible show wpAny _ _ (call (Value.builtin "len") [Value.ref _]) _ _ _); (rename News _ _ _ _ => N9q); (refine len_news N9q (by k_memK) (by with_reducible assumption) (by first | with_reducible assumption | omega) ?_)))) | ((k_dflt ((with_reducible show wpAny _ _ (call (Value.ref 82) _) _ _ _); (rename Fr _ _ _ _ => F9q); (rename News _ _ _ _ => N9q); (refine c_neigh (by (exact ⟨Frag.In.keeps (by assumption) (Fr.keep (by assumption)), ⟨_, _, _, _, _, Top.keeps (by assumption) (Fr.keep (by assumption))⟩, rfl, by (simp only [Around.deeper, Around.in1]; decide), by (simp only [Around.deeper, Around.in1]; decide)⟩)) (isList_news N9q (by k_memK)) (by with_reducible assumption) (by omega) ?_; intro _ _ k9q; (have F8q := Fr.keepsK F9q k9q); (have N8q := News.keepsK N9q k9q); clear F9q N9q k9q)))) | ((k_dflt ((with_reducible show wpAny _ _ (call (Value.ref 28) _) _ _ _); (rename Fr _ _ _ _ => F9q); (rename News _ _ _ _ => N9q); (refine c_lev (by (exact ⟨Frag.In.keeps (by assumption) (Fr.keep (by assumption)), ⟨_, _, _, _, _, Top.keeps (by assumption) (Fr.keep (by assumption))⟩, rfl, by (simp only [Around.deeper, Around.in1]; decide), by (simp only [Around.deeper, Around.in1]; decide)⟩)) (by with_reducible assumption) (by with_reducible assumption) (by first | with_reducible assumption | omega) (by first | with_reducible assumption | omega) ?_; intro _ _ _ k9q; (have F8q := Fr.keepsK F9q k9q); (have N8q := News.keepsK N9q k9q); clear F9q N9q k9q)))) | ((k_dflt ((with_reducible show wpAny _ _ (call (Value.ref 94) _) _ _ _); (rename Fr _ _ _ _ => F9q); (rename News _ _ _ _ => N9q); (refine c_text (by (exact ⟨Frag.In.keeps (by assumption) (Fr.keep (by assumption)), ⟨_, _, _, _, _, Top.keeps (by assumption) (Fr.keep (by assumption))⟩, rfl, by (simp only [Around.deeper, Around.in1]; decide), by (simp only [Around.deeper, Around.in1]; decide)⟩)) (isList_news N9q (by k_memK)) (by with_reducible assumption) (by exact rfl) (by first | with_reducible assumption | omega) (by with_reducible assumption) (by with_reducible assumption) ?_; intro _ _ _ k9q; (have F8q := Fr.keepsK F9q k9q); (have N8q := News.keepsK N9q k9q); clear F9q N9q k9q)))) | ((with_reducible show wpAny _ _ (compareOp CmpOp.NotEq (Value.bytes _ _) (Value.bytes _ _)) _ _ _); (k_dflt (refine ne_same ?_))) | ((k_dflt ((with_reducible show wpAny _ _ (call (Value.ref 49) _) _ _ _); (refine c_ap (by (exact ⟨Frag.In.keeps (by assumption) (Fr.keep (by assumption)), ⟨_, _, _, _, _, Top.keeps (by assumption) (Fr.keep (by assumption))⟩, rfl, by (simp only [Around.deeper, Around.in1]; decide), by (simp only [Around.deeper, Around.in1]; decide)⟩)) (by with_reducible assumption) (by with_reducible assumption) (by with_reducible assumption) (by with_reducible assumption) ?_; intro _ _ _ k9q; (rename Fr _ _ _ _ => F9q); (rename News _ _ _ _ => N9q); (have F8q := Fr.keepsK F9q k9q); (have N8q := News.keepsK N9q k9q); clear F9q N9q k9q)))) | ((k_dflt ((with_reducible show wpAny _ _ (call (Value.ref 89) _) _ _ _); (rename Fr _ _ _ _ => F9q); (rename News _ _ _ _ => N9q); (refine c_number (by (exact ⟨Frag.In.keeps (by assumption) (Fr.keep (by assumption)), ⟨_, _, _, _, _, Top.keeps (by assumption) (Fr.keep (by assumption))⟩, rfl, by (simp only [Around.deeper, Around.in1]; decide), by (simp only [Around.deeper, Around.in1]; decide)⟩)) (isList_news N9q (by k_memK)) (by with_reducible assumption) ?_; intro _ _ _ k9q; (have F8q := Fr.keepsK F9q k9q); (have N8q := News.keepsK N9q k9q); clear F9q N9q k9q)))) | ((with_reducible show wpAny _ _ (subscriptTail (Expr.Name _ _) (Expr.Constant _ _ _) (Value.ref _) (Value.int _ _)) _ _ _); (k_dflt ((rename News _ _ _ _ => N9q); (refine at_listE (isList_news N9q (by k_memK)) (by with_reducible assumption) (by with_reducible assumption) (by rfl) (by omega) (by omega) ?_); intro _))) | ((k_dflt ((with_reducible show wpAny _ _ (call (Value.type _) [Value.ref _]) _ _ _); (refine list_range _ (by rfl) (by assumption) (by assumption) (by assumption) (by exact small_mine (by omega) (by omega) (by omega)) (by assumption) (by omega) ?_; intro _ _ _ _ _ _ l1q _ _; (try k_lt l1q))))) | ((k_dflt ((with_reducible show wpAny _ _ (call (Value.type _) [Value.int _ _, Value.int _ _, Value.int _ _]) _ _ _); (refine rng3 (by assumption) (by assumption) (by first | decide | omega) (by omega) ?_); intro _ _ _ _ _ _ _ _ _))) | ((k_dflt ((with_reducible show wpAny _ _ (call (Value.type _) [Value.int _ _, Value.int _ _]) _ _ _); (refine rng2 (by assumption) (by assumption) ?_); intro _ _ _ _ _ _ _ _ _))) | ((k_dflt ((with_reducible show wpAny _ _ (call (Value.builtin "len") [Value.ref _]) _ _ _); (rename News _ _ _ _ => N9q); (refine kda_len (knd := intKind PR _) N9q (by k_memK) (by with_reducible assumption) (by with_reducible assumption) (by omega) ?_)))) | ((k_dflt ((with_reducible show wpAny _ _ (binaryOp _ (Value.int (_ + 1) _) (Value.int 4 _)) _ _ _); (refine div_q2 (by exact fmod4 _) ?_)))) | walk1 | (dsimp only; walk1) | (leave1; try dsimp only))))
      refine' TurnP.next () ?Fy ?Ny ?ny ?cy ?hpy ?Py
      case Fy => assumption
      case Ny => assumption
      case ny => exact fun p hp => .tail _ (.tail _ (hback2 p (by rw [List.append_nil] at hp; exact hp)))
      case cy => exact List.forall_mem_nil _
      case hpy => ((repeat' (first | exact List.forall_mem_nil _ | (refine List.forall_mem_cons.mpr ⟨by with_unfolding_all rfl, ?_⟩))))
      case Py => trivial

    case doneP =>
    clear F6 N6
    rintro - u6 h6 tk6 - F6 N6
    replace N6 : News s1.heap s1.heap.objs.size h6 ((ld, listOf vd.toArray kd) :: (lu, listOf vu.toArray ku) :: (lD, listOf vsD.toArray kD) :: (s1.heap.objs.size + 1, oh) :: (s1.heap.objs.size + 1 + 1, o4) :: (d, od) :: rest) := fun p hp => N6 p (by rw [List.append_nil]; exact .tail _ hp)
    have hdt : (∀ c ∈ ds.map (fun n => 65 + n), 65 ≤ c ∧ c < 81) ∧ (ds.map (fun n => 65 + n)).length = n := txn_facts (fun x hx => in16 (hdx x hx) hn.2) (hdl ())
    have hut : (∀ c ∈ (upN n d0).map (fun n => 65 + n), 65 ≤ c ∧ c < 81) ∧ ((upN n d0).map (fun n => 65 + n)).length = n + 1 - d0 := txn_facts hux (hul ())
    have hwt : (∀ c ∈ (downN d0).map (fun n => 65 + n), 65 ≤ c ∧ c < 81) ∧ ((downN d0).map (fun n => 65 + n)).length = d0 - 1 := txn_facts hdwx (hdwl ())
    replace hdt1 := hdt.1
    replace hut1 := hut.1
    replace hwt1 := hwt.1
    clear hdt hut hwt
    have hd16 : ∀ x ∈ ds, x < 16 := fun x hx => (in16 (hdx x hx) hn.2).2
    have hu16 : ∀ x ∈ upN n d0, x < 16 := fun x hx => (hux x hx).2
    have hw16 : ∀ x ∈ downN d0, x < 16 := fun x hx => (hdwx x hx).2
    have hdh0 : ds.head? ≠ some 0 := head_pos (fun x hx => in16 (hdx x hx) hn.2)
    have huh0 : (upN n d0).head? ≠ some 0 := head_pos hux
    have hwh0 : (downN d0).head? ≠ some 0 := head_pos hdwx
    have hucl : ∀ _ : Unit, (castsI (upN n d0)).length = (upN n d0).length := fun _ => castsI_length (upN n d0)
    have hwcl : ∀ _ : Unit, (castsI (downN d0)).length = (downN d0).length := fun _ => castsI_length (downN d0)
    have h8dt : (ds.map (fun n => 65 + n)).length ≤ 8 := by rw [List.length_map]; exact h8d
    have h8ut : ((upN n d0).map (fun n => 65 + n)).length ≤ 8 := by rw [List.length_map]; exact h8u
    have h8wt : ((downN d0).map (fun n => 65 + n)).length ≤ 8 := by rw [List.length_map]; exact h8w
    have hku : (castsI (upN n d0)).length ≤ 1000 := by rw [hucl ()]; exact Nat.le_trans h8u (by decide)
    have hkw : (castsI (downN d0)).length ≤ 1000 := by rw [hwcl ()]; exact Nat.le_trans h8w (by decide)
    have hlev1 : levF ((upN n d0).map (fun n => 65 + n)) ((downN d0).map (fun n => 65 + n)) (2 * (n : Int)) = 2 * (if (((castsI (downN d0)).length : Nat) : Int) > (((castsI (upN n d0)).length : Nat) : Int) then (((castsI (downN d0)).length : Nat) : Int) else (((castsI (upN n d0)).length : Nat) : Int)) := (apart_of hn hd1 hd2).trans (max_if ((hucl ()).trans (hul ())) ((hwcl ()).trans (hdwl ())))
    have hwit : (decide (levF (ds.map (fun n => 65 + n)) ((upN n d0).map (fun n => 65 + n)) (2 * (((castsI (downN d0)).length : Nat) : Int)) = 2 * (((castsI (downN d0)).length : Nat) : Int)) && decide (levF ((downN d0).map (fun n => 65 + n)) (ds.map (fun n => 65 + n)) (2 * (((castsI (upN n d0)).length : Nat) : Int)) = 2 * (((castsI (upN n d0)).length : Nat) : Int))) = neighF (castsI ds) := by
      rw [hucl (), hwcl (), hul (), hdwl ()]
      exact within_of hfull hd0e hd1 hd2
    refine execs_mid (σ := Nat × Nat × Nat) (L := s1.heap.objs.size) s1.heap (fun _ => (ld, listOf vd.toArray kd) :: (lu, listOf vu.toArray ku) :: (lD, listOf vsD.toArray kD) :: (s1.heap.objs.size + 1, oh) :: (s1.heap.objs.size + 1 + 1, o4) :: (d, od) :: rest)
      (fun c => [(Str.ofString "text", .str (txt (ds.map (fun n => 65 + n))) c.1), (Str.ofString "high", .str (txt ((upN n d0).map (fun n => 65 + n))) c.2.1), (Str.ofString "low", .str (txt ((downN d0).map (fun n => 65 + n))) c.2.2), (Str.ofString "down", .ref ld), (Str.ofString "up", .ref lu), (Str.ofString "size", .int (n : Int) t)])
      (fun _ => True) ?s1 ?s1d
    case s1 =>

      (repeat' (first | (k_unfold; (try dsimp only)) | ((with_reducible show wpAny _ _ (PySem.exec (PySem.Stmt.Return (some (PySem.Expr.Constant (PySem.Const.bool false) _ _)) _) _) _ _ _); exfalso; first | assumption | contradiction | omega) | ((fail_if_success (with_reducible show wpAny _ _ (PySem.exec (PySem.Stmt.For _ _ _ _ _) _) _ _ _)); first | ((with_reducible show wpAny _ _ (compareOp CmpOp.Eq (Value.ref _) (Value.ref _)) _ _ _); (k_dflt ((rename News _ _ _ _ => N9q); (first | (refine eq_nilT N9q (by k_memK) (by exact List.Mem.head _) (by with_reducible assumption) (by with_reducible assumption) (by (simp only [Around.deeper, Around.in1]; decide)) ?_) | (refine eq_nilF N9q (by k_memK) (by exact List.Mem.head _) (by with_reducible assumption) (by with_reducible assumption) (by (simp only [Around.deeper, Around.in1]; decide)) ?_))))) | ((with_reducible show wpAny _ _ (subscriptTail (Expr.Name _ _) (Expr.Name _ _) (Value.ref _) (Value.int _ _)) _ _ _); (k_dflt ((rename News _ _ _ _ => N9q); (refine kda_item (knd := intKind PR _) N9q (by k_memK) (by with_reducible assumption) (by exact intKind_is _ _ _ _) (by with_reducible assumption) ?_)))) | (((with_reducible show wpAny _ _ (eval (Expr.Name _ _) (compEnvC _ _ _ _)) _ _ _); k_dflt (first | (refine blk_C (by assumption) (by rfl) (by k_mem) (by assumption) ?_ (by rfl) (by rfl) (by decide)) | (refine blk_L (by assumption) (by rfl) (by assumption) ?_ (by rfl) (by rfl) (by decide))))) | ((with_reducible show wpAny _ _ (compareOp CmpOp.NotEq (Value.bool _) (Value.bool _)) _ _ _); (k_dflt (with_reducible refine ne_bsame ?_))) | ((k_dflt ((with_reducible show wpAny _ _ (call (Value.builtin "len") [Value.ref _]) _ _ _); (rename News _ _ _ _ => N9q); (refine len_news N9q (by k_memK) (by with_reducible assumption) (by first | with_reducible assumption | omega) ?_)))) | ((k_dflt ((with_reducible show wpAny _ _ (call (Value.ref 82) _) _ _ _); (rename Fr _ _ _ _ => F9q); (rename News _ _ _ _ => N9q); (refine c_neigh (by (exact ⟨Frag.In.keeps (by assumption) (Fr.keep (by assumption)), ⟨_, _, _, _, _, Top.keeps (by assumption) (Fr.keep (by assumption))⟩, rfl, by (simp only [Around.deeper, Around.in1]; decide), by (simp only [Around.deeper, Around.in1]; decide)⟩)) (isList_news N9q (by k_memK)) (by with_reducible assumption) (by omega) ?_; intro _ _ k9q; (have F8q := Fr.keepsK F9q k9q); (have N8q := News.keepsK N9q k9q); clear F9q N9q k9q)))) | ((k_dflt ((with_reducible show wpAny _ _ (call (Value.ref 28) _) _ _ _); (rename Fr _ _ _ _ => F9q); (rename News _ _ _ _ => N9q); (refine c_lev (by (exact ⟨Frag.In.keeps (by assumption) (Fr.keep (by assumption)), ⟨_, _, _, _, _, Top.keeps (by assumption) (Fr.keep (by assumption))⟩, rfl, by (simp only [Around.deeper, Around.in1]; decide), by (simp only [Around.deeper, Around.in1]; decide)⟩)) (by with_reducible assumption) (by with_reducible assumption) (by first | with_reducible assumption | omega) (by first | with_reducible assumption | omega) ?_; intro _ _ _ k9q; (have F8q := Fr.keepsK F9q k9q); (have N8q := News.keepsK N9q k9q); clear F9q N9q k9q)))) | ((k_dflt ((with_reducible show wpAny _ _ (call (Value.ref 94) _) _ _ _); (rename Fr _ _ _ _ => F9q); (rename News _ _ _ _ => N9q); (refine c_text (by (exact ⟨Frag.In.keeps (by assumption) (Fr.keep (by assumption)), ⟨_, _, _, _, _, Top.keeps (by assumption) (Fr.keep (by assumption))⟩, rfl, by (simp only [Around.deeper, Around.in1]; decide), by (simp only [Around.deeper, Around.in1]; decide)⟩)) (isList_news N9q (by k_memK)) (by with_reducible assumption) (by exact rfl) (by first | with_reducible assumption | omega) (by with_reducible assumption) (by with_reducible assumption) ?_; intro _ _ _ k9q; (have F8q := Fr.keepsK F9q k9q); (have N8q := News.keepsK N9q k9q); clear F9q N9q k9q)))) | ((with_reducible show wpAny _ _ (compareOp CmpOp.NotEq (Value.bytes _ _) (Value.bytes _ _)) _ _ _); (k_dflt (refine ne_same ?_))) | ((k_dflt ((with_reducible show wpAny _ _ (call (Value.ref 49) _) _ _ _); (refine c_ap (by (exact ⟨Frag.In.keeps (by assumption) (Fr.keep (by assumption)), ⟨_, _, _, _, _, Top.keeps (by assumption) (Fr.keep (by assumption))⟩, rfl, by (simp only [Around.deeper, Around.in1]; decide), by (simp only [Around.deeper, Around.in1]; decide)⟩)) (by with_reducible assumption) (by with_reducible assumption) (by with_reducible assumption) (by with_reducible assumption) ?_; intro _ _ _ k9q; (rename Fr _ _ _ _ => F9q); (rename News _ _ _ _ => N9q); (have F8q := Fr.keepsK F9q k9q); (have N8q := News.keepsK N9q k9q); clear F9q N9q k9q)))) | ((k_dflt ((with_reducible show wpAny _ _ (call (Value.ref 89) _) _ _ _); (rename Fr _ _ _ _ => F9q); (rename News _ _ _ _ => N9q); (refine c_number (by (exact ⟨Frag.In.keeps (by assumption) (Fr.keep (by assumption)), ⟨_, _, _, _, _, Top.keeps (by assumption) (Fr.keep (by assumption))⟩, rfl, by (simp only [Around.deeper, Around.in1]; decide), by (simp only [Around.deeper, Around.in1]; decide)⟩)) (isList_news N9q (by k_memK)) (by with_reducible assumption) ?_; intro _ _ _ k9q; (have F8q := Fr.keepsK F9q k9q); (have N8q := News.keepsK N9q k9q); clear F9q N9q k9q)))) | ((with_reducible show wpAny _ _ (subscriptTail (Expr.Name _ _) (Expr.Constant _ _ _) (Value.ref _) (Value.int _ _)) _ _ _); (k_dflt ((rename News _ _ _ _ => N9q); (refine at_listE (isList_news N9q (by k_memK)) (by with_reducible assumption) (by with_reducible assumption) (by rfl) (by omega) (by omega) ?_); intro _))) | ((k_dflt ((with_reducible show wpAny _ _ (call (Value.type _) [Value.ref _]) _ _ _); (refine list_range _ (by rfl) (by assumption) (by assumption) (by assumption) (by exact small_mine (by omega) (by omega) (by omega)) (by assumption) (by omega) ?_; intro _ _ _ _ _ _ l1q _ _; (try k_lt l1q))))) | ((k_dflt ((with_reducible show wpAny _ _ (call (Value.type _) [Value.int _ _, Value.int _ _, Value.int _ _]) _ _ _); (refine rng3 (by assumption) (by assumption) (by first | decide | omega) (by omega) ?_); intro _ _ _ _ _ _ _ _ _))) | ((k_dflt ((with_reducible show wpAny _ _ (call (Value.type _) [Value.int _ _, Value.int _ _]) _ _ _); (refine rng2 (by assumption) (by assumption) ?_); intro _ _ _ _ _ _ _ _ _))) | ((k_dflt ((with_reducible show wpAny _ _ (call (Value.builtin "len") [Value.ref _]) _ _ _); (rename News _ _ _ _ => N9q); (refine kda_len (knd := intKind PR _) N9q (by k_memK) (by with_reducible assumption) (by with_reducible assumption) (by omega) ?_)))) | ((k_dflt ((with_reducible show wpAny _ _ (binaryOp _ (Value.int (_ + 1) _) (Value.int 4 _)) _ _ _); (refine div_q2 (by exact fmod4 _) ?_)))) | walk1 | (dsimp only; walk1) | (leave1; try dsimp only))))
      refine' ExitW.here (_, _, _) ?Fs1 ?Ns1 ?ns1 ?hps1 trivial
      case Fs1 => assumption
      case Ns1 => assumption
      case hps1 => ((repeat' (first | exact List.forall_mem_nil _ | (refine List.forall_mem_cons.mpr ⟨by with_unfolding_all rfl, ?_⟩))))
      case ns1 => exact fun p hp => .tail _ hp

    case s1d =>
    clear F6 N6
    rintro ⟨tt, tu, tw⟩ u6 h6 tk6 - F6 N6
    try dsimp only at F6 N6 ⊢
    refine execs_mid (σ := Unit) (L := s1.heap.objs.size) s1.heap (fun _ => (ld, listOf vd.toArray kd) :: (lu, listOf vu.toArray ku) :: (lD, listOf vsD.toArray kD) :: (s1.heap.objs.size + 1, oh) :: (s1.heap.objs.size + 1 + 1, o4) :: (d, od) :: rest) (fun c => [(Str.ofString "text", .str (txt (ds.map (fun n => 65 + n))) tt), (Str.ofString "high", .str (txt ((upN n d0).map (fun n => 65 + n))) tu), (Str.ofString "low", .str (txt ((downN d0).map (fun n => 65 + n))) tw), (Str.ofString "down", .ref ld), (Str.ofString "up", .ref lu), (Str.ofString "size", .int (n : Int) t)]) (fun _ => True) ?s2 ?s2d
    case s2 =>

      (repeat' (first | (k_unfold; (try dsimp only)) | ((with_reducible show wpAny _ _ (PySem.exec (PySem.Stmt.Return (some (PySem.Expr.Constant (PySem.Const.bool false) _ _)) _) _) _ _ _); exfalso; first | assumption | contradiction | omega) | ((fail_if_success (with_reducible show wpAny _ _ (PySem.exec (PySem.Stmt.For _ _ _ _ _) _) _ _ _)); first | ((with_reducible show wpAny _ _ (compareOp CmpOp.Eq (Value.ref _) (Value.ref _)) _ _ _); (k_dflt ((rename News _ _ _ _ => N9q); (first | (refine eq_nilT N9q (by k_memK) (by exact List.Mem.head _) (by with_reducible assumption) (by with_reducible assumption) (by (simp only [Around.deeper, Around.in1]; decide)) ?_) | (refine eq_nilF N9q (by k_memK) (by exact List.Mem.head _) (by with_reducible assumption) (by with_reducible assumption) (by (simp only [Around.deeper, Around.in1]; decide)) ?_))))) | ((with_reducible show wpAny _ _ (subscriptTail (Expr.Name _ _) (Expr.Name _ _) (Value.ref _) (Value.int _ _)) _ _ _); (k_dflt ((rename News _ _ _ _ => N9q); (refine kda_item (knd := intKind PR _) N9q (by k_memK) (by with_reducible assumption) (by exact intKind_is _ _ _ _) (by with_reducible assumption) ?_)))) | (((with_reducible show wpAny _ _ (eval (Expr.Name _ _) (compEnvC _ _ _ _)) _ _ _); k_dflt (first | (refine blk_C (by assumption) (by rfl) (by k_mem) (by assumption) ?_ (by rfl) (by rfl) (by decide)) | (refine blk_L (by assumption) (by rfl) (by assumption) ?_ (by rfl) (by rfl) (by decide))))) | ((with_reducible show wpAny _ _ (compareOp CmpOp.NotEq (Value.bool _) (Value.bool _)) _ _ _); (k_dflt (with_reducible refine ne_bsame ?_))) | ((k_dflt ((with_reducible show wpAny _ _ (call (Value.builtin "len") [Value.ref _]) _ _ _); (rename News _ _ _ _ => N9q); (refine len_news N9q (by k_memK) (by with_reducible assumption) (by first | with_reducible assumption | omega) ?_)))) | ((k_dflt ((with_reducible show wpAny _ _ (call (Value.ref 82) _) _ _ _); (rename Fr _ _ _ _ => F9q); (rename News _ _ _ _ => N9q); (refine c_neigh (by (exact ⟨Frag.In.keeps (by assumption) (Fr.keep (by assumption)), ⟨_, _, _, _, _, Top.keeps (by assumption) (Fr.keep (by assumption))⟩, rfl, by (simp only [Around.deeper, Around.in1]; decide), by (simp only [Around.deeper, Around.in1]; decide)⟩)) (isList_news N9q (by k_memK)) (by with_reducible assumption) (by omega) ?_; intro _ _ k9q; (have F8q := Fr.keepsK F9q k9q); (have N8q := News.keepsK N9q k9q); clear F9q N9q k9q)))) | ((k_dflt ((with_reducible show wpAny _ _ (call (Value.ref 28) _) _ _ _); (rename Fr _ _ _ _ => F9q); (rename News _ _ _ _ => N9q); (refine c_lev (by (exact ⟨Frag.In.keeps (by assumption) (Fr.keep (by assumption)), ⟨_, _, _, _, _, Top.keeps (by assumption) (Fr.keep (by assumption))⟩, rfl, by (simp only [Around.deeper, Around.in1]; decide), by (simp only [Around.deeper, Around.in1]; decide)⟩)) (by with_reducible assumption) (by with_reducible assumption) (by first | with_reducible assumption | omega) (by first | with_reducible assumption | omega) ?_; intro _ _ _ k9q; (have F8q := Fr.keepsK F9q k9q); (have N8q := News.keepsK N9q k9q); clear F9q N9q k9q)))) | ((k_dflt ((with_reducible show wpAny _ _ (call (Value.ref 94) _) _ _ _); (rename Fr _ _ _ _ => F9q); (rename News _ _ _ _ => N9q); (refine c_text (by (exact ⟨Frag.In.keeps (by assumption) (Fr.keep (by assumption)), ⟨_, _, _, _, _, Top.keeps (by assumption) (Fr.keep (by assumption))⟩, rfl, by (simp only [Around.deeper, Around.in1]; decide), by (simp only [Around.deeper, Around.in1]; decide)⟩)) (isList_news N9q (by k_memK)) (by with_reducible assumption) (by exact rfl) (by first | with_reducible assumption | omega) (by with_reducible assumption) (by with_reducible assumption) ?_; intro _ _ _ k9q; (have F8q := Fr.keepsK F9q k9q); (have N8q := News.keepsK N9q k9q); clear F9q N9q k9q)))) | ((with_reducible show wpAny _ _ (compareOp CmpOp.NotEq (Value.bytes _ _) (Value.bytes _ _)) _ _ _); (k_dflt (refine ne_same ?_))) | ((k_dflt ((with_reducible show wpAny _ _ (call (Value.ref 49) _) _ _ _); (refine c_ap (by (exact ⟨Frag.In.keeps (by assumption) (Fr.keep (by assumption)), ⟨_, _, _, _, _, Top.keeps (by assumption) (Fr.keep (by assumption))⟩, rfl, by (simp only [Around.deeper, Around.in1]; decide), by (simp only [Around.deeper, Around.in1]; decide)⟩)) (by with_reducible assumption) (by with_reducible assumption) (by with_reducible assumption) (by with_reducible assumption) ?_; intro _ _ _ k9q; (rename Fr _ _ _ _ => F9q); (rename News _ _ _ _ => N9q); (have F8q := Fr.keepsK F9q k9q); (have N8q := News.keepsK N9q k9q); clear F9q N9q k9q)))) | ((k_dflt ((with_reducible show wpAny _ _ (call (Value.ref 89) _) _ _ _); (rename Fr _ _ _ _ => F9q); (rename News _ _ _ _ => N9q); (refine c_number (by (exact ⟨Frag.In.keeps (by assumption) (Fr.keep (by assumption)), ⟨_, _, _, _, _, Top.keeps (by assumption) (Fr.keep (by assumption))⟩, rfl, by (simp only [Around.deeper, Around.in1]; decide), by (simp only [Around.deeper, Around.in1]; decide)⟩)) (isList_news N9q (by k_memK)) (by with_reducible assumption) ?_; intro _ _ _ k9q; (have F8q := Fr.keepsK F9q k9q); (have N8q := News.keepsK N9q k9q); clear F9q N9q k9q)))) | ((with_reducible show wpAny _ _ (subscriptTail (Expr.Name _ _) (Expr.Constant _ _ _) (Value.ref _) (Value.int _ _)) _ _ _); (k_dflt ((rename News _ _ _ _ => N9q); (refine at_listE (isList_news N9q (by k_memK)) (by with_reducible assumption) (by with_reducible assumption) (by rfl) (by omega) (by omega) ?_); intro _))) | ((k_dflt ((with_reducible show wpAny _ _ (call (Value.type _) [Value.ref _]) _ _ _); (refine list_range _ (by rfl) (by assumption) (by assumption) (by assumption) (by exact small_mine (by omega) (by omega) (by omega)) (by assumption) (by omega) ?_; intro _ _ _ _ _ _ l1q _ _; (try k_lt l1q))))) | ((k_dflt ((with_reducible show wpAny _ _ (call (Value.type _) [Value.int _ _, Value.int _ _, Value.int _ _]) _ _ _); (refine rng3 (by assumption) (by assumption) (by first | decide | omega) (by omega) ?_); intro _ _ _ _ _ _ _ _ _))) | ((k_dflt ((with_reducible show wpAny _ _ (call (Value.type _) [Value.int _ _, Value.int _ _]) _ _ _); (refine rng2 (by assumption) (by assumption) ?_); intro _ _ _ _ _ _ _ _ _))) | ((k_dflt ((with_reducible show wpAny _ _ (call (Value.builtin "len") [Value.ref _]) _ _ _); (rename News _ _ _ _ => N9q); (refine kda_len (knd := intKind PR _) N9q (by k_memK) (by with_reducible assumption) (by with_reducible assumption) (by omega) ?_)))) | ((k_dflt ((with_reducible show wpAny _ _ (binaryOp _ (Value.int (_ + 1) _) (Value.int 4 _)) _ _ _); (refine div_q2 (by exact fmod4 _) ?_)))) | walk1 | (dsimp only; walk1) | (leave1; try dsimp only))))
      refine' ExitW.here () ?Fs2 ?Ns2 ?ns2 ?hps2 trivial
      case Fs2 => assumption
      case Ns2 => assumption
      case hps2 => ((repeat' (first | exact List.forall_mem_nil _ | (refine List.forall_mem_cons.mpr ⟨by with_unfolding_all rfl, ?_⟩))))
      case ns2 => exact fun p hp => hp

    case s2d =>
    clear F6 N6 hlev1
    rintro - u6 h6 tk6 - F6 N6
    try dsimp only at F6 N6 ⊢
    refine execs_mid (σ := Unit) (L := s1.heap.objs.size) s1.heap (fun _ => (ld, listOf vd.toArray kd) :: (lu, listOf vu.toArray ku) :: (lD, listOf vsD.toArray kD) :: (s1.heap.objs.size + 1, oh) :: (s1.heap.objs.size + 1 + 1, o4) :: (d, od) :: rest) (fun c => [(Str.ofString "straight", .bool (neighF (castsI ds))), (Str.ofString "text", .str (txt (ds.map (fun n => 65 + n))) tt), (Str.ofString "high", .str (txt ((upN n d0).map (fun n => 65 + n))) tu), (Str.ofString "low", .str (txt ((downN d0).map (fun n => 65 + n))) tw), (Str.ofString "down", .ref ld), (Str.ofString "up", .ref lu), (Str.ofString "size", .int (n : Int) t)]) (fun _ => True) ?s3 ?s3d
    case s3 =>

      (repeat' (first | (k_unfold; (try dsimp only)) | ((with_reducible show wpAny _ _ (PySem.exec (PySem.Stmt.Return (some (PySem.Expr.Constant (PySem.Const.bool false) _ _)) _) _) _ _ _); exfalso; first | assumption | contradiction | omega) | ((fail_if_success (with_reducible show wpAny _ _ (PySem.exec (PySem.Stmt.For _ _ _ _ _) _) _ _ _)); first | ((with_reducible show wpAny _ _ (compareOp CmpOp.Eq (Value.ref _) (Value.ref _)) _ _ _); (k_dflt ((rename News _ _ _ _ => N9q); (first | (refine eq_nilT N9q (by k_memK) (by exact List.Mem.head _) (by with_reducible assumption) (by with_reducible assumption) (by (simp only [Around.deeper, Around.in1]; decide)) ?_) | (refine eq_nilF N9q (by k_memK) (by exact List.Mem.head _) (by with_reducible assumption) (by with_reducible assumption) (by (simp only [Around.deeper, Around.in1]; decide)) ?_))))) | ((with_reducible show wpAny _ _ (subscriptTail (Expr.Name _ _) (Expr.Name _ _) (Value.ref _) (Value.int _ _)) _ _ _); (k_dflt ((rename News _ _ _ _ => N9q); (refine kda_item (knd := intKind PR _) N9q (by k_memK) (by with_reducible assumption) (by exact intKind_is _ _ _ _) (by with_reducible assumption) ?_)))) | (((with_reducible show wpAny _ _ (eval (Expr.Name _ _) (compEnvC _ _ _ _)) _ _ _); k_dflt (first | (refine blk_C (by assumption) (by rfl) (by k_mem) (by assumption) ?_ (by rfl) (by rfl) (by decide)) | (refine blk_L (by assumption) (by rfl) (by assumption) ?_ (by rfl) (by rfl) (by decide))))) | ((with_reducible show wpAny _ _ (compareOp CmpOp.NotEq (Value.bool _) (Value.bool _)) _ _ _); (k_dflt (with_reducible refine ne_bsame ?_))) | ((k_dflt ((with_reducible show wpAny _ _ (call (Value.builtin "len") [Value.ref _]) _ _ _); (rename News _ _ _ _ => N9q); (refine len_news N9q (by k_memK) (by with_reducible assumption) (by first | with_reducible assumption | omega) ?_)))) | ((k_dflt ((with_reducible show wpAny _ _ (call (Value.ref 82) _) _ _ _); (rename Fr _ _ _ _ => F9q); (rename News _ _ _ _ => N9q); (refine c_neigh (by (exact ⟨Frag.In.keeps (by assumption) (Fr.keep (by assumption)), ⟨_, _, _, _, _, Top.keeps (by assumption) (Fr.keep (by assumption))⟩, rfl, by (simp only [Around.deeper, Around.in1]; decide), by (simp only [Around.deeper, Around.in1]; decide)⟩)) (isList_news N9q (by k_memK)) (by with_reducible assumption) (by omega) ?_; intro _ _ k9q; (have F8q := Fr.keepsK F9q k9q); (have N8q := News.keepsK N9q k9q); clear F9q N9q k9q)))) | ((k_dflt ((with_reducible show wpAny _ _ (call (Value.ref 28) _) _ _ _); (rename Fr _ _ _ _ => F9q); (rename News _ _ _ _ => N9q); (refine c_lev (by (exact ⟨Frag.In.keeps (by assumption) (Fr.keep (by assumption)), ⟨_, _, _, _, _, Top.keeps (by assumption) (Fr.keep (by assumption))⟩, rfl, by (simp only [Around.deeper, Around.in1]; decide), by (simp only [Around.deeper, Around.in1]; decide)⟩)) (by with_reducible assumption) (by with_reducible assumption) (by first | with_reducible assumption | omega) (by first | with_reducible assumption | omega) ?_; intro _ _ _ k9q; (have F8q := Fr.keepsK F9q k9q); (have N8q := News.keepsK N9q k9q); clear F9q N9q k9q)))) | ((k_dflt ((with_reducible show wpAny _ _ (call (Value.ref 94) _) _ _ _); (rename Fr _ _ _ _ => F9q); (rename News _ _ _ _ => N9q); (refine c_text (by (exact ⟨Frag.In.keeps (by assumption) (Fr.keep (by assumption)), ⟨_, _, _, _, _, Top.keeps (by assumption) (Fr.keep (by assumption))⟩, rfl, by (simp only [Around.deeper, Around.in1]; decide), by (simp only [Around.deeper, Around.in1]; decide)⟩)) (isList_news N9q (by k_memK)) (by with_reducible assumption) (by exact rfl) (by first | with_reducible assumption | omega) (by with_reducible assumption) (by with_reducible assumption) ?_; intro _ _ _ k9q; (have F8q := Fr.keepsK F9q k9q); (have N8q := News.keepsK N9q k9q); clear F9q N9q k9q)))) | ((with_reducible show wpAny _ _ (compareOp CmpOp.NotEq (Value.bytes _ _) (Value.bytes _ _)) _ _ _); (k_dflt (refine ne_same ?_))) | ((k_dflt ((with_reducible show wpAny _ _ (call (Value.ref 49) _) _ _ _); (refine c_ap (by (exact ⟨Frag.In.keeps (by assumption) (Fr.keep (by assumption)), ⟨_, _, _, _, _, Top.keeps (by assumption) (Fr.keep (by assumption))⟩, rfl, by (simp only [Around.deeper, Around.in1]; decide), by (simp only [Around.deeper, Around.in1]; decide)⟩)) (by with_reducible assumption) (by with_reducible assumption) (by with_reducible assumption) (by with_reducible assumption) ?_; intro _ _ _ k9q; (rename Fr _ _ _ _ => F9q); (rename News _ _ _ _ => N9q); (have F8q := Fr.keepsK F9q k9q); (have N8q := News.keepsK N9q k9q); clear F9q N9q k9q)))) | ((k_dflt ((with_reducible show wpAny _ _ (call (Value.ref 89) _) _ _ _); (rename Fr _ _ _ _ => F9q); (rename News _ _ _ _ => N9q); (refine c_number (by (exact ⟨Frag.In.keeps (by assumption) (Fr.keep (by assumption)), ⟨_, _, _, _, _, Top.keeps (by assumption) (Fr.keep (by assumption))⟩, rfl, by (simp only [Around.deeper, Around.in1]; decide), by (simp only [Around.deeper, Around.in1]; decide)⟩)) (isList_news N9q (by k_memK)) (by with_reducible assumption) ?_; intro _ _ _ k9q; (have F8q := Fr.keepsK F9q k9q); (have N8q := News.keepsK N9q k9q); clear F9q N9q k9q)))) | ((with_reducible show wpAny _ _ (subscriptTail (Expr.Name _ _) (Expr.Constant _ _ _) (Value.ref _) (Value.int _ _)) _ _ _); (k_dflt ((rename News _ _ _ _ => N9q); (refine at_listE (isList_news N9q (by k_memK)) (by with_reducible assumption) (by with_reducible assumption) (by rfl) (by omega) (by omega) ?_); intro _))) | ((k_dflt ((with_reducible show wpAny _ _ (call (Value.type _) [Value.ref _]) _ _ _); (refine list_range _ (by rfl) (by assumption) (by assumption) (by assumption) (by exact small_mine (by omega) (by omega) (by omega)) (by assumption) (by omega) ?_; intro _ _ _ _ _ _ l1q _ _; (try k_lt l1q))))) | ((k_dflt ((with_reducible show wpAny _ _ (call (Value.type _) [Value.int _ _, Value.int _ _, Value.int _ _]) _ _ _); (refine rng3 (by assumption) (by assumption) (by first | decide | omega) (by omega) ?_); intro _ _ _ _ _ _ _ _ _))) | ((k_dflt ((with_reducible show wpAny _ _ (call (Value.type _) [Value.int _ _, Value.int _ _]) _ _ _); (refine rng2 (by assumption) (by assumption) ?_); intro _ _ _ _ _ _ _ _ _))) | ((k_dflt ((with_reducible show wpAny _ _ (call (Value.builtin "len") [Value.ref _]) _ _ _); (rename News _ _ _ _ => N9q); (refine kda_len (knd := intKind PR _) N9q (by k_memK) (by with_reducible assumption) (by with_reducible assumption) (by omega) ?_)))) | ((k_dflt ((with_reducible show wpAny _ _ (binaryOp _ (Value.int (_ + 1) _) (Value.int 4 _)) _ _ _); (refine div_q2 (by exact fmod4 _) ?_)))) | walk1 | (dsimp only; walk1) | (leave1; try dsimp only))))
      refine' ExitW.here () ?Fs3 ?Ns3 ?ns3 ?hps3 trivial
      case Fs3 => assumption
      case Ns3 => assumption
      case hps3 => ((repeat' (first | exact List.forall_mem_nil _ | (refine List.forall_mem_cons.mpr ⟨by with_unfolding_all rfl, ?_⟩))))
      case ns3 => exact fun p hp => hp

    case s3d =>
    clear F6 N6
    rintro - u6 h6 tk6 - F6 N6
    try dsimp only at F6 N6 ⊢
    refine execs_mid (σ := Unit) (L := s1.heap.objs.size) s1.heap (fun _ => (ld, listOf vd.toArray kd) :: (lu, listOf vu.toArray ku) :: (lD, listOf vsD.toArray kD) :: (s1.heap.objs.size + 1, oh) :: (s1.heap.objs.size + 1 + 1, o4) :: (d, od) :: rest) (fun c => [(Str.ofString "within", .bool (neighF (castsI ds))), (Str.ofString "straight", .bool (neighF (castsI ds))), (Str.ofString "down", .ref ld), (Str.ofString "up", .ref lu), (Str.ofString "size", .int (n : Int) t)]) (fun _ => True) ?s4 ?s4d
    case s4 =>

      (repeat' (first | (k_unfold; (try dsimp only)) | ((with_reducible show wpAny _ _ (PySem.exec (PySem.Stmt.Return (some (PySem.Expr.Constant (PySem.Const.bool false) _ _)) _) _) _ _ _); exfalso; first | assumption | contradiction | omega) | ((fail_if_success (with_reducible show wpAny _ _ (PySem.exec (PySem.Stmt.For _ _ _ _ _) _) _ _ _)); first | ((with_reducible show wpAny _ _ (compareOp CmpOp.Eq (Value.ref _) (Value.ref _)) _ _ _); (k_dflt ((rename News _ _ _ _ => N9q); (first | (refine eq_nilT N9q (by k_memK) (by exact List.Mem.head _) (by with_reducible assumption) (by with_reducible assumption) (by (simp only [Around.deeper, Around.in1]; decide)) ?_) | (refine eq_nilF N9q (by k_memK) (by exact List.Mem.head _) (by with_reducible assumption) (by with_reducible assumption) (by (simp only [Around.deeper, Around.in1]; decide)) ?_))))) | ((with_reducible show wpAny _ _ (subscriptTail (Expr.Name _ _) (Expr.Name _ _) (Value.ref _) (Value.int _ _)) _ _ _); (k_dflt ((rename News _ _ _ _ => N9q); (refine kda_item (knd := intKind PR _) N9q (by k_memK) (by with_reducible assumption) (by exact intKind_is _ _ _ _) (by with_reducible assumption) ?_)))) | (((with_reducible show wpAny _ _ (eval (Expr.Name _ _) (compEnvC _ _ _ _)) _ _ _); k_dflt (first | (refine blk_C (by assumption) (by rfl) (by k_mem) (by assumption) ?_ (by rfl) (by rfl) (by decide)) | (refine blk_L (by assumption) (by rfl) (by assumption) ?_ (by rfl) (by rfl) (by decide))))) | ((with_reducible show wpAny _ _ (compareOp CmpOp.NotEq (Value.bool _) (Value.bool _)) _ _ _); (k_dflt (with_reducible refine ne_bsame ?_))) | ((k_dflt ((with_reducible show wpAny _ _ (call (Value.builtin "len") [Value.ref _]) _ _ _); (rename News _ _ _ _ => N9q); (refine len_news N9q (by k_memK) (by with_reducible assumption) (by first | with_reducible assumption | omega) ?_)))) | ((k_dflt ((with_reducible show wpAny _ _ (call (Value.ref 82) _) _ _ _); (rename Fr _ _ _ _ => F9q); (rename News _ _ _ _ => N9q); (refine c_neigh (by (exact ⟨Frag.In.keeps (by assumption) (Fr.keep (by assumption)), ⟨_, _, _, _, _, Top.keeps (by assumption) (Fr.keep (by assumption))⟩, rfl, by (simp only [Around.deeper, Around.in1]; decide), by (simp only [Around.deeper, Around.in1]; decide)⟩)) (isList_news N9q (by k_memK)) (by with_reducible assumption) (by omega) ?_; intro _ _ k9q; (have F8q := Fr.keepsK F9q k9q); (have N8q := News.keepsK N9q k9q); clear F9q N9q k9q)))) | ((k_dflt ((with_reducible show wpAny _ _ (call (Value.ref 28) _) _ _ _); (rename Fr _ _ _ _ => F9q); (rename News _ _ _ _ => N9q); (refine c_lev (by (exact ⟨Frag.In.keeps (by assumption) (Fr.keep (by assumption)), ⟨_, _, _, _, _, Top.keeps (by assumption) (Fr.keep (by assumption))⟩, rfl, by (simp only [Around.deeper, Around.in1]; decide), by (simp only [Around.deeper, Around.in1]; decide)⟩)) (by with_reducible assumption) (by with_reducible assumption) (by first | with_reducible assumption | omega) (by first | with_reducible assumption | omega) ?_; intro _ _ _ k9q; (have F8q := Fr.keepsK F9q k9q); (have N8q := News.keepsK N9q k9q); clear F9q N9q k9q)))) | ((k_dflt ((with_reducible show wpAny _ _ (call (Value.ref 94) _) _ _ _); (rename Fr _ _ _ _ => F9q); (rename News _ _ _ _ => N9q); (refine c_text (by (exact ⟨Frag.In.keeps (by assumption) (Fr.keep (by assumption)), ⟨_, _, _, _, _, Top.keeps (by assumption) (Fr.keep (by assumption))⟩, rfl, by (simp only [Around.deeper, Around.in1]; decide), by (simp only [Around.deeper, Around.in1]; decide)⟩)) (isList_news N9q (by k_memK)) (by with_reducible assumption) (by exact rfl) (by first | with_reducible assumption | omega) (by with_reducible assumption) (by with_reducible assumption) ?_; intro _ _ _ k9q; (have F8q := Fr.keepsK F9q k9q); (have N8q := News.keepsK N9q k9q); clear F9q N9q k9q)))) | ((with_reducible show wpAny _ _ (compareOp CmpOp.NotEq (Value.bytes _ _) (Value.bytes _ _)) _ _ _); (k_dflt (refine ne_same ?_))) | ((k_dflt ((with_reducible show wpAny _ _ (call (Value.ref 49) _) _ _ _); (refine c_ap (by (exact ⟨Frag.In.keeps (by assumption) (Fr.keep (by assumption)), ⟨_, _, _, _, _, Top.keeps (by assumption) (Fr.keep (by assumption))⟩, rfl, by (simp only [Around.deeper, Around.in1]; decide), by (simp only [Around.deeper, Around.in1]; decide)⟩)) (by with_reducible assumption) (by with_reducible assumption) (by with_reducible assumption) (by with_reducible assumption) ?_; intro _ _ _ k9q; (rename Fr _ _ _ _ => F9q); (rename News _ _ _ _ => N9q); (have F8q := Fr.keepsK F9q k9q); (have N8q := News.keepsK N9q k9q); clear F9q N9q k9q)))) | ((k_dflt ((with_reducible show wpAny _ _ (call (Value.ref 89) _) _ _ _); (rename Fr _ _ _ _ => F9q); (rename News _ _ _ _ => N9q); (refine c_number (by (exact ⟨Frag.In.keeps (by assumption) (Fr.keep (by assumption)), ⟨_, _, _, _, _, Top.keeps (by assumption) (Fr.keep (by assumption))⟩, rfl, by (simp only [Around.deeper, Around.in1]; decide), by (simp only [Around.deeper, Around.in1]; decide)⟩)) (isList_news N9q (by k_memK)) (by with_reducible assumption) ?_; intro _ _ _ k9q; (have F8q := Fr.keepsK F9q k9q); (have N8q := News.keepsK N9q k9q); clear F9q N9q k9q)))) | ((with_reducible show wpAny _ _ (subscriptTail (Expr.Name _ _) (Expr.Constant _ _ _) (Value.ref _) (Value.int _ _)) _ _ _); (k_dflt ((rename News _ _ _ _ => N9q); (refine at_listE (isList_news N9q (by k_memK)) (by with_reducible assumption) (by with_reducible assumption) (by rfl) (by omega) (by omega) ?_); intro _))) | ((k_dflt ((with_reducible show wpAny _ _ (call (Value.type _) [Value.ref _]) _ _ _); (refine list_range _ (by rfl) (by assumption) (by assumption) (by assumption) (by exact small_mine (by omega) (by omega) (by omega)) (by assumption) (by omega) ?_; intro _ _ _ _ _ _ l1q _ _; (try k_lt l1q))))) | ((k_dflt ((with_reducible show wpAny _ _ (call (Value.type _) [Value.int _ _, Value.int _ _, Value.int _ _]) _ _ _); (refine rng3 (by assumption) (by assumption) (by first | decide | omega) (by omega) ?_); intro _ _ _ _ _ _ _ _ _))) | ((k_dflt ((with_reducible show wpAny _ _ (call (Value.type _) [Value.int _ _, Value.int _ _]) _ _ _); (refine rng2 (by assumption) (by assumption) ?_); intro _ _ _ _ _ _ _ _ _))) | ((k_dflt ((with_reducible show wpAny _ _ (call (Value.builtin "len") [Value.ref _]) _ _ _); (rename News _ _ _ _ => N9q); (refine kda_len (knd := intKind PR _) N9q (by k_memK) (by with_reducible assumption) (by with_reducible assumption) (by omega) ?_)))) | ((k_dflt ((with_reducible show wpAny _ _ (binaryOp _ (Value.int (_ + 1) _) (Value.int 4 _)) _ _ _); (refine div_q2 (by exact fmod4 _) ?_)))) | walk1 | (dsimp only; walk1) | (leave1; try dsimp only))))
      · refine' ExitW.here () ?Fs4 ?Ns4 ?ns4 ?hps4 trivial
        case Fs4 => assumption
        case Ns4 => assumption
        case hps4 => exact List.forall_mem_cons.mpr ⟨congrArg (fun b => some (Value.bool b)) (within1 hwit (by assumption)), by ((repeat' (first | exact List.forall_mem_nil _ | (refine List.forall_mem_cons.mpr ⟨by with_unfolding_all rfl, ?_⟩))))⟩
        case ns4 => exact fun p hp => hp
      · refine' ExitW.here () ?Fs4b ?Ns4b ?ns4b ?hps4b trivial
        case Fs4b => assumption
        case Ns4b => assumption
        case hps4b => exact List.forall_mem_cons.mpr ⟨congrArg (fun b => some (Value.bool b)) (within2 hwit (by assumption)), by ((repeat' (first | exact List.forall_mem_nil _ | (refine List.forall_mem_cons.mpr ⟨by with_unfolding_all rfl, ?_⟩))))⟩
        case ns4b => exact fun p hp => hp

    case s4d =>
    clear F6 N6 h8d h8u h8w h8dt h8ut h8wt hku hkw hwit hdt1 hut1 hwt1 hucl hwcl hul hdwl hrsu hrsd hiu hid hux hdwx hu16 hw16 huh0 hwh0 hdh0 hd16
    rintro - u6 h6 tk6 - F6 N6
    try dsimp only at F6 N6 ⊢
    refine execs_mid (σ := Unit) (L := s1.heap.objs.size) s1.heap (fun _ => (ld, listOf vd.toArray kd) :: (lu, listOf vu.toArray ku) :: (lD, listOf vsD.toArray kD) :: (s1.heap.objs.size + 1, oh) :: (s1.heap.objs.size + 1 + 1, o4) :: (d, od) :: rest) (fun c => [(Str.ofString "straight", .bool (neighF (castsI ds))), (Str.ofString "size", .int (n : Int) t)]) (fun _ => True) ?s5 ?s5d
    case s5 =>

      (repeat' (first | (k_unfold; (try dsimp only)) | ((with_reducible show wpAny _ _ (PySem.exec (PySem.Stmt.Return (some (PySem.Expr.Constant (PySem.Const.bool false) _ _)) _) _) _ _ _); exfalso; first | assumption | contradiction | omega) | ((fail_if_success (with_reducible show wpAny _ _ (PySem.exec (PySem.Stmt.For _ _ _ _ _) _) _ _ _)); first | ((with_reducible show wpAny _ _ (compareOp CmpOp.Eq (Value.ref _) (Value.ref _)) _ _ _); (k_dflt ((rename News _ _ _ _ => N9q); (first | (refine eq_nilT N9q (by k_memK) (by exact List.Mem.head _) (by with_reducible assumption) (by with_reducible assumption) (by (simp only [Around.deeper, Around.in1]; decide)) ?_) | (refine eq_nilF N9q (by k_memK) (by exact List.Mem.head _) (by with_reducible assumption) (by with_reducible assumption) (by (simp only [Around.deeper, Around.in1]; decide)) ?_))))) | ((with_reducible show wpAny _ _ (subscriptTail (Expr.Name _ _) (Expr.Name _ _) (Value.ref _) (Value.int _ _)) _ _ _); (k_dflt ((rename News _ _ _ _ => N9q); (refine kda_item (knd := intKind PR _) N9q (by k_memK) (by with_reducible assumption) (by exact intKind_is _ _ _ _) (by with_reducible assumption) ?_)))) | (((with_reducible show wpAny _ _ (eval (Expr.Name _ _) (compEnvC _ _ _ _)) _ _ _); k_dflt (first | (refine blk_C (by assumption) (by rfl) (by k_mem) (by assumption) ?_ (by rfl) (by rfl) (by decide)) | (refine blk_L (by assumption) (by rfl) (by assumption) ?_ (by rfl) (by rfl) (by decide))))) | ((with_reducible show wpAny _ _ (compareOp CmpOp.NotEq (Value.bool _) (Value.bool _)) _ _ _); (k_dflt (with_reducible refine ne_bsame ?_))) | ((k_dflt ((with_reducible show wpAny _ _ (call (Value.builtin "len") [Value.ref _]) _ _ _); (rename News _ _ _ _ => N9q); (refine len_news N9q (by k_memK) (by with_reducible assumption) (by first | with_reducible assumption | omega) ?_)))) | ((k_dflt ((with_reducible show wpAny _ _ (call (Value.ref 82) _) _ _ _); (rename Fr _ _ _ _ => F9q); (rename News _ _ _ _ => N9q); (refine c_neigh (by (exact ⟨Frag.In.keeps (by assumption) (Fr.keep (by assumption)), ⟨_, _, _, _, _, Top.keeps (by assumption) (Fr.keep (by assumption))⟩, rfl, by (simp only [Around.deeper, Around.in1]; decide), by (simp only [Around.deeper, Around.in1]; decide)⟩)) (isList_news N9q (by k_memK)) (by with_reducible assumption) (by omega) ?_; intro _ _ k9q; (have F8q := Fr.keepsK F9q k9q); (have N8q := News.keepsK N9q k9q); clear F9q N9q k9q)))) | ((k_dflt ((with_reducible show wpAny _ _ (call (Value.ref 28) _) _ _ _); (rename Fr _ _ _ _ => F9q); (rename News _ _ _ _ => N9q); (refine c_lev (by (exact ⟨Frag.In.keeps (by assumption) (Fr.keep (by assumption)), ⟨_, _, _, _, _, Top.keeps (by assumption) (Fr.keep (by assumption))⟩, rfl, by (simp only [Around.deeper, Around.in1]; decide), by (simp only [Around.deeper, Around.in1]; decide)⟩)) (by with_reducible assumption) (by with_reducible assumption) (by first | with_reducible assumption | omega) (by first | with_reducible assumption | omega) ?_; intro _ _ _ k9q; (have F8q := Fr.keepsK F9q k9q); (have N8q := News.keepsK N9q k9q); clear F9q N9q k9q)))) | ((k_dflt ((with_reducible show wpAny _ _ (call (Value.ref 94) _) _ _ _); (rename Fr _ _ _ _ => F9q); (rename News _ _ _ _ => N9q); (refine c_text (by (exact ⟨Frag.In.keeps (by assumption) (Fr.keep (by assumption)), ⟨_, _, _, _, _, Top.keeps (by assumption) (Fr.keep (by assumption))⟩, rfl, by (simp only [Around.deeper, Around.in1]; decide), by (simp only [Around.deeper, Around.in1]; decide)⟩)) (isList_news N9q (by k_memK)) (by with_reducible assumption) (by exact rfl) (by first | with_reducible assumption | omega) (by with_reducible assumption) (by with_reducible assumption) ?_; intro _ _ _ k9q; (have F8q := Fr.keepsK F9q k9q); (have N8q := News.keepsK N9q k9q); clear F9q N9q k9q)))) | ((with_reducible show wpAny _ _ (compareOp CmpOp.NotEq (Value.bytes _ _) (Value.bytes _ _)) _ _ _); (k_dflt (refine ne_same ?_))) | ((k_dflt ((with_reducible show wpAny _ _ (call (Value.ref 49) _) _ _ _); (refine c_ap (by (exact ⟨Frag.In.keeps (by assumption) (Fr.keep (by assumption)), ⟨_, _, _, _, _, Top.keeps (by assumption) (Fr.keep (by assumption))⟩, rfl, by (simp only [Around.deeper, Around.in1]; decide), by (simp only [Around.deeper, Around.in1]; decide)⟩)) (by with_reducible assumption) (by with_reducible assumption) (by with_reducible assumption) (by with_reducible assumption) ?_; intro _ _ _ k9q; (rename Fr _ _ _ _ => F9q); (rename News _ _ _ _ => N9q); (have F8q := Fr.keepsK F9q k9q); (have N8q := News.keepsK N9q k9q); clear F9q N9q k9q)))) | ((k_dflt ((with_reducible show wpAny _ _ (call (Value.ref 89) _) _ _ _); (rename Fr _ _ _ _ => F9q); (rename News _ _ _ _ => N9q); (refine c_number (by (exact ⟨Frag.In.keeps (by assumption) (Fr.keep (by assumption)), ⟨_, _, _, _, _, Top.keeps (by assumption) (Fr.keep (by assumption))⟩, rfl, by (simp only [Around.deeper, Around.in1]; decide), by (simp only [Around.deeper, Around.in1]; decide)⟩)) (isList_news N9q (by k_memK)) (by with_reducible assumption) ?_; intro _ _ _ k9q; (have F8q := Fr.keepsK F9q k9q); (have N8q := News.keepsK N9q k9q); clear F9q N9q k9q)))) | ((with_reducible show wpAny _ _ (subscriptTail (Expr.Name _ _) (Expr.Constant _ _ _) (Value.ref _) (Value.int _ _)) _ _ _); (k_dflt ((rename News _ _ _ _ => N9q); (refine at_listE (isList_news N9q (by k_memK)) (by with_reducible assumption) (by with_reducible assumption) (by rfl) (by omega) (by omega) ?_); intro _))) | ((k_dflt ((with_reducible show wpAny _ _ (call (Value.type _) [Value.ref _]) _ _ _); (refine list_range _ (by rfl) (by assumption) (by assumption) (by assumption) (by exact small_mine (by omega) (by omega) (by omega)) (by assumption) (by omega) ?_; intro _ _ _ _ _ _ l1q _ _; (try k_lt l1q))))) | ((k_dflt ((with_reducible show wpAny _ _ (call (Value.type _) [Value.int _ _, Value.int _ _, Value.int _ _]) _ _ _); (refine rng3 (by assumption) (by assumption) (by first | decide | omega) (by omega) ?_); intro _ _ _ _ _ _ _ _ _))) | ((k_dflt ((with_reducible show wpAny _ _ (call (Value.type _) [Value.int _ _, Value.int _ _]) _ _ _); (refine rng2 (by assumption) (by assumption) ?_); intro _ _ _ _ _ _ _ _ _))) | ((k_dflt ((with_reducible show wpAny _ _ (call (Value.builtin "len") [Value.ref _]) _ _ _); (rename News _ _ _ _ => N9q); (refine kda_len (knd := intKind PR _) N9q (by k_memK) (by with_reducible assumption) (by with_reducible assumption) (by omega) ?_)))) | ((k_dflt ((with_reducible show wpAny _ _ (binaryOp _ (Value.int (_ + 1) _) (Value.int 4 _)) _ _ _); (refine div_q2 (by exact fmod4 _) ?_)))) | walk1 | (dsimp only; walk1) | (leave1; try dsimp only))))
      refine' ExitW.here () ?Fs5 ?Ns5 ?ns5 ?hps5 trivial
      case Fs5 => assumption
      case Ns5 => assumption
      case hps5 => ((repeat' (first | exact List.forall_mem_nil _ | (refine List.forall_mem_cons.mpr ⟨by with_unfolding_all rfl, ?_⟩))))
      case ns5 => exact fun p hp => hp

    case s5d =>
    clear F6 N6
    rintro - u6 h6 tk6 - F6 N6
    try dsimp only at F6 N6 ⊢
    have hrs2 : Builtin.Range.rangeSize 2 ((n : Int) + 1) 1 = ((n - 1 : Nat) : Int) := rsz2 n
    refine execs_mid (σ := Row) (L := s1.heap.objs.size) s1.heap (fun c => (c.l, listOf c.vs.toArray c.k) :: (ld, listOf vd.toArray kd) :: (lu, listOf vu.toArray ku) :: (lD, listOf vsD.toArray kD) :: (s1.heap.objs.size + 1, oh) :: (s1.heap.objs.size + 1 + 1, o4) :: (d, od) :: rest) (fun c => [(Str.ofString "lacking", .ref c.l), (Str.ofString "straight", .bool (neighF (castsI ds))), (Str.ofString "size", .int (n : Int) t)])
      (fun c => IntsAre c.vs ((rangeL 2 1 (n - 1)).filter fun j => !onceF (rowL n j.toNat) ((castsI ds).take j.toNat) j.toNat)) ?s6 ?s6d
    case s6 =>

      refine' LC_A (fun z v => ∃ t, v = .int z t) (fun j => !onceF (rowL n j.toNat) ((castsI ds).take j.toNat) j.toNat) ?hsw ?hclos ?hcell ?hkind ?hnames ?hx ?hy ?hp6 ?hs ?_
      case hsw => with_unfolding_all rfl
      case hclos => with_unfolding_all rfl
      case hcell => decide
      case hkind => rfl
      case hnames => decide
      case hx => rfl
      case hy => with_unfolding_all rfl
      case hp6 => with_unfolding_all rfl
      case hs => intro _; rfl
      (repeat' (first | (k_unfold; (try dsimp only)) | ((fail_if_success (with_reducible show wpAny _ _ (PySem.pyIter _) _ _ _)); (fail_if_success (with_reducible show wpAny _ _ (PySem.call (PySem.Value.ref _) _) _ _ _)); first | ((with_reducible show wpAny _ _ (compareOp CmpOp.Eq (Value.ref _) (Value.ref _)) _ _ _); (k_dflt ((rename News _ _ _ _ => N9q); (first | (refine eq_nilT N9q (by k_memK) (by exact List.Mem.head _) (by with_reducible assumption) (by with_reducible assumption) (by (simp only [Around.deeper, Around.in1]; decide)) ?_) | (refine eq_nilF N9q (by k_memK) (by exact List.Mem.head _) (by with_reducible assumption) (by with_reducible assumption) (by (simp only [Around.deeper, Around.in1]; decide)) ?_))))) | ((with_reducible show wpAny _ _ (subscriptTail (Expr.Name _ _) (Expr.Name _ _) (Value.ref _) (Value.int _ _)) _ _ _); (k_dflt ((rename News _ _ _ _ => N9q); (refine kda_item (knd := intKind PR _) N9q (by k_memK) (by with_reducible assumption) (by exact intKind_is _ _ _ _) (by with_reducible assumption) ?_)))) | (((with_reducible show wpAny _ _ (eval (Expr.Name _ _) (compEnvC _ _ _ _)) _ _ _); k_dflt (first | (refine blk_C (by assumption) (by rfl) (by k_mem) (by assumption) ?_ (by rfl) (by rfl) (by decide)) | (refine blk_L (by assumption) (by rfl) (by assumption) ?_ (by rfl) (by rfl) (by decide))))) | ((with_reducible show wpAny _ _ (compareOp CmpOp.NotEq (Value.bool _) (Value.bool _)) _ _ _); (k_dflt (with_reducible refine ne_bsame ?_))) | ((k_dflt ((with_reducible show wpAny _ _ (call (Value.builtin "len") [Value.ref _]) _ _ _); (rename News _ _ _ _ => N9q); (refine len_news N9q (by k_memK) (by with_reducible assumption) (by first | with_reducible assumption | omega) ?_)))) | ((k_dflt ((with_reducible show wpAny _ _ (call (Value.ref 82) _) _ _ _); (rename Fr _ _ _ _ => F9q); (rename News _ _ _ _ => N9q); (refine c_neigh (by (exact ⟨Frag.In.keeps (by assumption) (Fr.keep (by assumption)), ⟨_, _, _, _, _, Top.keeps (by assumption) (Fr.keep (by assumption))⟩, rfl, by (simp only [Around.deeper, Around.in1]; decide), by (simp only [Around.deeper, Around.in1]; decide)⟩)) (isList_news N9q (by k_memK)) (by with_reducible assumption) (by omega) ?_; intro _ _ k9q; (have F8q := Fr.keepsK F9q k9q); (have N8q := News.keepsK N9q k9q); clear F9q N9q k9q)))) | ((k_dflt ((with_reducible show wpAny _ _ (call (Value.ref 28) _) _ _ _); (rename Fr _ _ _ _ => F9q); (rename News _ _ _ _ => N9q); (refine c_lev (by (exact ⟨Frag.In.keeps (by assumption) (Fr.keep (by assumption)), ⟨_, _, _, _, _, Top.keeps (by assumption) (Fr.keep (by assumption))⟩, rfl, by (simp only [Around.deeper, Around.in1]; decide), by (simp only [Around.deeper, Around.in1]; decide)⟩)) (by with_reducible assumption) (by with_reducible assumption) (by first | with_reducible assumption | omega) (by first | with_reducible assumption | omega) ?_; intro _ _ _ k9q; (have F8q := Fr.keepsK F9q k9q); (have N8q := News.keepsK N9q k9q); clear F9q N9q k9q)))) | ((k_dflt ((with_reducible show wpAny _ _ (call (Value.ref 94) _) _ _ _); (rename Fr _ _ _ _ => F9q); (rename News _ _ _ _ => N9q); (refine c_text (by (exact ⟨Frag.In.keeps (by assumption) (Fr.keep (by assumption)), ⟨_, _, _, _, _, Top.keeps (by assumption) (Fr.keep (by assumption))⟩, rfl, by (simp only [Around.deeper, Around.in1]; decide), by (simp only [Around.deeper, Around.in1]; decide)⟩)) (isList_news N9q (by k_memK)) (by with_reducible assumption) (by exact rfl) (by first | with_reducible assumption | omega) (by with_reducible assumption) (by with_reducible assumption) ?_; intro _ _ _ k9q; (have F8q := Fr.keepsK F9q k9q); (have N8q := News.keepsK N9q k9q); clear F9q N9q k9q)))) | ((with_reducible show wpAny _ _ (compareOp CmpOp.NotEq (Value.bytes _ _) (Value.bytes _ _)) _ _ _); (k_dflt (refine ne_same ?_))) | ((k_dflt ((with_reducible show wpAny _ _ (call (Value.ref 49) _) _ _ _); (refine c_ap (by (exact ⟨Frag.In.keeps (by assumption) (Fr.keep (by assumption)), ⟨_, _, _, _, _, Top.keeps (by assumption) (Fr.keep (by assumption))⟩, rfl, by (simp only [Around.deeper, Around.in1]; decide), by (simp only [Around.deeper, Around.in1]; decide)⟩)) (by with_reducible assumption) (by with_reducible assumption) (by with_reducible assumption) (by with_reducible assumption) ?_; intro _ _ _ k9q; (rename Fr _ _ _ _ => F9q); (rename News _ _ _ _ => N9q); (have F8q := Fr.keepsK F9q k9q); (have N8q := News.keepsK N9q k9q); clear F9q N9q k9q)))) | ((k_dflt ((with_reducible show wpAny _ _ (call (Value.ref 89) _) _ _ _); (rename Fr _ _ _ _ => F9q); (rename News _ _ _ _ => N9q); (refine c_number (by (exact ⟨Frag.In.keeps (by assumption) (Fr.keep (by assumption)), ⟨_, _, _, _, _, Top.keeps (by assumption) (Fr.keep (by assumption))⟩, rfl, by (simp only [Around.deeper, Around.in1]; decide), by (simp only [Around.deeper, Around.in1]; decide)⟩)) (isList_news N9q (by k_memK)) (by with_reducible assumption) ?_; intro _ _ _ k9q; (have F8q := Fr.keepsK F9q k9q); (have N8q := News.keepsK N9q k9q); clear F9q N9q k9q)))) | ((with_reducible show wpAny _ _ (subscriptTail (Expr.Name _ _) (Expr.Constant _ _ _) (Value.ref _) (Value.int _ _)) _ _ _); (k_dflt ((rename News _ _ _ _ => N9q); (refine at_listE (isList_news N9q (by k_memK)) (by with_reducible assumption) (by with_reducible assumption) (by rfl) (by omega) (by omega) ?_); intro _))) | ((k_dflt ((with_reducible show wpAny _ _ (call (Value.type _) [Value.ref _]) _ _ _); (refine list_range _ (by rfl) (by assumption) (by assumption) (by assumption) (by exact small_mine (by omega) (by omega) (by omega)) (by assumption) (by omega) ?_; intro _ _ _ _ _ _ l1q _ _; (try k_lt l1q))))) | ((k_dflt ((with_reducible show wpAny _ _ (call (Value.type _) [Value.int _ _, Value.int _ _, Value.int _ _]) _ _ _); (refine rng3 (by assumption) (by assumption) (by first | decide | omega) (by omega) ?_); intro _ _ _ _ _ _ _ _ _))) | ((k_dflt ((with_reducible show wpAny _ _ (call (Value.type _) [Value.int _ _, Value.int _ _]) _ _ _); (refine rng2 (by assumption) (by assumption) ?_); intro _ _ _ _ _ _ _ _ _))) | ((k_dflt ((with_reducible show wpAny _ _ (call (Value.builtin "len") [Value.ref _]) _ _ _); (rename News _ _ _ _ => N9q); (refine kda_len (knd := intKind PR _) N9q (by k_memK) (by with_reducible assumption) (by with_reducible assumption) (by omega) ?_)))) | ((k_dflt ((with_reducible show wpAny _ _ (binaryOp _ (Value.int (_ + 1) _) (Value.int 4 _)) _ _ _); (refine div_q2 (by exact fmod4 _) ?_)))) | walk1 | (dsimp only; walk1) | (leave1; try dsimp only))))
      rename Fr _ _ _ _ => F7
      rename News _ _ _ _ => N7
      refine comp_rangeA (n - 1) _ _ rfl (by assumption) (small2 hn.2) hrs2 (n1k hn.2) F7 N7 ?_ ?_ ?_
      · clear F7 N7
        intro C z tz s2 m2 E' hz hn2 hm2 F7 N7
        obtain ⟨j, hj, rfl⟩ : ∃ j : Nat, (2 ≤ j ∧ j ≤ n) ∧ z = (j : Int) := by
          simp only [rangeL, List.mem_map, List.mem_range] at hz
          obtain ⟨a, ha, rfl⟩ := hz
          exact ⟨a + 2, jin ha, by omega⟩
        obtain ⟨lr, vr, kr, hrm, hir, hval⟩ := row_of (hrl ()) hrows hj.1 hj.2
        have N8 := dupl N7 (p := (lr, listOf vr.toArray kr)) (.tail _ (.tail _ (.tail _ (.tail _ (.tail _ (.tail _ (hrest _ hrm)))))))
        clear N7
        (repeat' (first | (k_unfold; (try dsimp only)) | ((fail_if_success (with_reducible show wpAny _ _ (subscriptTail _ _ (Value.ref _) (Value.ref _)) _ _ _)); (fail_if_success (with_reducible show wpAny _ _ (PySem.call (PySem.Value.ref _) _) _ _ _)); first | ((with_reducible show wpAny _ _ (compareOp CmpOp.Eq (Value.ref _) (Value.ref _)) _ _ _); (k_dflt ((rename News _ _ _ _ => N9q); (first | (refine eq_nilT N9q (by k_memK) (by exact List.Mem.head _) (by with_reducible assumption) (by with_reducible assumption) (by (simp only [Around.deeper, Around.in1]; decide)) ?_) | (refine eq_nilF N9q (by k_memK) (by exact List.Mem.head _) (by with_reducible assumption) (by with_reducible assumption) (by (simp only [Around.deeper, Around.in1]; decide)) ?_))))) | ((with_reducible show wpAny _ _ (subscriptTail (Expr.Name _ _) (Expr.Name _ _) (Value.ref _) (Value.int _ _)) _ _ _); (k_dflt ((rename News _ _ _ _ => N9q); (refine kda_item (knd := intKind PR _) N9q (by k_memK) (by with_reducible assumption) (by exact intKind_is _ _ _ _) (by with_reducible assumption) ?_)))) | (((with_reducible show wpAny _ _ (eval (Expr.Name _ _) (compEnvC _ _ _ _)) _ _ _); k_dflt (first | (refine blk_C (by assumption) (by rfl) (by k_mem) (by assumption) ?_ (by rfl) (by rfl) (by decide)) | (refine blk_L (by assumption) (by rfl) (by assumption) ?_ (by rfl) (by rfl) (by decide))))) | ((with_reducible show wpAny _ _ (compareOp CmpOp.NotEq (Value.bool _) (Value.bool _)) _ _ _); (k_dflt (with_reducible refine ne_bsame ?_))) | ((k_dflt ((with_reducible show wpAny _ _ (call (Value.builtin "len") [Value.ref _]) _ _ _); (rename News _ _ _ _ => N9q); (refine len_news N9q (by k_memK) (by with_reducible assumption) (by first | with_reducible assumption | omega) ?_)))) | ((k_dflt ((with_reducible show wpAny _ _ (call (Value.ref 82) _) _ _ _); (rename Fr _ _ _ _ => F9q); (rename News _ _ _ _ => N9q); (refine c_neigh (by (exact ⟨Frag.In.keeps (by assumption) (Fr.keep (by assumption)), ⟨_, _, _, _, _, Top.keeps (by assumption) (Fr.keep (by assumption))⟩, rfl, by (simp only [Around.deeper, Around.in1]; decide), by (simp only [Around.deeper, Around.in1]; decide)⟩)) (isList_news N9q (by k_memK)) (by with_reducible assumption) (by omega) ?_; intro _ _ k9q; (have F8q := Fr.keepsK F9q k9q); (have N8q := News.keepsK N9q k9q); clear F9q N9q k9q)))) | ((k_dflt ((with_reducible show wpAny _ _ (call (Value.ref 28) _) _ _ _); (rename Fr _ _ _ _ => F9q); (rename News _ _ _ _ => N9q); (refine c_lev (by (exact ⟨Frag.In.keeps (by assumption) (Fr.keep (by assumption)), ⟨_, _, _, _, _, Top.keeps (by assumption) (Fr.keep (by assumption))⟩, rfl, by (simp only [Around.deeper, Around.in1]; decide), by (simp only [Around.deeper, Around.in1]; decide)⟩)) (by with_reducible assumption) (by with_reducible assumption) (by first | with_reducible assumption | omega) (by first | with_reducible assumption | omega) ?_; intro _ _ _ k9q; (have F8q := Fr.keepsK F9q k9q); (have N8q := News.keepsK N9q k9q); clear F9q N9q k9q)))) | ((k_dflt ((with_reducible show wpAny _ _ (call (Value.ref 94) _) _ _ _); (rename Fr _ _ _ _ => F9q); (rename News _ _ _ _ => N9q); (refine c_text (by (exact ⟨Frag.In.keeps (by assumption) (Fr.keep (by assumption)), ⟨_, _, _, _, _, Top.keeps (by assumption) (Fr.keep (by assumption))⟩, rfl, by (simp only [Around.deeper, Around.in1]; decide), by (simp only [Around.deeper, Around.in1]; decide)⟩)) (isList_news N9q (by k_memK)) (by with_reducible assumption) (by exact rfl) (by first | with_reducible assumption | omega) (by with_reducible assumption) (by with_reducible assumption) ?_; intro _ _ _ k9q; (have F8q := Fr.keepsK F9q k9q); (have N8q := News.keepsK N9q k9q); clear F9q N9q k9q)))) | ((with_reducible show wpAny _ _ (compareOp CmpOp.NotEq (Value.bytes _ _) (Value.bytes _ _)) _ _ _); (k_dflt (refine ne_same ?_))) | ((k_dflt ((with_reducible show wpAny _ _ (call (Value.ref 49) _) _ _ _); (refine c_ap (by (exact ⟨Frag.In.keeps (by assumption) (Fr.keep (by assumption)), ⟨_, _, _, _, _, Top.keeps (by assumption) (Fr.keep (by assumption))⟩, rfl, by (simp only [Around.deeper, Around.in1]; decide), by (simp only [Around.deeper, Around.in1]; decide)⟩)) (by with_reducible assumption) (by with_reducible assumption) (by with_reducible assumption) (by with_reducible assumption) ?_; intro _ _ _ k9q; (rename Fr _ _ _ _ => F9q); (rename News _ _ _ _ => N9q); (have F8q := Fr.keepsK F9q k9q); (have N8q := News.keepsK N9q k9q); clear F9q N9q k9q)))) | ((k_dflt ((with_reducible show wpAny _ _ (call (Value.ref 89) _) _ _ _); (rename Fr _ _ _ _ => F9q); (rename News _ _ _ _ => N9q); (refine c_number (by (exact ⟨Frag.In.keeps (by assumption) (Fr.keep (by assumption)), ⟨_, _, _, _, _, Top.keeps (by assumption) (Fr.keep (by assumption))⟩, rfl, by (simp only [Around.deeper, Around.in1]; decide), by (simp only [Around.deeper, Around.in1]; decide)⟩)) (isList_news N9q (by k_memK)) (by with_reducible assumption) ?_; intro _ _ _ k9q; (have F8q := Fr.keepsK F9q k9q); (have N8q := News.keepsK N9q k9q); clear F9q N9q k9q)))) | ((with_reducible show wpAny _ _ (subscriptTail (Expr.Name _ _) (Expr.Constant _ _ _) (Value.ref _) (Value.int _ _)) _ _ _); (k_dflt ((rename News _ _ _ _ => N9q); (refine at_listE (isList_news N9q (by k_memK)) (by with_reducible assumption) (by with_reducible assumption) (by rfl) (by omega) (by omega) ?_); intro _))) | ((k_dflt ((with_reducible show wpAny _ _ (call (Value.type _) [Value.ref _]) _ _ _); (refine list_range _ (by rfl) (by assumption) (by assumption) (by assumption) (by exact small_mine (by omega) (by omega) (by omega)) (by assumption) (by omega) ?_; intro _ _ _ _ _ _ l1q _ _; (try k_lt l1q))))) | ((k_dflt ((with_reducible show wpAny _ _ (call (Value.type _) [Value.int _ _, Value.int _ _, Value.int _ _]) _ _ _); (refine rng3 (by assumption) (by assumption) (by first | decide | omega) (by omega) ?_); intro _ _ _ _ _ _ _ _ _))) | ((k_dflt ((with_reducible show wpAny _ _ (call (Value.type _) [Value.int _ _, Value.int _ _]) _ _ _); (refine rng2 (by assumption) (by assumption) ?_); intro _ _ _ _ _ _ _ _ _))) | ((k_dflt ((with_reducible show wpAny _ _ (call (Value.builtin "len") [Value.ref _]) _ _ _); (rename News _ _ _ _ => N9q); (refine kda_len (knd := intKind PR _) N9q (by k_memK) (by with_reducible assumption) (by with_reducible assumption) (by omega) ?_)))) | ((k_dflt ((with_reducible show wpAny _ _ (binaryOp _ (Value.int (_ + 1) _) (Value.int 4 _)) _ _ _); (refine div_q2 (by exact fmod4 _) ?_)))) | walk1 | (dsimp only; walk1) | (leave1; try dsimp only))))
        refine cutL (s := ⟨_, _, _, _, _⟩) F7 N8 (isList_news N8 (by k_memK)) hiD (by constructor) (by constructor) (pick_to hiD (Nat.le_trans hj.2 (Nat.le_of_eq hcl.symm))) (c1000 hcl hn.2) ?_
        intro Dc hc ws kk1 hiw Fc Nc hltc
        have hnc : hc.Ns C m2 := hn2.at' fun o e => kk1 _ o e
        clear F7 N8
        (repeat' (first | (k_unfold; (try dsimp only)) | ((fail_if_success (with_reducible show wpAny _ _ (subscriptTail _ _ (Value.ref _) (Value.ref _)) _ _ _)); (fail_if_success (with_reducible show wpAny _ _ (PySem.call (PySem.Value.ref _) _) _ _ _)); first | ((with_reducible show wpAny _ _ (compareOp CmpOp.Eq (Value.ref _) (Value.ref _)) _ _ _); (k_dflt ((rename News _ _ _ _ => N9q); (first | (refine eq_nilT N9q (by k_memK) (by exact List.Mem.head _) (by with_reducible assumption) (by with_reducible assumption) (by (simp only [Around.deeper, Around.in1]; decide)) ?_) | (refine eq_nilF N9q (by k_memK) (by exact List.Mem.head _) (by with_reducible assumption) (by with_reducible assumption) (by (simp only [Around.deeper, Around.in1]; decide)) ?_))))) | ((with_reducible show wpAny _ _ (subscriptTail (Expr.Name _ _) (Expr.Name _ _) (Value.ref _) (Value.int _ _)) _ _ _); (k_dflt ((rename News _ _ _ _ => N9q); (refine kda_item (knd := intKind PR _) N9q (by k_memK) (by with_reducible assumption) (by exact intKind_is _ _ _ _) (by with_reducible assumption) ?_)))) | (((with_reducible show wpAny _ _ (eval (Expr.Name _ _) (compEnvC _ _ _ _)) _ _ _); k_dflt (first | (refine blk_C (by assumption) (by rfl) (by k_mem) (by assumption) ?_ (by rfl) (by rfl) (by decide)) | (refine blk_L (by assumption) (by rfl) (by assumption) ?_ (by rfl) (by rfl) (by decide))))) | ((with_reducible show wpAny _ _ (compareOp CmpOp.NotEq (Value.bool _) (Value.bool _)) _ _ _); (k_dflt (with_reducible refine ne_bsame ?_))) | ((k_dflt ((with_reducible show wpAny _ _ (call (Value.builtin "len") [Value.ref _]) _ _ _); (rename News _ _ _ _ => N9q); (refine len_news N9q (by k_memK) (by with_reducible assumption) (by first | with_reducible assumption | omega) ?_)))) | ((k_dflt ((with_reducible show wpAny _ _ (call (Value.ref 82) _) _ _ _); (rename Fr _ _ _ _ => F9q); (rename News _ _ _ _ => N9q); (refine c_neigh (by (exact ⟨Frag.In.keeps (by assumption) (Fr.keep (by assumption)), ⟨_, _, _, _, _, Top.keeps (by assumption) (Fr.keep (by assumption))⟩, rfl, by (simp only [Around.deeper, Around.in1]; decide), by (simp only [Around.deeper, Around.in1]; decide)⟩)) (isList_news N9q (by k_memK)) (by with_reducible assumption) (by omega) ?_; intro _ _ k9q; (have F8q := Fr.keepsK F9q k9q); (have N8q := News.keepsK N9q k9q); clear F9q N9q k9q)))) | ((k_dflt ((with_reducible show wpAny _ _ (call (Value.ref 28) _) _ _ _); (rename Fr _ _ _ _ => F9q); (rename News _ _ _ _ => N9q); (refine c_lev (by (exact ⟨Frag.In.keeps (by assumption) (Fr.keep (by assumption)), ⟨_, _, _, _, _, Top.keeps (by assumption) (Fr.keep (by assumption))⟩, rfl, by (simp only [Around.deeper, Around.in1]; decide), by (simp only [Around.deeper, Around.in1]; decide)⟩)) (by with_reducible assumption) (by with_reducible assumption) (by first | with_reducible assumption | omega) (by first | with_reducible assumption | omega) ?_; intro _ _ _ k9q; (have F8q := Fr.keepsK F9q k9q); (have N8q := News.keepsK N9q k9q); clear F9q N9q k9q)))) | ((k_dflt ((with_reducible show wpAny _ _ (call (Value.ref 94) _) _ _ _); (rename Fr _ _ _ _ => F9q); (rename News _ _ _ _ => N9q); (refine c_text (by (exact ⟨Frag.In.keeps (by assumption) (Fr.keep (by assumption)), ⟨_, _, _, _, _, Top.keeps (by assumption) (Fr.keep (by assumption))⟩, rfl, by (simp only [Around.deeper, Around.in1]; decide), by (simp only [Around.deeper, Around.in1]; decide)⟩)) (isList_news N9q (by k_memK)) (by with_reducible assumption) (by exact rfl) (by first | with_reducible assumption | omega) (by with_reducible assumption) (by with_reducible assumption) ?_; intro _ _ _ k9q; (have F8q := Fr.keepsK F9q k9q); (have N8q := News.keepsK N9q k9q); clear F9q N9q k9q)))) | ((with_reducible show wpAny _ _ (compareOp CmpOp.NotEq (Value.bytes _ _) (Value.bytes _ _)) _ _ _); (k_dflt (refine ne_same ?_))) | ((k_dflt ((with_reducible show wpAny _ _ (call (Value.ref 49) _) _ _ _); (refine c_ap (by (exact ⟨Frag.In.keeps (by assumption) (Fr.keep (by assumption)), ⟨_, _, _, _, _, Top.keeps (by assumption) (Fr.keep (by assumption))⟩, rfl, by (simp only [Around.deeper, Around.in1]; decide), by (simp only [Around.deeper, Around.in1]; decide)⟩)) (by with_reducible assumption) (by with_reducible assumption) (by with_reducible assumption) (by with_reducible assumption) ?_; intro _ _ _ k9q; (rename Fr _ _ _ _ => F9q); (rename News _ _ _ _ => N9q); (have F8q := Fr.keepsK F9q k9q); (have N8q := News.keepsK N9q k9q); clear F9q N9q k9q)))) | ((k_dflt ((with_reducible show wpAny _ _ (call (Value.ref 89) _) _ _ _); (rename Fr _ _ _ _ => F9q); (rename News _ _ _ _ => N9q); (refine c_number (by (exact ⟨Frag.In.keeps (by assumption) (Fr.keep (by assumption)), ⟨_, _, _, _, _, Top.keeps (by assumption) (Fr.keep (by assumption))⟩, rfl, by (simp only [Around.deeper, Around.in1]; decide), by (simp only [Around.deeper, Around.in1]; decide)⟩)) (isList_news N9q (by k_memK)) (by with_reducible assumption) ?_; intro _ _ _ k9q; (have F8q := Fr.keepsK F9q k9q); (have N8q := News.keepsK N9q k9q); clear F9q N9q k9q)))) | ((with_reducible show wpAny _ _ (subscriptTail (Expr.Name _ _) (Expr.Constant _ _ _) (Value.ref _) (Value.int _ _)) _ _ _); (k_dflt ((rename News _ _ _ _ => N9q); (refine at_listE (isList_news N9q (by k_memK)) (by with_reducible assumption) (by with_reducible assumption) (by rfl) (by omega) (by omega) ?_); intro _))) | ((k_dflt ((with_reducible show wpAny _ _ (call (Value.type _) [Value.ref _]) _ _ _); (refine list_range _ (by rfl) (by assumption) (by assumption) (by assumption) (by exact small_mine (by omega) (by omega) (by omega)) (by assumption) (by omega) ?_; intro _ _ _ _ _ _ l1q _ _; (try k_lt l1q))))) | ((k_dflt ((with_reducible show wpAny _ _ (call (Value.type _) [Value.int _ _, Value.int _ _, Value.int _ _]) _ _ _); (refine rng3 (by assumption) (by assumption) (by first | decide | omega) (by omega) ?_); intro _ _ _ _ _ _ _ _ _))) | ((k_dflt ((with_reducible show wpAny _ _ (call (Value.type _) [Value.int _ _, Value.int _ _]) _ _ _); (refine rng2 (by assumption) (by assumption) ?_); intro _ _ _ _ _ _ _ _ _))) | ((k_dflt ((with_reducible show wpAny _ _ (call (Value.builtin "len") [Value.ref _]) _ _ _); (rename News _ _ _ _ => N9q); (refine kda_len (knd := intKind PR _) N9q (by k_memK) (by with_reducible assumption) (by with_reducible assumption) (by omega) ?_)))) | ((k_dflt ((with_reducible show wpAny _ _ (binaryOp _ (Value.int (_ + 1) _) (Value.int 4 _)) _ _ _); (refine div_q2 (by exact fmod4 _) ?_)))) | walk1 | (dsimp only; walk1) | (leave1; try dsimp only))))
        rename News _ _ _ _ => Nc
        refine c_once ?Cg (isList_news Nc (.head _)) hiw (take8 (Nat.le_trans hj.2 hn.2)) (isList_news Nc (k := kr) (by k_memK)) hir (by rw [rowL_length]; exact Nat.le_trans hn.2 (by decide)) (fun z hz => by have := hcast z (List.mem_of_mem_take hz); rw [rowL_length]; exact this) (Nat.le_trans (Nat.le_trans hj.2 hn.2) (by decide)) ?_
        case Cg => (exact ⟨Frag.In.keeps (by assumption) (Fr.keep (by assumption)), ⟨_, _, _, _, _, Top.keeps (by assumption) (Fr.keep (by assumption))⟩, rfl, by (simp only [Around.deeper, Around.in1]; decide), by (simp only [Around.deeper, Around.in1]; decide)⟩)
        intro hg tkg kk2
        (repeat' (first | (k_unfold; (try dsimp only)) | ((fail_if_success (with_reducible show wpAny _ _ (subscriptTail _ _ (Value.ref _) (Value.ref _)) _ _ _)); (fail_if_success (with_reducible show wpAny _ _ (PySem.call (PySem.Value.ref _) _) _ _ _)); first | ((with_reducible show wpAny _ _ (compareOp CmpOp.Eq (Value.ref _) (Value.ref _)) _ _ _); (k_dflt ((rename News _ _ _ _ => N9q); (first | (refine eq_nilT N9q (by k_memK) (by exact List.Mem.head _) (by with_reducible assumption) (by with_reducible assumption) (by (simp only [Around.deeper, Around.in1]; decide)) ?_) | (refine eq_nilF N9q (by k_memK) (by exact List.Mem.head _) (by with_reducible assumption) (by with_reducible assumption) (by (simp only [Around.deeper, Around.in1]; decide)) ?_))))) | ((with_reducible show wpAny _ _ (subscriptTail (Expr.Name _ _) (Expr.Name _ _) (Value.ref _) (Value.int _ _)) _ _ _); (k_dflt ((rename News _ _ _ _ => N9q); (refine kda_item (knd := intKind PR _) N9q (by k_memK) (by with_reducible assumption) (by exact intKind_is _ _ _ _) (by with_reducible assumption) ?_)))) | (((with_reducible show wpAny _ _ (eval (Expr.Name _ _) (compEnvC _ _ _ _)) _ _ _); k_dflt (first | (refine blk_C (by assumption) (by rfl) (by k_mem) (by assumption) ?_ (by rfl) (by rfl) (by decide)) | (refine blk_L (by assumption) (by rfl) (by assumption) ?_ (by rfl) (by rfl) (by decide))))) | ((with_reducible show wpAny _ _ (compareOp CmpOp.NotEq (Value.bool _) (Value.bool _)) _ _ _); (k_dflt (with_reducible refine ne_bsame ?_))) | ((k_dflt ((with_reducible show wpAny _ _ (call (Value.builtin "len") [Value.ref _]) _ _ _); (rename News _ _ _ _ => N9q); (refine len_news N9q (by k_memK) (by with_reducible assumption) (by first | with_reducible assumption | omega) ?_)))) | ((k_dflt ((with_reducible show wpAny _ _ (call (Value.ref 82) _) _ _ _); (rename Fr _ _ _ _ => F9q); (rename News _ _ _ _ => N9q); (refine c_neigh (by (exact ⟨Frag.In.keeps (by assumption) (Fr.keep (by assumption)), ⟨_, _, _, _, _, Top.keeps (by assumption) (Fr.keep (by assumption))⟩, rfl, by (simp only [Around.deeper, Around.in1]; decide), by (simp only [Around.deeper, Around.in1]; decide)⟩)) (isList_news N9q (by k_memK)) (by with_reducible assumption) (by omega) ?_; intro _ _ k9q; (have F8q := Fr.keepsK F9q k9q); (have N8q := News.keepsK N9q k9q); clear F9q N9q k9q)))) | ((k_dflt ((with_reducible show wpAny _ _ (call (Value.ref 28) _) _ _ _); (rename Fr _ _ _ _ => F9q); (rename News _ _ _ _ => N9q); (refine c_lev (by (exact ⟨Frag.In.keeps (by assumption) (Fr.keep (by assumption)), ⟨_, _, _, _, _, Top.keeps (by assumption) (Fr.keep (by assumption))⟩, rfl, by (simp only [Around.deeper, Around.in1]; decide), by (simp only [Around.deeper, Around.in1]; decide)⟩)) (by with_reducible assumption) (by with_reducible assumption) (by first | with_reducible assumption | omega) (by first | with_reducible assumption | omega) ?_; intro _ _ _ k9q; (have F8q := Fr.keepsK F9q k9q); (have N8q := News.keepsK N9q k9q); clear F9q N9q k9q)))) | ((k_dflt ((with_reducible show wpAny _ _ (call (Value.ref 94) _) _ _ _); (rename Fr _ _ _ _ => F9q); (rename News _ _ _ _ => N9q); (refine c_text (by (exact ⟨Frag.In.keeps (by assumption) (Fr.keep (by assumption)), ⟨_, _, _, _, _, Top.keeps (by assumption) (Fr.keep (by assumption))⟩, rfl, by (simp only [Around.deeper, Around.in1]; decide), by (simp only [Around.deeper, Around.in1]; decide)⟩)) (isList_news N9q (by k_memK)) (by with_reducible assumption) (by exact rfl) (by first | with_reducible assumption | omega) (by with_reducible assumption) (by with_reducible assumption) ?_; intro _ _ _ k9q; (have F8q := Fr.keepsK F9q k9q); (have N8q := News.keepsK N9q k9q); clear F9q N9q k9q)))) | ((with_reducible show wpAny _ _ (compareOp CmpOp.NotEq (Value.bytes _ _) (Value.bytes _ _)) _ _ _); (k_dflt (refine ne_same ?_))) | ((k_dflt ((with_reducible show wpAny _ _ (call (Value.ref 49) _) _ _ _); (refine c_ap (by (exact ⟨Frag.In.keeps (by assumption) (Fr.keep (by assumption)), ⟨_, _, _, _, _, Top.keeps (by assumption) (Fr.keep (by assumption))⟩, rfl, by (simp only [Around.deeper, Around.in1]; decide), by (simp only [Around.deeper, Around.in1]; decide)⟩)) (by with_reducible assumption) (by with_reducible assumption) (by with_reducible assumption) (by with_reducible assumption) ?_; intro _ _ _ k9q; (rename Fr _ _ _ _ => F9q); (rename News _ _ _ _ => N9q); (have F8q := Fr.keepsK F9q k9q); (have N8q := News.keepsK N9q k9q); clear F9q N9q k9q)))) | ((k_dflt ((with_reducible show wpAny _ _ (call (Value.ref 89) _) _ _ _); (rename Fr _ _ _ _ => F9q); (rename News _ _ _ _ => N9q); (refine c_number (by (exact ⟨Frag.In.keeps (by assumption) (Fr.keep (by assumption)), ⟨_, _, _, _, _, Top.keeps (by assumption) (Fr.keep (by assumption))⟩, rfl, by (simp only [Around.deeper, Around.in1]; decide), by (simp only [Around.deeper, Around.in1]; decide)⟩)) (isList_news N9q (by k_memK)) (by with_reducible assumption) ?_; intro _ _ _ k9q; (have F8q := Fr.keepsK F9q k9q); (have N8q := News.keepsK N9q k9q); clear F9q N9q k9q)))) | ((with_reducible show wpAny _ _ (subscriptTail (Expr.Name _ _) (Expr.Constant _ _ _) (Value.ref _) (Value.int _ _)) _ _ _); (k_dflt ((rename News _ _ _ _ => N9q); (refine at_listE (isList_news N9q (by k_memK)) (by with_reducible assumption) (by with_reducible assumption) (by rfl) (by omega) (by omega) ?_); intro _))) | ((k_dflt ((with_reducible show wpAny _ _ (call (Value.type _) [Value.ref _]) _ _ _); (refine list_range _ (by rfl) (by assumption) (by assumption) (by assumption) (by exact small_mine (by omega) (by omega) (by omega)) (by assumption) (by omega) ?_; intro _ _ _ _ _ _ l1q _ _; (try k_lt l1q))))) | ((k_dflt ((with_reducible show wpAny _ _ (call (Value.type _) [Value.int _ _, Value.int _ _, Value.int _ _]) _ _ _); (refine rng3 (by assumption) (by assumption) (by first | decide | omega) (by omega) ?_); intro _ _ _ _ _ _ _ _ _))) | ((k_dflt ((with_reducible show wpAny _ _ (call (Value.type _) [Value.int _ _, Value.int _ _]) _ _ _); (refine rng2 (by assumption) (by assumption) ?_); intro _ _ _ _ _ _ _ _ _))) | ((k_dflt ((with_reducible show wpAny _ _ (call (Value.builtin "len") [Value.ref _]) _ _ _); (rename News _ _ _ _ => N9q); (refine kda_len (knd := intKind PR _) N9q (by k_memK) (by with_reducible assumption) (by with_reducible assumption) (by omega) ?_)))) | ((k_dflt ((with_reducible show wpAny _ _ (binaryOp _ (Value.int (_ + 1) _) (Value.int 4 _)) _ _ _); (refine div_q2 (by exact fmod4 _) ?_)))) | walk1 | (dsimp only; walk1) | (leave1; try dsimp only))))
        exact ⟨hg, _, rfl, fun b o e => kk2 b o (kk1 b o e)⟩
      · clear F7 N7
        intro C z tz s2 m2 E' hz _ hn2 hm2 F7 N7
        (repeat' (first | (k_unfold; (try dsimp only)) | ((fail_if_success (with_reducible show wpAny _ _ (subscriptTail _ _ (Value.ref _) (Value.ref _)) _ _ _)); (fail_if_success (with_reducible show wpAny _ _ (PySem.call (PySem.Value.ref _) _) _ _ _)); first | ((with_reducible show wpAny _ _ (compareOp CmpOp.Eq (Value.ref _) (Value.ref _)) _ _ _); (k_dflt ((rename News _ _ _ _ => N9q); (first | (refine eq_nilT N9q (by k_memK) (by exact List.Mem.head _) (by with_reducible assumption) (by with_reducible assumption) (by (simp only [Around.deeper, Around.in1]; decide)) ?_) | (refine eq_nilF N9q (by k_memK) (by exact List.Mem.head _) (by with_reducible assumption) (by with_reducible assumption) (by (simp only [Around.deeper, Around.in1]; decide)) ?_))))) | ((with_reducible show wpAny _ _ (subscriptTail (Expr.Name _ _) (Expr.Name _ _) (Value.ref _) (Value.int _ _)) _ _ _); (k_dflt ((rename News _ _ _ _ => N9q); (refine kda_item (knd := intKind PR _) N9q (by k_memK) (by with_reducible assumption) (by exact intKind_is _ _ _ _) (by with_reducible assumption) ?_)))) | (((with_reducible show wpAny _ _ (eval (Expr.Name _ _) (compEnvC _ _ _ _)) _ _ _); k_dflt (first | (refine blk_C (by assumption) (by rfl) (by k_mem) (by assumption) ?_ (by rfl) (by rfl) (by decide)) | (refine blk_L (by assumption) (by rfl) (by assumption) ?_ (by rfl) (by rfl) (by decide))))) | ((with_reducible show wpAny _ _ (compareOp CmpOp.NotEq (Value.bool _) (Value.bool _)) _ _ _); (k_dflt (with_reducible refine ne_bsame ?_))) | ((k_dflt ((with_reducible show wpAny _ _ (call (Value.builtin "len") [Value.ref _]) _ _ _); (rename News _ _ _ _ => N9q); (refine len_news N9q (by k_memK) (by with_reducible assumption) (by first | with_reducible assumption | omega) ?_)))) | ((k_dflt ((with_reducible show wpAny _ _ (call (Value.ref 82) _) _ _ _); (rename Fr _ _ _ _ => F9q); (rename News _ _ _ _ => N9q); (refine c_neigh (by (exact ⟨Frag.In.keeps (by assumption) (Fr.keep (by assumption)), ⟨_, _, _, _, _, Top.keeps (by assumption) (Fr.keep (by assumption))⟩, rfl, by (simp only [Around.deeper, Around.in1]; decide), by (simp only [Around.deeper, Around.in1]; decide)⟩)) (isList_news N9q (by k_memK)) (by with_reducible assumption) (by omega) ?_; intro _ _ k9q; (have F8q := Fr.keepsK F9q k9q); (have N8q := News.keepsK N9q k9q); clear F9q N9q k9q)))) | ((k_dflt ((with_reducible show wpAny _ _ (call (Value.ref 28) _) _ _ _); (rename Fr _ _ _ _ => F9q); (rename News _ _ _ _ => N9q); (refine c_lev (by (exact ⟨Frag.In.keeps (by assumption) (Fr.keep (by assumption)), ⟨_, _, _, _, _, Top.keeps (by assumption) (Fr.keep (by assumption))⟩, rfl, by (simp only [Around.deeper, Around.in1]; decide), by (simp only [Around.deeper, Around.in1]; decide)⟩)) (by with_reducible assumption) (by with_reducible assumption) (by first | with_reducible assumption | omega) (by first | with_reducible assumption | omega) ?_; intro _ _ _ k9q; (have F8q := Fr.keepsK F9q k9q); (have N8q := News.keepsK N9q k9q); clear F9q N9q k9q)))) | ((k_dflt ((with_reducible show wpAny _ _ (call (Value.ref 94) _) _ _ _); (rename Fr _ _ _ _ => F9q); (rename News _ _ _ _ => N9q); (refine c_text (by (exact ⟨Frag.In.keeps (by assumption) (Fr.keep (by assumption)), ⟨_, _, _, _, _, Top.keeps (by assumption) (Fr.keep (by assumption))⟩, rfl, by (simp only [Around.deeper, Around.in1]; decide), by (simp only [Around.deeper, Around.in1]; decide)⟩)) (isList_news N9q (by k_memK)) (by with_reducible assumption) (by exact rfl) (by first | with_reducible assumption | omega) (by with_reducible assumption) (by with_reducible assumption) ?_; intro _ _ _ k9q; (have F8q := Fr.keepsK F9q k9q); (have N8q := News.keepsK N9q k9q); clear F9q N9q k9q)))) | ((with_reducible show wpAny _ _ (compareOp CmpOp.NotEq (Value.bytes _ _) (Value.bytes _ _)) _ _ _); (k_dflt (refine ne_same ?_))) | ((k_dflt ((with_reducible show wpAny _ _ (call (Value.ref 49) _) _ _ _); (refine c_ap (by (exact ⟨Frag.In.keeps (by assumption) (Fr.keep (by assumption)), ⟨_, _, _, _, _, Top.keeps (by assumption) (Fr.keep (by assumption))⟩, rfl, by (simp only [Around.deeper, Around.in1]; decide), by (simp only [Around.deeper, Around.in1]; decide)⟩)) (by with_reducible assumption) (by with_reducible assumption) (by with_reducible assumption) (by with_reducible assumption) ?_; intro _ _ _ k9q; (rename Fr _ _ _ _ => F9q); (rename News _ _ _ _ => N9q); (have F8q := Fr.keepsK F9q k9q); (have N8q := News.keepsK N9q k9q); clear F9q N9q k9q)))) | ((k_dflt ((with_reducible show wpAny _ _ (call (Value.ref 89) _) _ _ _); (rename Fr _ _ _ _ => F9q); (rename News _ _ _ _ => N9q); (refine c_number (by (exact ⟨Frag.In.keeps (by assumption) (Fr.keep (by assumption)), ⟨_, _, _, _, _, Top.keeps (by assumption) (Fr.keep (by assumption))⟩, rfl, by (simp only [Around.deeper, Around.in1]; decide), by (simp only [Around.deeper, Around.in1]; decide)⟩)) (isList_news N9q (by k_memK)) (by with_reducible assumption) ?_; intro _ _ _ k9q; (have F8q := Fr.keepsK F9q k9q); (have N8q := News.keepsK N9q k9q); clear F9q N9q k9q)))) | ((with_reducible show wpAny _ _ (subscriptTail (Expr.Name _ _) (Expr.Constant _ _ _) (Value.ref _) (Value.int _ _)) _ _ _); (k_dflt ((rename News _ _ _ _ => N9q); (refine at_listE (isList_news N9q (by k_memK)) (by with_reducible assumption) (by with_reducible assumption) (by rfl) (by omega) (by omega) ?_); intro _))) | ((k_dflt ((with_reducible show wpAny _ _ (call (Value.type _) [Value.ref _]) _ _ _); (refine list_range _ (by rfl) (by assumption) (by assumption) (by assumption) (by exact small_mine (by omega) (by omega) (by omega)) (by assumption) (by omega) ?_; intro _ _ _ _ _ _ l1q _ _; (try k_lt l1q))))) | ((k_dflt ((with_reducible show wpAny _ _ (call (Value.type _) [Value.int _ _, Value.int _ _, Value.int _ _]) _ _ _); (refine rng3 (by assumption) (by assumption) (by first | decide | omega) (by omega) ?_); intro _ _ _ _ _ _ _ _ _))) | ((k_dflt ((with_reducible show wpAny _ _ (call (Value.type _) [Value.int _ _, Value.int _ _]) _ _ _); (refine rng2 (by assumption) (by assumption) ?_); intro _ _ _ _ _ _ _ _ _))) | ((k_dflt ((with_reducible show wpAny _ _ (call (Value.builtin "len") [Value.ref _]) _ _ _); (rename News _ _ _ _ => N9q); (refine kda_len (knd := intKind PR _) N9q (by k_memK) (by with_reducible assumption) (by with_reducible assumption) (by omega) ?_)))) | ((k_dflt ((with_reducible show wpAny _ _ (binaryOp _ (Value.int (_ + 1) _) (Value.int 4 _)) _ _ _); (refine div_q2 (by exact fmod4 _) ?_)))) | walk1 | (dsimp only; walk1) | (leave1; try dsimp only))))
        all_goals first | exact ⟨_, rfl⟩ | exact ⟨s2.heap, _, rfl, fun _ _ e => e⟩ | exact ⟨⟨_, rfl⟩, s2.heap, _, rfl, fun _ _ e => e⟩
      · intro D ys k h' tk hy F8 N8
        have hys := paired_map (g := fun n => n) hy
        rw [List.map_id'] at hys
        refine' ExitW.here ⟨D, ys, k⟩ F8 N8 ?ns6 ?hps6 hys
        case hps6 => ((repeat' (first | exact List.forall_mem_nil _ | (refine List.forall_mem_cons.mpr ⟨by with_unfolding_all rfl, ?_⟩))))
        case ns6 => exact fun p hp => hp

    case s6d =>
    clear F6 N6
    rintro ⟨ll, vl, kl⟩ u6 h6 tk6 hil F6 N6
    try dsimp only at hil F6 N6 ⊢
    obtain ⟨-, hlk, hmore⟩ := full_parts hfull
    have hend : ∀ p ∈ (I, io) :: ([(lst, listOf #[.ref l1, .ref l2] 0), (l1, listOf vs1.toArray k1), (l2, listOf vs2.toArray k2), (s1.heap.objs.size + 1, oh)] ++ (s1.heap.objs.size + 1 + 1, o4) :: (d, od) :: rowsLed rows), p ∈ (ld, listOf vd.toArray kd) :: (lu, listOf vu.toArray ku) :: (lD, listOf vsD.toArray kD) :: (s1.heap.objs.size + 1, oh) :: (s1.heap.objs.size + 1 + 1, o4) :: (d, od) :: rest := by
      have hb : ∀ p, p ∈ (lD, listOf vsD.toArray kD) :: rest → p ∈ (ld, listOf vd.toArray kd) :: (lu, listOf vu.toArray ku) :: (lD, listOf vsD.toArray kD) :: (s1.heap.objs.size + 1, oh) :: (s1.heap.objs.size + 1 + 1, o4) :: (d, od) :: rest := by
        intro p hp
        simp only [List.mem_cons] at hp ⊢
        rcases hp with hp | hp <;> simp only [hp, true_or, or_true]
      intro p hp
      simp only [List.cons_append, List.nil_append, List.mem_cons] at hp
      rcases hp with hp | hp | hp | hp | hp | hp | hp | hp
      · exact hb p (hback p (by simp only [hp, List.mem_cons, true_or, or_true]))
      · exact hb p (hback p (by simp only [hp, List.mem_cons, true_or, or_true]))
      · exact hb p (hback p (by simp only [hp, List.mem_cons, true_or, or_true]))
      · exact hb p (hback p (by simp only [hp, List.mem_cons, true_or, or_true]))
      · rw [hp]; k_memK
      · rw [hp]; k_memK
      · rw [hp]; k_memK
      · exact hb p (hback p (by simp only [hp, List.mem_cons, true_or, or_true]))
    have hendI : ∀ p ∈ (s1.heap.objs.size + 1 + 1, o4) :: (d, od) :: rowsLed rows, p.1 ≠ I := by
      intro p hp
      rcases List.mem_cons.mp hp with hp | hp
      · rw [hp]; exact fun e => hIc e.symm
      · exact hlI p (.tail _ hp)
    rw [← hlk] at hmore F6
    cases hlb : lackN n (castsI ds) with
    | false =>

      rw [hlb] at F6
      have hnil : (rangeL 2 1 (n - 1)).filter (fun j => !onceF (rowL n j.toNat) ((castsI ds).take j.toNat) j.toNat) ≠ [] := fun e => by rw [lack_nil.mp e] at hlb; cases hlb
      (repeat' (first | (k_unfold; (try dsimp only)) | ((with_reducible show wpAny _ _ (PySem.exec (PySem.Stmt.Return (some (PySem.Expr.Constant (PySem.Const.bool false) _ _)) _) _) _ _ _); exfalso; first | assumption | contradiction | omega) | ((fail_if_success (with_reducible show wpAny _ _ (PySem.exec (PySem.Stmt.For _ _ _ _ _) _) _ _ _)); first | ((with_reducible show wpAny _ _ (compareOp CmpOp.Eq (Value.ref _) (Value.ref _)) _ _ _); (k_dflt ((rename News _ _ _ _ => N9q); (first | (refine eq_nilT N9q (by k_memK) (by exact List.Mem.head _) (by with_reducible assumption) (by with_reducible assumption) (by (simp only [Around.deeper, Around.in1]; decide)) ?_) | (refine eq_nilF N9q (by k_memK) (by exact List.Mem.head _) (by with_reducible assumption) (by with_reducible assumption) (by (simp only [Around.deeper, Around.in1]; decide)) ?_))))) | ((with_reducible show wpAny _ _ (subscriptTail (Expr.Name _ _) (Expr.Name _ _) (Value.ref _) (Value.int _ _)) _ _ _); (k_dflt ((rename News _ _ _ _ => N9q); (refine kda_item (knd := intKind PR _) N9q (by k_memK) (by with_reducible assumption) (by exact intKind_is _ _ _ _) (by with_reducible assumption) ?_)))) | (((with_reducible show wpAny _ _ (eval (Expr.Name _ _) (compEnvC _ _ _ _)) _ _ _); k_dflt (first | (refine blk_C (by assumption) (by rfl) (by k_mem) (by assumption) ?_ (by rfl) (by rfl) (by decide)) | (refine blk_L (by assumption) (by rfl) (by assumption) ?_ (by rfl) (by rfl) (by decide))))) | ((with_reducible show wpAny _ _ (compareOp CmpOp.NotEq (Value.bool _) (Value.bool _)) _ _ _); (k_dflt (with_reducible refine ne_bsame ?_))) | ((k_dflt ((with_reducible show wpAny _ _ (call (Value.builtin "len") [Value.ref _]) _ _ _); (rename News _ _ _ _ => N9q); (refine len_news N9q (by k_memK) (by with_reducible assumption) (by first | with_reducible assumption | omega) ?_)))) | ((k_dflt ((with_reducible show wpAny _ _ (call (Value.ref 82) _) _ _ _); (rename Fr _ _ _ _ => F9q); (rename News _ _ _ _ => N9q); (refine c_neigh (by (exact ⟨Frag.In.keeps (by assumption) (Fr.keep (by assumption)), ⟨_, _, _, _, _, Top.keeps (by assumption) (Fr.keep (by assumption))⟩, rfl, by (simp only [Around.deeper, Around.in1]; decide), by (simp only [Around.deeper, Around.in1]; decide)⟩)) (isList_news N9q (by k_memK)) (by with_reducible assumption) (by omega) ?_; intro _ _ k9q; (have F8q := Fr.keepsK F9q k9q); (have N8q := News.keepsK N9q k9q); clear F9q N9q k9q)))) | ((k_dflt ((with_reducible show wpAny _ _ (call (Value.ref 28) _) _ _ _); (rename Fr _ _ _ _ => F9q); (rename News _ _ _ _ => N9q); (refine c_lev (by (exact ⟨Frag.In.keeps (by assumption) (Fr.keep (by assumption)), ⟨_, _, _, _, _, Top.keeps (by assumption) (Fr.keep (by assumption))⟩, rfl, by (simp only [Around.deeper, Around.in1]; decide), by (simp only [Around.deeper, Around.in1]; decide)⟩)) (by with_reducible assumption) (by with_reducible assumption) (by first | with_reducible assumption | omega) (by first | with_reducible assumption | omega) ?_; intro _ _ _ k9q; (have F8q := Fr.keepsK F9q k9q); (have N8q := News.keepsK N9q k9q); clear F9q N9q k9q)))) | ((k_dflt ((with_reducible show wpAny _ _ (call (Value.ref 94) _) _ _ _); (rename Fr _ _ _ _ => F9q); (rename News _ _ _ _ => N9q); (refine c_text (by (exact ⟨Frag.In.keeps (by assumption) (Fr.keep (by assumption)), ⟨_, _, _, _, _, Top.keeps (by assumption) (Fr.keep (by assumption))⟩, rfl, by (simp only [Around.deeper, Around.in1]; decide), by (simp only [Around.deeper, Around.in1]; decide)⟩)) (isList_news N9q (by k_memK)) (by with_reducible assumption) (by exact rfl) (by first | with_reducible assumption | omega) (by with_reducible assumption) (by with_reducible assumption) ?_; intro _ _ _ k9q; (have F8q := Fr.keepsK F9q k9q); (have N8q := News.keepsK N9q k9q); clear F9q N9q k9q)))) | ((with_reducible show wpAny _ _ (compareOp CmpOp.NotEq (Value.bytes _ _) (Value.bytes _ _)) _ _ _); (k_dflt (refine ne_same ?_))) | ((k_dflt ((with_reducible show wpAny _ _ (call (Value.ref 49) _) _ _ _); (refine c_ap (by (exact ⟨Frag.In.keeps (by assumption) (Fr.keep (by assumption)), ⟨_, _, _, _, _, Top.keeps (by assumption) (Fr.keep (by assumption))⟩, rfl, by (simp only [Around.deeper, Around.in1]; decide), by (simp only [Around.deeper, Around.in1]; decide)⟩)) (by with_reducible assumption) (by with_reducible assumption) (by with_reducible assumption) (by with_reducible assumption) ?_; intro _ _ _ k9q; (rename Fr _ _ _ _ => F9q); (rename News _ _ _ _ => N9q); (have F8q := Fr.keepsK F9q k9q); (have N8q := News.keepsK N9q k9q); clear F9q N9q k9q)))) | ((k_dflt ((with_reducible show wpAny _ _ (call (Value.ref 89) _) _ _ _); (rename Fr _ _ _ _ => F9q); (rename News _ _ _ _ => N9q); (refine c_number (by (exact ⟨Frag.In.keeps (by assumption) (Fr.keep (by assumption)), ⟨_, _, _, _, _, Top.keeps (by assumption) (Fr.keep (by assumption))⟩, rfl, by (simp only [Around.deeper, Around.in1]; decide), by (simp only [Around.deeper, Around.in1]; decide)⟩)) (isList_news N9q (by k_memK)) (by with_reducible assumption) ?_; intro _ _ _ k9q; (have F8q := Fr.keepsK F9q k9q); (have N8q := News.keepsK N9q k9q); clear F9q N9q k9q)))) | ((with_reducible show wpAny _ _ (subscriptTail (Expr.Name _ _) (Expr.Constant _ _ _) (Value.ref _) (Value.int _ _)) _ _ _); (k_dflt ((rename News _ _ _ _ => N9q); (refine at_listE (isList_news N9q (by k_memK)) (by with_reducible assumption) (by with_reducible assumption) (by rfl) (by omega) (by omega) ?_); intro _))) | ((k_dflt ((with_reducible show wpAny _ _ (call (Value.type _) [Value.ref _]) _ _ _); (refine list_range _ (by rfl) (by assumption) (by assumption) (by assumption) (by exact small_mine (by omega) (by omega) (by omega)) (by assumption) (by omega) ?_; intro _ _ _ _ _ _ l1q _ _; (try k_lt l1q))))) | ((k_dflt ((with_reducible show wpAny _ _ (call (Value.type _) [Value.int _ _, Value.int _ _, Value.int _ _]) _ _ _); (refine rng3 (by assumption) (by assumption) (by first | decide | omega) (by omega) ?_); intro _ _ _ _ _ _ _ _ _))) | ((k_dflt ((with_reducible show wpAny _ _ (call (Value.type _) [Value.int _ _, Value.int _ _]) _ _ _); (refine rng2 (by assumption) (by assumption) ?_); intro _ _ _ _ _ _ _ _ _))) | ((k_dflt ((with_reducible show wpAny _ _ (call (Value.builtin "len") [Value.ref _]) _ _ _); (rename News _ _ _ _ => N9q); (refine kda_len (knd := intKind PR _) N9q (by k_memK) (by with_reducible assumption) (by with_reducible assumption) (by omega) ?_)))) | ((k_dflt ((with_reducible show wpAny _ _ (binaryOp _ (Value.int (_ + 1) _) (Value.int 4 _)) _ _ _); (refine div_q2 (by exact fmod4 _) ?_)))) | walk1 | (dsimp only; walk1) | (leave1; try dsimp only))))
      refine' TurnT.next o4 ?Fe ?Ne ?ne hendI ?hpe ⟨_, hd4⟩
      case Fe => assumption
      case Ne => assumption
      case hpe => ((repeat' (first | exact List.forall_mem_nil _ | (refine List.forall_mem_cons.mpr ⟨by with_unfolding_all rfl, ?_⟩))))
      case ne => exact fun p hp => .tail _ (.tail _ (hend p hp))

    | true =>
    rw [hlb] at F6
    have hnil := lack_nil.mpr hlb
    have hmo := hmore hlb
    (repeat' (first | (k_unfold; (try dsimp only)) | ((with_reducible show wpAny _ _ (PySem.exec (PySem.Stmt.Return (some (PySem.Expr.Constant (PySem.Const.bool false) _ _)) _) _) _ _ _); exfalso; first | assumption | contradiction | omega) | ((fail_if_success (with_reducible show wpAny _ _ (PySem.exec (PySem.Stmt.For _ _ _ _ _) _) _ _ _)); first | ((with_reducible show wpAny _ _ (compareOp CmpOp.Eq (Value.ref _) (Value.ref _)) _ _ _); (k_dflt ((rename News _ _ _ _ => N9q); (first | (refine eq_nilT N9q (by k_memK) (by exact List.Mem.head _) (by with_reducible assumption) (by with_reducible assumption) (by (simp only [Around.deeper, Around.in1]; decide)) ?_) | (refine eq_nilF N9q (by k_memK) (by exact List.Mem.head _) (by with_reducible assumption) (by with_reducible assumption) (by (simp only [Around.deeper, Around.in1]; decide)) ?_))))) | ((with_reducible show wpAny _ _ (subscriptTail (Expr.Name _ _) (Expr.Name _ _) (Value.ref _) (Value.int _ _)) _ _ _); (k_dflt ((rename News _ _ _ _ => N9q); (refine kda_item (knd := intKind PR _) N9q (by k_memK) (by with_reducible assumption) (by exact intKind_is _ _ _ _) (by with_reducible assumption) ?_)))) | (((with_reducible show wpAny _ _ (eval (Expr.Name _ _) (compEnvC _ _ _ _)) _ _ _); k_dflt (first | (refine blk_C (by assumption) (by rfl) (by k_mem) (by assumption) ?_ (by rfl) (by rfl) (by decide)) | (refine blk_L (by assumption) (by rfl) (by assumption) ?_ (by rfl) (by rfl) (by decide))))) | ((with_reducible show wpAny _ _ (compareOp CmpOp.NotEq (Value.bool _) (Value.bool _)) _ _ _); (k_dflt (with_reducible refine ne_bsame ?_))) | ((k_dflt ((with_reducible show wpAny _ _ (call (Value.builtin "len") [Value.ref _]) _ _ _); (rename News _ _ _ _ => N9q); (refine len_news N9q (by k_memK) (by with_reducible assumption) (by first | with_reducible assumption | omega) ?_)))) | ((k_dflt ((with_reducible show wpAny _ _ (call (Value.ref 82) _) _ _ _); (rename Fr _ _ _ _ => F9q); (rename News _ _ _ _ => N9q); (refine c_neigh (by (exact ⟨Frag.In.keeps (by assumption) (Fr.keep (by assumption)), ⟨_, _, _, _, _, Top.keeps (by assumption) (Fr.keep (by assumption))⟩, rfl, by (simp only [Around.deeper, Around.in1]; decide), by (simp only [Around.deeper, Around.in1]; decide)⟩)) (isList_news N9q (by k_memK)) (by with_reducible assumption) (by omega) ?_; intro _ _ k9q; (have F8q := Fr.keepsK F9q k9q); (have N8q := News.keepsK N9q k9q); clear F9q N9q k9q)))) | ((k_dflt ((with_reducible show wpAny _ _ (call (Value.ref 28) _) _ _ _); (rename Fr _ _ _ _ => F9q); (rename News _ _ _ _ => N9q); (refine c_lev (by (exact ⟨Frag.In.keeps (by assumption) (Fr.keep (by assumption)), ⟨_, _, _, _, _, Top.keeps (by assumption) (Fr.keep (by assumption))⟩, rfl, by (simp only [Around.deeper, Around.in1]; decide), by (simp only [Around.deeper, Around.in1]; decide)⟩)) (by with_reducible assumption) (by with_reducible assumption) (by first | with_reducible assumption | omega) (by first | with_reducible assumption | omega) ?_; intro _ _ _ k9q; (have F8q := Fr.keepsK F9q k9q); (have N8q := News.keepsK N9q k9q); clear F9q N9q k9q)))) | ((k_dflt ((with_reducible show wpAny _ _ (call (Value.ref 94) _) _ _ _); (rename Fr _ _ _ _ => F9q); (rename News _ _ _ _ => N9q); (refine c_text (by (exact ⟨Frag.In.keeps (by assumption) (Fr.keep (by assumption)), ⟨_, _, _, _, _, Top.keeps (by assumption) (Fr.keep (by assumption))⟩, rfl, by (simp only [Around.deeper, Around.in1]; decide), by (simp only [Around.deeper, Around.in1]; decide)⟩)) (isList_news N9q (by k_memK)) (by with_reducible assumption) (by exact rfl) (by first | with_reducible assumption | omega) (by with_reducible assumption) (by with_reducible assumption) ?_; intro _ _ _ k9q; (have F8q := Fr.keepsK F9q k9q); (have N8q := News.keepsK N9q k9q); clear F9q N9q k9q)))) | ((with_reducible show wpAny _ _ (compareOp CmpOp.NotEq (Value.bytes _ _) (Value.bytes _ _)) _ _ _); (k_dflt (refine ne_same ?_))) | ((k_dflt ((with_reducible show wpAny _ _ (call (Value.ref 49) _) _ _ _); (refine c_ap (by (exact ⟨Frag.In.keeps (by assumption) (Fr.keep (by assumption)), ⟨_, _, _, _, _, Top.keeps (by assumption) (Fr.keep (by assumption))⟩, rfl, by (simp only [Around.deeper, Around.in1]; decide), by (simp only [Around.deeper, Around.in1]; decide)⟩)) (by with_reducible assumption) (by with_reducible assumption) (by with_reducible assumption) (by with_reducible assumption) ?_; intro _ _ _ k9q; (rename Fr _ _ _ _ => F9q); (rename News _ _ _ _ => N9q); (have F8q := Fr.keepsK F9q k9q); (have N8q := News.keepsK N9q k9q); clear F9q N9q k9q)))) | ((k_dflt ((with_reducible show wpAny _ _ (call (Value.ref 89) _) _ _ _); (rename Fr _ _ _ _ => F9q); (rename News _ _ _ _ => N9q); (refine c_number (by (exact ⟨Frag.In.keeps (by assumption) (Fr.keep (by assumption)), ⟨_, _, _, _, _, Top.keeps (by assumption) (Fr.keep (by assumption))⟩, rfl, by (simp only [Around.deeper, Around.in1]; decide), by (simp only [Around.deeper, Around.in1]; decide)⟩)) (isList_news N9q (by k_memK)) (by with_reducible assumption) ?_; intro _ _ _ k9q; (have F8q := Fr.keepsK F9q k9q); (have N8q := News.keepsK N9q k9q); clear F9q N9q k9q)))) | ((with_reducible show wpAny _ _ (subscriptTail (Expr.Name _ _) (Expr.Constant _ _ _) (Value.ref _) (Value.int _ _)) _ _ _); (k_dflt ((rename News _ _ _ _ => N9q); (refine at_listE (isList_news N9q (by k_memK)) (by with_reducible assumption) (by with_reducible assumption) (by rfl) (by omega) (by omega) ?_); intro _))) | ((k_dflt ((with_reducible show wpAny _ _ (call (Value.type _) [Value.ref _]) _ _ _); (refine list_range _ (by rfl) (by assumption) (by assumption) (by assumption) (by exact small_mine (by omega) (by omega) (by omega)) (by assumption) (by omega) ?_; intro _ _ _ _ _ _ l1q _ _; (try k_lt l1q))))) | ((k_dflt ((with_reducible show wpAny _ _ (call (Value.type _) [Value.int _ _, Value.int _ _, Value.int _ _]) _ _ _); (refine rng3 (by assumption) (by assumption) (by first | decide | omega) (by omega) ?_); intro _ _ _ _ _ _ _ _ _))) | ((k_dflt ((with_reducible show wpAny _ _ (call (Value.type _) [Value.int _ _, Value.int _ _]) _ _ _); (refine rng2 (by assumption) (by assumption) ?_); intro _ _ _ _ _ _ _ _ _))) | ((k_dflt ((with_reducible show wpAny _ _ (call (Value.builtin "len") [Value.ref _]) _ _ _); (rename News _ _ _ _ => N9q); (refine kda_len (knd := intKind PR _) N9q (by k_memK) (by with_reducible assumption) (by with_reducible assumption) (by omega) ?_)))) | ((k_dflt ((with_reducible show wpAny _ _ (binaryOp _ (Value.int (_ + 1) _) (Value.int 4 _)) _ _ _); (refine div_q2 (by exact fmod4 _) ?_)))) | walk1 | (dsimp only; walk1) | (leave1; try dsimp only))))
    refine For_invV s1.heap rfl rfl ?_
    (repeat' (first | (k_unfold; (try dsimp only)) | ((fail_if_success (with_reducible show wpAny _ _ (PySem.pyIter _) _ _ _)); (fail_if_success (with_reducible show wpAny _ _ (PySem.call (PySem.Value.ref _) _) _ _ _)); first | ((with_reducible show wpAny _ _ (compareOp CmpOp.Eq (Value.ref _) (Value.ref _)) _ _ _); (k_dflt ((rename News _ _ _ _ => N9q); (first | (refine eq_nilT N9q (by k_memK) (by exact List.Mem.head _) (by with_reducible assumption) (by with_reducible assumption) (by (simp only [Around.deeper, Around.in1]; decide)) ?_) | (refine eq_nilF N9q (by k_memK) (by exact List.Mem.head _) (by with_reducible assumption) (by with_reducible assumption) (by (simp only [Around.deeper, Around.in1]; decide)) ?_))))) | ((with_reducible show wpAny _ _ (subscriptTail (Expr.Name _ _) (Expr.Name _ _) (Value.ref _) (Value.int _ _)) _ _ _); (k_dflt ((rename News _ _ _ _ => N9q); (refine kda_item (knd := intKind PR _) N9q (by k_memK) (by with_reducible assumption) (by exact intKind_is _ _ _ _) (by with_reducible assumption) ?_)))) | (((with_reducible show wpAny _ _ (eval (Expr.Name _ _) (compEnvC _ _ _ _)) _ _ _); k_dflt (first | (refine blk_C (by assumption) (by rfl) (by k_mem) (by assumption) ?_ (by rfl) (by rfl) (by decide)) | (refine blk_L (by assumption) (by rfl) (by assumption) ?_ (by rfl) (by rfl) (by decide))))) | ((with_reducible show wpAny _ _ (compareOp CmpOp.NotEq (Value.bool _) (Value.bool _)) _ _ _); (k_dflt (with_reducible refine ne_bsame ?_))) | ((k_dflt ((with_reducible show wpAny _ _ (call (Value.builtin "len") [Value.ref _]) _ _ _); (rename News _ _ _ _ => N9q); (refine len_news N9q (by k_memK) (by with_reducible assumption) (by first | with_reducible assumption | omega) ?_)))) | ((k_dflt ((with_reducible show wpAny _ _ (call (Value.ref 82) _) _ _ _); (rename Fr _ _ _ _ => F9q); (rename News _ _ _ _ => N9q); (refine c_neigh (by (exact ⟨Frag.In.keeps (by assumption) (Fr.keep (by assumption)), ⟨_, _, _, _, _, Top.keeps (by assumption) (Fr.keep (by assumption))⟩, rfl, by (simp only [Around.deeper, Around.in1]; decide), by (simp only [Around.deeper, Around.in1]; decide)⟩)) (isList_news N9q (by k_memK)) (by with_reducible assumption) (by omega) ?_; intro _ _ k9q; (have F8q := Fr.keepsK F9q k9q); (have N8q := News.keepsK N9q k9q); clear F9q N9q k9q)))) | ((k_dflt ((with_reducible show wpAny _ _ (call (Value.ref 28) _) _ _ _); (rename Fr _ _ _ _ => F9q); (rename News _ _ _ _ => N9q); (refine c_lev (by (exact ⟨Frag.In.keeps (by assumption) (Fr.keep (by assumption)), ⟨_, _, _, _, _, Top.keeps (by assumption) (Fr.keep (by assumption))⟩, rfl, by (simp only [Around.deeper, Around.in1]; decide), by (simp only [Around.deeper, Around.in1]; decide)⟩)) (by with_reducible assumption) (by with_reducible assumption) (by first | with_reducible assumption | omega) (by first | with_reducible assumption | omega) ?_; intro _ _ _ k9q; (have F8q := Fr.keepsK F9q k9q); (have N8q := News.keepsK N9q k9q); clear F9q N9q k9q)))) | ((k_dflt ((with_reducible show wpAny _ _ (call (Value.ref 94) _) _ _ _); (rename Fr _ _ _ _ => F9q); (rename News _ _ _ _ => N9q); (refine c_text (by (exact ⟨Frag.In.keeps (by assumption) (Fr.keep (by assumption)), ⟨_, _, _, _, _, Top.keeps (by assumption) (Fr.keep (by assumption))⟩, rfl, by (simp only [Around.deeper, Around.in1]; decide), by (simp only [Around.deeper, Around.in1]; decide)⟩)) (isList_news N9q (by k_memK)) (by with_reducible assumption) (by exact rfl) (by first | with_reducible assumption | omega) (by with_reducible assumption) (by with_reducible assumption) ?_; intro _ _ _ k9q; (have F8q := Fr.keepsK F9q k9q); (have N8q := News.keepsK N9q k9q); clear F9q N9q k9q)))) | ((with_reducible show wpAny _ _ (compareOp CmpOp.NotEq (Value.bytes _ _) (Value.bytes _ _)) _ _ _); (k_dflt (refine ne_same ?_))) | ((k_dflt ((with_reducible show wpAny _ _ (call (Value.ref 49) _) _ _ _); (refine c_ap (by (exact ⟨Frag.In.keeps (by assumption) (Fr.keep (by assumption)), ⟨_, _, _, _, _, Top.keeps (by assumption) (Fr.keep (by assumption))⟩, rfl, by (simp only [Around.deeper, Around.in1]; decide), by (simp only [Around.deeper, Around.in1]; decide)⟩)) (by with_reducible assumption) (by with_reducible assumption) (by with_reducible assumption) (by with_reducible assumption) ?_; intro _ _ _ k9q; (rename Fr _ _ _ _ => F9q); (rename News _ _ _ _ => N9q); (have F8q := Fr.keepsK F9q k9q); (have N8q := News.keepsK N9q k9q); clear F9q N9q k9q)))) | ((k_dflt ((with_reducible show wpAny _ _ (call (Value.ref 89) _) _ _ _); (rename Fr _ _ _ _ => F9q); (rename News _ _ _ _ => N9q); (refine c_number (by (exact ⟨Frag.In.keeps (by assumption) (Fr.keep (by assumption)), ⟨_, _, _, _, _, Top.keeps (by assumption) (Fr.keep (by assumption))⟩, rfl, by (simp only [Around.deeper, Around.in1]; decide), by (simp only [Around.deeper, Around.in1]; decide)⟩)) (isList_news N9q (by k_memK)) (by with_reducible assumption) ?_; intro _ _ _ k9q; (have F8q := Fr.keepsK F9q k9q); (have N8q := News.keepsK N9q k9q); clear F9q N9q k9q)))) | ((with_reducible show wpAny _ _ (subscriptTail (Expr.Name _ _) (Expr.Constant _ _ _) (Value.ref _) (Value.int _ _)) _ _ _); (k_dflt ((rename News _ _ _ _ => N9q); (refine at_listE (isList_news N9q (by k_memK)) (by with_reducible assumption) (by with_reducible assumption) (by rfl) (by omega) (by omega) ?_); intro _))) | ((k_dflt ((with_reducible show wpAny _ _ (call (Value.type _) [Value.ref _]) _ _ _); (refine list_range _ (by rfl) (by assumption) (by assumption) (by assumption) (by exact small_mine (by omega) (by omega) (by omega)) (by assumption) (by omega) ?_; intro _ _ _ _ _ _ l1q _ _; (try k_lt l1q))))) | ((k_dflt ((with_reducible show wpAny _ _ (call (Value.type _) [Value.int _ _, Value.int _ _, Value.int _ _]) _ _ _); (refine rng3 (by assumption) (by assumption) (by first | decide | omega) (by omega) ?_); intro _ _ _ _ _ _ _ _ _))) | ((k_dflt ((with_reducible show wpAny _ _ (call (Value.type _) [Value.int _ _, Value.int _ _]) _ _ _); (refine rng2 (by assumption) (by assumption) ?_); intro _ _ _ _ _ _ _ _ _))) | ((k_dflt ((with_reducible show wpAny _ _ (call (Value.builtin "len") [Value.ref _]) _ _ _); (rename News _ _ _ _ => N9q); (refine kda_len (knd := intKind PR _) N9q (by k_memK) (by with_reducible assumption) (by with_reducible assumption) (by omega) ?_)))) | ((k_dflt ((with_reducible show wpAny _ _ (binaryOp _ (Value.int (_ + 1) _) (Value.int 4 _)) _ _ _); (refine div_q2 (by exact fmod4 _) ?_)))) | walk1 | (dsimp only; walk1) | (leave1; try dsimp only))))
    rename Fr _ _ _ _ => F7
    rename News _ _ _ _ => N7
    refine' for_range (σ := Unit) (n - 1) (fun i => ((i + 2 : Nat) : Int)) ((ld, listOf vd.toArray kd) :: (lu, listOf vu.toArray ku) :: (lD, listOf vsD.toArray kD) :: (s1.heap.objs.size + 1, oh) :: (s1.heap.objs.size + 1 + 1, o4) :: (d, od) :: rest) (fun _ => []) (fun _ => [(Str.ofString "size", .int (n : Int) t)])
      (fun _ _ => True) () ?hhJ ?hrJ ?hsJ hrs2 ?hgJ F7 N7 ?hnewsJ ?hp0J ?hjJ ?turnJ ?doneJ
    case hhJ => rfl
    case hrJ => assumption
    case hsJ => exact small2 hn.2
    case hgJ => intro i; omega
    case hp0J => ((repeat' (first | exact List.forall_mem_nil _ | (refine List.forall_mem_cons.mpr ⟨by with_unfolding_all rfl, ?_⟩))))
    case hnewsJ => rw [List.append_nil]; exact fun p hp => .tail _ (.tail _ hp)
    case hjJ => trivial
    case doneJ =>
      clear F7 N7
      rintro - u7 h7 tk7 - F7 N7
      rw [List.append_nil] at N7
      (repeat' (first | (k_unfold; (try dsimp only)) | ((with_reducible show wpAny _ _ (PySem.exec (PySem.Stmt.Return (some (PySem.Expr.Constant (PySem.Const.bool false) _ _)) _) _) _ _ _); exfalso; first | assumption | contradiction | omega) | ((fail_if_success (with_reducible show wpAny _ _ (PySem.exec (PySem.Stmt.For _ _ _ _ _) _) _ _ _)); first | ((with_reducible show wpAny _ _ (compareOp CmpOp.Eq (Value.ref _) (Value.ref _)) _ _ _); (k_dflt ((rename News _ _ _ _ => N9q); (first | (refine eq_nilT N9q (by k_memK) (by exact List.Mem.head _) (by with_reducible assumption) (by with_reducible assumption) (by (simp only [Around.deeper, Around.in1]; decide)) ?_) | (refine eq_nilF N9q (by k_memK) (by exact List.Mem.head _) (by with_reducible assumption) (by with_reducible assumption) (by (simp only [Around.deeper, Around.in1]; decide)) ?_))))) | ((with_reducible show wpAny _ _ (subscriptTail (Expr.Name _ _) (Expr.Name _ _) (Value.ref _) (Value.int _ _)) _ _ _); (k_dflt ((rename News _ _ _ _ => N9q); (refine kda_item (knd := intKind PR _) N9q (by k_memK) (by with_reducible assumption) (by exact intKind_is _ _ _ _) (by with_reducible assumption) ?_)))) | (((with_reducible show wpAny _ _ (eval (Expr.Name _ _) (compEnvC _ _ _ _)) _ _ _); k_dflt (first | (refine blk_C (by assumption) (by rfl) (by k_mem) (by assumption) ?_ (by rfl) (by rfl) (by decide)) | (refine blk_L (by assumption) (by rfl) (by assumption) ?_ (by rfl) (by rfl) (by decide))))) | ((with_reducible show wpAny _ _ (compareOp CmpOp.NotEq (Value.bool _) (Value.bool _)) _ _ _); (k_dflt (with_reducible refine ne_bsame ?_))) | ((k_dflt ((with_reducible show wpAny _ _ (call (Value.builtin "len") [Value.ref _]) _ _ _); (rename News _ _ _ _ => N9q); (refine len_news N9q (by k_memK) (by with_reducible assumption) (by first | with_reducible assumption | omega) ?_)))) | ((k_dflt ((with_reducible show wpAny _ _ (call (Value.ref 82) _) _ _ _); (rename Fr _ _ _ _ => F9q); (rename News _ _ _ _ => N9q); (refine c_neigh (by (exact ⟨Frag.In.keeps (by assumption) (Fr.keep (by assumption)), ⟨_, _, _, _, _, Top.keeps (by assumption) (Fr.keep (by assumption))⟩, rfl, by (simp only [Around.deeper, Around.in1]; decide), by (simp only [Around.deeper, Around.in1]; decide)⟩)) (isList_news N9q (by k_memK)) (by with_reducible assumption) (by omega) ?_; intro _ _ k9q; (have F8q := Fr.keepsK F9q k9q); (have N8q := News.keepsK N9q k9q); clear F9q N9q k9q)))) | ((k_dflt ((with_reducible show wpAny _ _ (call (Value.ref 28) _) _ _ _); (rename Fr _ _ _ _ => F9q); (rename News _ _ _ _ => N9q); (refine c_lev (by (exact ⟨Frag.In.keeps (by assumption) (Fr.keep (by assumption)), ⟨_, _, _, _, _, Top.keeps (by assumption) (Fr.keep (by assumption))⟩, rfl, by (simp only [Around.deeper, Around.in1]; decide), by (simp only [Around.deeper, Around.in1]; decide)⟩)) (by with_reducible assumption) (by with_reducible assumption) (by first | with_reducible assumption | omega) (by first | with_reducible assumption | omega) ?_; intro _ _ _ k9q; (have F8q := Fr.keepsK F9q k9q); (have N8q := News.keepsK N9q k9q); clear F9q N9q k9q)))) | ((k_dflt ((with_reducible show wpAny _ _ (call (Value.ref 94) _) _ _ _); (rename Fr _ _ _ _ => F9q); (rename News _ _ _ _ => N9q); (refine c_text (by (exact ⟨Frag.In.keeps (by assumption) (Fr.keep (by assumption)), ⟨_, _, _, _, _, Top.keeps (by assumption) (Fr.keep (by assumption))⟩, rfl, by (simp only [Around.deeper, Around.in1]; decide), by (simp only [Around.deeper, Around.in1]; decide)⟩)) (isList_news N9q (by k_memK)) (by with_reducible assumption) (by exact rfl) (by first | with_reducible assumption | omega) (by with_reducible assumption) (by with_reducible assumption) ?_; intro _ _ _ k9q; (have F8q := Fr.keepsK F9q k9q); (have N8q := News.keepsK N9q k9q); clear F9q N9q k9q)))) | ((with_reducible show wpAny _ _ (compareOp CmpOp.NotEq (Value.bytes _ _) (Value.bytes _ _)) _ _ _); (k_dflt (refine ne_same ?_))) | ((k_dflt ((with_reducible show wpAny _ _ (call (Value.ref 49) _) _ _ _); (refine c_ap (by (exact ⟨Frag.In.keeps (by assumption) (Fr.keep (by assumption)), ⟨_, _, _, _, _, Top.keeps (by assumption) (Fr.keep (by assumption))⟩, rfl, by (simp only [Around.deeper, Around.in1]; decide), by (simp only [Around.deeper, Around.in1]; decide)⟩)) (by with_reducible assumption) (by with_reducible assumption) (by with_reducible assumption) (by with_reducible assumption) ?_; intro _ _ _ k9q; (rename Fr _ _ _ _ => F9q); (rename News _ _ _ _ => N9q); (have F8q := Fr.keepsK F9q k9q); (have N8q := News.keepsK N9q k9q); clear F9q N9q k9q)))) | ((k_dflt ((with_reducible show wpAny _ _ (call (Value.ref 89) _) _ _ _); (rename Fr _ _ _ _ => F9q); (rename News _ _ _ _ => N9q); (refine c_number (by (exact ⟨Frag.In.keeps (by assumption) (Fr.keep (by assumption)), ⟨_, _, _, _, _, Top.keeps (by assumption) (Fr.keep (by assumption))⟩, rfl, by (simp only [Around.deeper, Around.in1]; decide), by (simp only [Around.deeper, Around.in1]; decide)⟩)) (isList_news N9q (by k_memK)) (by with_reducible assumption) ?_; intro _ _ _ k9q; (have F8q := Fr.keepsK F9q k9q); (have N8q := News.keepsK N9q k9q); clear F9q N9q k9q)))) | ((with_reducible show wpAny _ _ (subscriptTail (Expr.Name _ _) (Expr.Constant _ _ _) (Value.ref _) (Value.int _ _)) _ _ _); (k_dflt ((rename News _ _ _ _ => N9q); (refine at_listE (isList_news N9q (by k_memK)) (by with_reducible assumption) (by with_reducible assumption) (by rfl) (by omega) (by omega) ?_); intro _))) | ((k_dflt ((with_reducible show wpAny _ _ (call (Value.type _) [Value.ref _]) _ _ _); (refine list_range _ (by rfl) (by assumption) (by assumption) (by assumption) (by exact small_mine (by omega) (by omega) (by omega)) (by assumption) (by omega) ?_; intro _ _ _ _ _ _ l1q _ _; (try k_lt l1q))))) | ((k_dflt ((with_reducible show wpAny _ _ (call (Value.type _) [Value.int _ _, Value.int _ _, Value.int _ _]) _ _ _); (refine rng3 (by assumption) (by assumption) (by first | decide | omega) (by omega) ?_); intro _ _ _ _ _ _ _ _ _))) | ((k_dflt ((with_reducible show wpAny _ _ (call (Value.type _) [Value.int _ _, Value.int _ _]) _ _ _); (refine rng2 (by assumption) (by assumption) ?_); intro _ _ _ _ _ _ _ _ _))) | ((k_dflt ((with_reducible show wpAny _ _ (call (Value.builtin "len") [Value.ref _]) _ _ _); (rename News _ _ _ _ => N9q); (refine kda_len (knd := intKind PR _) N9q (by k_memK) (by with_reducible assumption) (by with_reducible assumption) (by omega) ?_)))) | ((k_dflt ((with_reducible show wpAny _ _ (binaryOp _ (Value.int (_ + 1) _) (Value.int 4 _)) _ _ _); (refine div_q2 (by exact fmod4 _) ?_)))) | walk1 | (dsimp only; walk1) | (leave1; try dsimp only))))
      refine' TurnT.next o4 ?FeJ ?NeJ ?neJ hendI ?hpeJ ⟨_, hd4⟩
      case FeJ => assumption
      case NeJ => assumption
      case hpeJ => ((repeat' (first | exact List.forall_mem_nil _ | (refine List.forall_mem_cons.mpr ⟨by with_unfolding_all rfl, ?_⟩))))
      case neJ => exact fun p hp => hend p hp
    case turnJ =>
    clear F7 N7
    rintro ij tj - u7 h7 tk7 I3 io3 hij - hio3 F7 N7 - -
    rw [List.append_nil] at N7
    obtain ⟨lr, vr, kr, hrm, hir, hval⟩ := row_of (hrl ()) hrows (j := ij + 2) (Nat.le_add_left 2 ij) (jin hij).2
    obtain ⟨hq1, hq2, hq3⟩ := more_parts hmo hij
    have N8 := dupl N7 (p := (lr, listOf vr.toArray kr)) (.tail _ (.tail _ (.tail _ (.tail _ (.tail _ (.tail _ (.tail _ (hrest _ hrm))))))))
    clear N7
    have hrsq := rangeQ n (lt8 hn.2) (ij + 2) (lt8 (Nat.le_trans (jin hij).2 hn.2)) (Nat.le_add_left 2 ij) (jin hij).2
    (repeat' (first | (k_unfold; (try dsimp only)) | ((with_reducible show wpAny _ _ (PySem.exec (PySem.Stmt.Return (some (PySem.Expr.Constant (PySem.Const.bool false) _ _)) _) _) _ _ _); exfalso; first | assumption | contradiction | omega) | ((fail_if_success (with_reducible show wpAny _ _ (PySem.exec (PySem.Stmt.For _ _ _ _ _) _) _ _ _)); first | ((with_reducible show wpAny _ _ (compareOp CmpOp.Eq (Value.ref _) (Value.ref _)) _ _ _); (k_dflt ((rename News _ _ _ _ => N9q); (first | (refine eq_nilT N9q (by k_memK) (by exact List.Mem.head _) (by with_reducible assumption) (by with_reducible assumption) (by (simp only [Around.deeper, Around.in1]; decide)) ?_) | (refine eq_nilF N9q (by k_memK) (by exact List.Mem.head _) (by with_reducible assumption) (by with_reducible assumption) (by (simp only [Around.deeper, Around.in1]; decide)) ?_))))) | ((with_reducible show wpAny _ _ (subscriptTail (Expr.Name _ _) (Expr.Name _ _) (Value.ref _) (Value.int _ _)) _ _ _); (k_dflt ((rename News _ _ _ _ => N9q); (refine kda_item (knd := intKind PR _) N9q (by k_memK) (by with_reducible assumption) (by exact intKind_is _ _ _ _) (by with_reducible assumption) ?_)))) | (((with_reducible show wpAny _ _ (eval (Expr.Name _ _) (compEnvC _ _ _ _)) _ _ _); k_dflt (first | (refine blk_C (by assumption) (by rfl) (by k_mem) (by assumption) ?_ (by rfl) (by rfl) (by decide)) | (refine blk_L (by assumption) (by rfl) (by assumption) ?_ (by rfl) (by rfl) (by decide))))) | ((with_reducible show wpAny _ _ (compareOp CmpOp.NotEq (Value.bool _) (Value.bool _)) _ _ _); (k_dflt (with_reducible refine ne_bsame ?_))) | ((k_dflt ((with_reducible show wpAny _ _ (call (Value.builtin "len") [Value.ref _]) _ _ _); (rename News _ _ _ _ => N9q); (refine len_news N9q (by k_memK) (by with_reducible assumption) (by first | with_reducible assumption | omega) ?_)))) | ((k_dflt ((with_reducible show wpAny _ _ (call (Value.ref 82) _) _ _ _); (rename Fr _ _ _ _ => F9q); (rename News _ _ _ _ => N9q); (refine c_neigh (by (exact ⟨Frag.In.keeps (by assumption) (Fr.keep (by assumption)), ⟨_, _, _, _, _, Top.keeps (by assumption) (Fr.keep (by assumption))⟩, rfl, by (simp only [Around.deeper, Around.in1]; decide), by (simp only [Around.deeper, Around.in1]; decide)⟩)) (isList_news N9q (by k_memK)) (by with_reducible assumption) (by omega) ?_; intro _ _ k9q; (have F8q := Fr.keepsK F9q k9q); (have N8q := News.keepsK N9q k9q); clear F9q N9q k9q)))) | ((k_dflt ((with_reducible show wpAny _ _ (call (Value.ref 28) _) _ _ _); (rename Fr _ _ _ _ => F9q); (rename News _ _ _ _ => N9q); (refine c_lev (by (exact ⟨Frag.In.keeps (by assumption) (Fr.keep (by assumption)), ⟨_, _, _, _, _, Top.keeps (by assumption) (Fr.keep (by assumption))⟩, rfl, by (simp only [Around.deeper, Around.in1]; decide), by (simp only [Around.deeper, Around.in1]; decide)⟩)) (by with_reducible assumption) (by with_reducible assumption) (by first | with_reducible assumption | omega) (by first | with_reducible assumption | omega) ?_; intro _ _ _ k9q; (have F8q := Fr.keepsK F9q k9q); (have N8q := News.keepsK N9q k9q); clear F9q N9q k9q)))) | ((k_dflt ((with_reducible show wpAny _ _ (call (Value.ref 94) _) _ _ _); (rename Fr _ _ _ _ => F9q); (rename News _ _ _ _ => N9q); (refine c_text (by (exact ⟨Frag.In.keeps (by assumption) (Fr.keep (by assumption)), ⟨_, _, _, _, _, Top.keeps (by assumption) (Fr.keep (by assumption))⟩, rfl, by (simp only [Around.deeper, Around.in1]; decide), by (simp only [Around.deeper, Around.in1]; decide)⟩)) (isList_news N9q (by k_memK)) (by with_reducible assumption) (by exact rfl) (by first | with_reducible assumption | omega) (by with_reducible assumption) (by with_reducible assumption) ?_; intro _ _ _ k9q; (have F8q := Fr.keepsK F9q k9q); (have N8q := News.keepsK N9q k9q); clear F9q N9q k9q)))) | ((with_reducible show wpAny _ _ (compareOp CmpOp.NotEq (Value.bytes _ _) (Value.bytes _ _)) _ _ _); (k_dflt (refine ne_same ?_))) | ((k_dflt ((with_reducible show wpAny _ _ (call (Value.ref 49) _) _ _ _); (refine c_ap (by (exact ⟨Frag.In.keeps (by assumption) (Fr.keep (by assumption)), ⟨_, _, _, _, _, Top.keeps (by assumption) (Fr.keep (by assumption))⟩, rfl, by (simp only [Around.deeper, Around.in1]; decide), by (simp only [Around.deeper, Around.in1]; decide)⟩)) (by with_reducible assumption) (by with_reducible assumption) (by with_reducible assumption) (by with_reducible assumption) ?_; intro _ _ _ k9q; (rename Fr _ _ _ _ => F9q); (rename News _ _ _ _ => N9q); (have F8q := Fr.keepsK F9q k9q); (have N8q := News.keepsK N9q k9q); clear F9q N9q k9q)))) | ((k_dflt ((with_reducible show wpAny _ _ (call (Value.ref 89) _) _ _ _); (rename Fr _ _ _ _ => F9q); (rename News _ _ _ _ => N9q); (refine c_number (by (exact ⟨Frag.In.keeps (by assumption) (Fr.keep (by assumption)), ⟨_, _, _, _, _, Top.keeps (by assumption) (Fr.keep (by assumption))⟩, rfl, by (simp only [Around.deeper, Around.in1]; decide), by (simp only [Around.deeper, Around.in1]; decide)⟩)) (isList_news N9q (by k_memK)) (by with_reducible assumption) ?_; intro _ _ _ k9q; (have F8q := Fr.keepsK F9q k9q); (have N8q := News.keepsK N9q k9q); clear F9q N9q k9q)))) | ((with_reducible show wpAny _ _ (subscriptTail (Expr.Name _ _) (Expr.Constant _ _ _) (Value.ref _) (Value.int _ _)) _ _ _); (k_dflt ((rename News _ _ _ _ => N9q); (refine at_listE (isList_news N9q (by k_memK)) (by with_reducible assumption) (by with_reducible assumption) (by rfl) (by omega) (by omega) ?_); intro _))) | ((k_dflt ((with_reducible show wpAny _ _ (call (Value.type _) [Value.ref _]) _ _ _); (refine list_range _ (by rfl) (by assumption) (by assumption) (by assumption) (by exact small_mine (by omega) (by omega) (by omega)) (by assumption) (by omega) ?_; intro _ _ _ _ _ _ l1q _ _; (try k_lt l1q))))) | ((k_dflt ((with_reducible show wpAny _ _ (call (Value.type _) [Value.int _ _, Value.int _ _, Value.int _ _]) _ _ _); (refine rng3 (by assumption) (by assumption) (by first | decide | omega) (by omega) ?_); intro _ _ _ _ _ _ _ _ _))) | ((k_dflt ((with_reducible show wpAny _ _ (call (Value.type _) [Value.int _ _, Value.int _ _]) _ _ _); (refine rng2 (by assumption) (by assumption) ?_); intro _ _ _ _ _ _ _ _ _))) | ((k_dflt ((with_reducible show wpAny _ _ (call (Value.builtin "len") [Value.ref _]) _ _ _); (rename News _ _ _ _ => N9q); (refine kda_len (knd := intKind PR _) N9q (by k_memK) (by with_reducible assumption) (by with_reducible assumption) (by omega) ?_)))) | ((k_dflt ((with_reducible show wpAny _ _ (binaryOp _ (Value.int (_ + 1) _) (Value.int 4 _)) _ _ _); (refine div_q2 (by exact fmod4 _) ?_)))) | walk1 | (dsimp only; walk1) | (leave1; try dsimp only))))
    refine For_invV s1.heap rfl rfl ?_
    (repeat' (first | (k_unfold; (try dsimp only)) | ((fail_if_success (with_reducible show wpAny _ _ (PySem.pyIter _) _ _ _)); (fail_if_success (with_reducible show wpAny _ _ (PySem.call (PySem.Value.ref _) _) _ _ _)); first | ((with_reducible show wpAny _ _ (compareOp CmpOp.Eq (Value.ref _) (Value.ref _)) _ _ _); (k_dflt ((rename News _ _ _ _ => N9q); (first | (refine eq_nilT N9q (by k_memK) (by exact List.Mem.head _) (by with_reducible assumption) (by with_reducible assumption) (by (simp only [Around.deeper, Around.in1]; decide)) ?_) | (refine eq_nilF N9q (by k_memK) (by exact List.Mem.head _) (by with_reducible assumption) (by with_reducible assumption) (by (simp only [Around.deeper, Around.in1]; decide)) ?_))))) | ((with_reducible show wpAny _ _ (subscriptTail (Expr.Name _ _) (Expr.Name _ _) (Value.ref _) (Value.int _ _)) _ _ _); (k_dflt ((rename News _ _ _ _ => N9q); (refine kda_item (knd := intKind PR _) N9q (by k_memK) (by with_reducible assumption) (by exact intKind_is _ _ _ _) (by with_reducible assumption) ?_)))) | (((with_reducible show wpAny _ _ (eval (Expr.Name _ _) (compEnvC _ _ _ _)) _ _ _); k_dflt (first | (refine blk_C (by assumption) (by rfl) (by k_mem) (by assumption) ?_ (by rfl) (by rfl) (by decide)) | (refine blk_L (by assumption) (by rfl) (by assumption) ?_ (by rfl) (by rfl) (by decide))))) | ((with_reducible show wpAny _ _ (compareOp CmpOp.NotEq (Value.bool _) (Value.bool _)) _ _ _); (k_dflt (with_reducible refine ne_bsame ?_))) | ((k_dflt ((with_reducible show wpAny _ _ (call (Value.builtin "len") [Value.ref _]) _ _ _); (rename News _ _ _ _ => N9q); (refine len_news N9q (by k_memK) (by with_reducible assumption) (by first | with_reducible assumption | omega) ?_)))) | ((k_dflt ((with_reducible show wpAny _ _ (call (Value.ref 82) _) _ _ _); (rename Fr _ _ _ _ => F9q); (rename News _ _ _ _ => N9q); (refine c_neigh (by (exact ⟨Frag.In.keeps (by assumption) (Fr.keep (by assumption)), ⟨_, _, _, _, _, Top.keeps (by assumption) (Fr.keep (by assumption))⟩, rfl, by (simp only [Around.deeper, Around.in1]; decide), by (simp only [Around.deeper, Around.in1]; decide)⟩)) (isList_news N9q (by k_memK)) (by with_reducible assumption) (by omega) ?_; intro _ _ k9q; (have F8q := Fr.keepsK F9q k9q); (have N8q := News.keepsK N9q k9q); clear F9q N9q k9q)))) | ((k_dflt ((with_reducible show wpAny _ _ (call (Value.ref 28) _) _ _ _); (rename Fr _ _ _ _ => F9q); (rename News _ _ _ _ => N9q); (refine c_lev (by (exact ⟨Frag.In.keeps (by assumption) (Fr.keep (by assumption)), ⟨_, _, _, _, _, Top.keeps (by assumption) (Fr.keep (by assumption))⟩, rfl, by (simp only [Around.deeper, Around.in1]; decide), by (simp only [Around.deeper, Around.in1]; decide)⟩)) (by with_reducible assumption) (by with_reducible assumption) (by first | with_reducible assumption | omega) (by first | with_reducible assumption | omega) ?_; intro _ _ _ k9q; (have F8q := Fr.keepsK F9q k9q); (have N8q := News.keepsK N9q k9q); clear F9q N9q k9q)))) | ((k_dflt ((with_reducible show wpAny _ _ (call (Value.ref 94) _) _ _ _); (rename Fr _ _ _ _ => F9q); (rename News _ _ _ _ => N9q); (refine c_text (by (exact ⟨Frag.In.keeps (by assumption) (Fr.keep (by assumption)), ⟨_, _, _, _, _, Top.keeps (by assumption) (Fr.keep (by assumption))⟩, rfl, by (simp only [Around.deeper, Around.in1]; decide), by (simp only [Around.deeper, Around.in1]; decide)⟩)) (isList_news N9q (by k_memK)) (by with_reducible assumption) (by exact rfl) (by first | with_reducible assumption | omega) (by with_reducible assumption) (by with_reducible assumption) ?_; intro _ _ _ k9q; (have F8q := Fr.keepsK F9q k9q); (have N8q := News.keepsK N9q k9q); clear F9q N9q k9q)))) | ((with_reducible show wpAny _ _ (compareOp CmpOp.NotEq (Value.bytes _ _) (Value.bytes _ _)) _ _ _); (k_dflt (refine ne_same ?_))) | ((k_dflt ((with_reducible show wpAny _ _ (call (Value.ref 49) _) _ _ _); (refine c_ap (by (exact ⟨Frag.In.keeps (by assumption) (Fr.keep (by assumption)), ⟨_, _, _, _, _, Top.keeps (by assumption) (Fr.keep (by assumption))⟩, rfl, by (simp only [Around.deeper, Around.in1]; decide), by (simp only [Around.deeper, Around.in1]; decide)⟩)) (by with_reducible assumption) (by with_reducible assumption) (by with_reducible assumption) (by with_reducible assumption) ?_; intro _ _ _ k9q; (rename Fr _ _ _ _ => F9q); (rename News _ _ _ _ => N9q); (have F8q := Fr.keepsK F9q k9q); (have N8q := News.keepsK N9q k9q); clear F9q N9q k9q)))) | ((k_dflt ((with_reducible show wpAny _ _ (call (Value.ref 89) _) _ _ _); (rename Fr _ _ _ _ => F9q); (rename News _ _ _ _ => N9q); (refine c_number (by (exact ⟨Frag.In.keeps (by assumption) (Fr.keep (by assumption)), ⟨_, _, _, _, _, Top.keeps (by assumption) (Fr.keep (by assumption))⟩, rfl, by (simp only [Around.deeper, Around.in1]; decide), by (simp only [Around.deeper, Around.in1]; decide)⟩)) (isList_news N9q (by k_memK)) (by with_reducible assumption) ?_; intro _ _ _ k9q; (have F8q := Fr.keepsK F9q k9q); (have N8q := News.keepsK N9q k9q); clear F9q N9q k9q)))) | ((with_reducible show wpAny _ _ (subscriptTail (Expr.Name _ _) (Expr.Constant _ _ _) (Value.ref _) (Value.int _ _)) _ _ _); (k_dflt ((rename News _ _ _ _ => N9q); (refine at_listE (isList_news N9q (by k_memK)) (by with_reducible assumption) (by with_reducible assumption) (by rfl) (by omega) (by omega) ?_); intro _))) | ((k_dflt ((with_reducible show wpAny _ _ (call (Value.type _) [Value.ref _]) _ _ _); (refine list_range _ (by rfl) (by assumption) (by assumption) (by assumption) (by exact small_mine (by omega) (by omega) (by omega)) (by assumption) (by omega) ?_; intro _ _ _ _ _ _ l1q _ _; (try k_lt l1q))))) | ((k_dflt ((with_reducible show wpAny _ _ (call (Value.type _) [Value.int _ _, Value.int _ _, Value.int _ _]) _ _ _); (refine rng3 (by assumption) (by assumption) (by first | decide | omega) (by omega) ?_); intro _ _ _ _ _ _ _ _ _))) | ((k_dflt ((with_reducible show wpAny _ _ (call (Value.type _) [Value.int _ _, Value.int _ _]) _ _ _); (refine rng2 (by assumption) (by assumption) ?_); intro _ _ _ _ _ _ _ _ _))) | ((k_dflt ((with_reducible show wpAny _ _ (call (Value.builtin "len") [Value.ref _]) _ _ _); (rename News _ _ _ _ => N9q); (refine kda_len (knd := intKind PR _) N9q (by k_memK) (by with_reducible assumption) (by with_reducible assumption) (by omega) ?_)))) | ((k_dflt ((with_reducible show wpAny _ _ (binaryOp _ (Value.int (_ + 1) _) (Value.int 4 _)) _ _ _); (refine div_q2 (by exact fmod4 _) ?_)))) | walk1 | (dsimp only; walk1) | (leave1; try dsimp only))))
    rename Fr _ _ _ _ => F9
    rename News _ _ _ _ => N9
    refine' for_range (σ := Unit) (n / (ij + 2) - 1) (fun q => (((q + 1) * (ij + 2) : Nat) : Int)) ((lr, listOf vr.toArray kr) :: (I3, io3) :: (ld, listOf vd.toArray kd) :: (lu, listOf vu.toArray ku) :: (lD, listOf vsD.toArray kD) :: (s1.heap.objs.size + 1, oh) :: (s1.heap.objs.size + 1 + 1, o4) :: (d, od) :: rest) (fun _ => []) (fun _ => [(Str.ofString "j", .int ((ij + 2 : Nat) : Int) tj), (Str.ofString "size", .int (n : Int) t)])
      (fun _ _ => True) () ?hhK ?hrK ?hsK hrsq ?hgK F9 N9 ?hnewsK ?hp0K ?hjK ?turnK ?doneK
    case hhK => rfl
    case hrK => assumption
    case hsK => exact smallQ hn.2 (jin hij).2
    case hgK => exact fun q => kstep (ij + 2) q
    case hp0K => ((repeat' (first | exact List.forall_mem_nil _ | (refine List.forall_mem_cons.mpr ⟨by with_unfolding_all rfl, ?_⟩))))
    case hnewsK => rw [List.append_nil]; exact fun p hp => hp
    case hjK => trivial
    case turnK =>

      clear F9 N9
      rintro q tq - u8 h8 tk8 I4 io4 hq - hio4 F9 N9 - -
      rw [List.append_nil] at N9
      have hkq := mul_le hq
      have hon := hq1 (q + 1) (Nat.le_add_left 1 q) hkq
      generalize hkk : (q + 1) * (ij + 2) = kk at hkq hon F9
      (repeat' (first | (k_unfold; (try dsimp only)) | ((fail_if_success (with_reducible show wpAny _ _ (subscriptTail _ _ (Value.ref _) (Value.ref _)) _ _ _)); (fail_if_success (with_reducible show wpAny _ _ (PySem.call (PySem.Value.ref _) _) _ _ _)); first | ((with_reducible show wpAny _ _ (compareOp CmpOp.Eq (Value.ref _) (Value.ref _)) _ _ _); (k_dflt ((rename News _ _ _ _ => N9q); (first | (refine eq_nilT N9q (by k_memK) (by exact List.Mem.head _) (by with_reducible assumption) (by with_reducible assumption) (by (simp only [Around.deeper, Around.in1]; decide)) ?_) | (refine eq_nilF N9q (by k_memK) (by exact List.Mem.head _) (by with_reducible assumption) (by with_reducible assumption) (by (simp only [Around.deeper, Around.in1]; decide)) ?_))))) | ((with_reducible show wpAny _ _ (subscriptTail (Expr.Name _ _) (Expr.Name _ _) (Value.ref _) (Value.int _ _)) _ _ _); (k_dflt ((rename News _ _ _ _ => N9q); (refine kda_item (knd := intKind PR _) N9q (by k_memK) (by with_reducible assumption) (by exact intKind_is _ _ _ _) (by with_reducible assumption) ?_)))) | (((with_reducible show wpAny _ _ (eval (Expr.Name _ _) (compEnvC _ _ _ _)) _ _ _); k_dflt (first | (refine blk_C (by assumption) (by rfl) (by k_mem) (by assumption) ?_ (by rfl) (by rfl) (by decide)) | (refine blk_L (by assumption) (by rfl) (by assumption) ?_ (by rfl) (by rfl) (by decide))))) | ((with_reducible show wpAny _ _ (compareOp CmpOp.NotEq (Value.bool _) (Value.bool _)) _ _ _); (k_dflt (with_reducible refine ne_bsame ?_))) | ((k_dflt ((with_reducible show wpAny _ _ (call (Value.builtin "len") [Value.ref _]) _ _ _); (rename News _ _ _ _ => N9q); (refine len_news N9q (by k_memK) (by with_reducible assumption) (by first | with_reducible assumption | omega) ?_)))) | ((k_dflt ((with_reducible show wpAny _ _ (call (Value.ref 82) _) _ _ _); (rename Fr _ _ _ _ => F9q); (rename News _ _ _ _ => N9q); (refine c_neigh (by (exact ⟨Frag.In.keeps (by assumption) (Fr.keep (by assumption)), ⟨_, _, _, _, _, Top.keeps (by assumption) (Fr.keep (by assumption))⟩, rfl, by (simp only [Around.deeper, Around.in1]; decide), by (simp only [Around.deeper, Around.in1]; decide)⟩)) (isList_news N9q (by k_memK)) (by with_reducible assumption) (by omega) ?_; intro _ _ k9q; (have F8q := Fr.keepsK F9q k9q); (have N8q := News.keepsK N9q k9q); clear F9q N9q k9q)))) | ((k_dflt ((with_reducible show wpAny _ _ (call (Value.ref 28) _) _ _ _); (rename Fr _ _ _ _ => F9q); (rename News _ _ _ _ => N9q); (refine c_lev (by (exact ⟨Frag.In.keeps (by assumption) (Fr.keep (by assumption)), ⟨_, _, _, _, _, Top.keeps (by assumption) (Fr.keep (by assumption))⟩, rfl, by (simp only [Around.deeper, Around.in1]; decide), by (simp only [Around.deeper, Around.in1]; decide)⟩)) (by with_reducible assumption) (by with_reducible assumption) (by first | with_reducible assumption | omega) (by first | with_reducible assumption | omega) ?_; intro _ _ _ k9q; (have F8q := Fr.keepsK F9q k9q); (have N8q := News.keepsK N9q k9q); clear F9q N9q k9q)))) | ((k_dflt ((with_reducible show wpAny _ _ (call (Value.ref 94) _) _ _ _); (rename Fr _ _ _ _ => F9q); (rename News _ _ _ _ => N9q); (refine c_text (by (exact ⟨Frag.In.keeps (by assumption) (Fr.keep (by assumption)), ⟨_, _, _, _, _, Top.keeps (by assumption) (Fr.keep (by assumption))⟩, rfl, by (simp only [Around.deeper, Around.in1]; decide), by (simp only [Around.deeper, Around.in1]; decide)⟩)) (isList_news N9q (by k_memK)) (by with_reducible assumption) (by exact rfl) (by first | with_reducible assumption | omega) (by with_reducible assumption) (by with_reducible assumption) ?_; intro _ _ _ k9q; (have F8q := Fr.keepsK F9q k9q); (have N8q := News.keepsK N9q k9q); clear F9q N9q k9q)))) | ((with_reducible show wpAny _ _ (compareOp CmpOp.NotEq (Value.bytes _ _) (Value.bytes _ _)) _ _ _); (k_dflt (refine ne_same ?_))) | ((k_dflt ((with_reducible show wpAny _ _ (call (Value.ref 49) _) _ _ _); (refine c_ap (by (exact ⟨Frag.In.keeps (by assumption) (Fr.keep (by assumption)), ⟨_, _, _, _, _, Top.keeps (by assumption) (Fr.keep (by assumption))⟩, rfl, by (simp only [Around.deeper, Around.in1]; decide), by (simp only [Around.deeper, Around.in1]; decide)⟩)) (by with_reducible assumption) (by with_reducible assumption) (by with_reducible assumption) (by with_reducible assumption) ?_; intro _ _ _ k9q; (rename Fr _ _ _ _ => F9q); (rename News _ _ _ _ => N9q); (have F8q := Fr.keepsK F9q k9q); (have N8q := News.keepsK N9q k9q); clear F9q N9q k9q)))) | ((k_dflt ((with_reducible show wpAny _ _ (call (Value.ref 89) _) _ _ _); (rename Fr _ _ _ _ => F9q); (rename News _ _ _ _ => N9q); (refine c_number (by (exact ⟨Frag.In.keeps (by assumption) (Fr.keep (by assumption)), ⟨_, _, _, _, _, Top.keeps (by assumption) (Fr.keep (by assumption))⟩, rfl, by (simp only [Around.deeper, Around.in1]; decide), by (simp only [Around.deeper, Around.in1]; decide)⟩)) (isList_news N9q (by k_memK)) (by with_reducible assumption) ?_; intro _ _ _ k9q; (have F8q := Fr.keepsK F9q k9q); (have N8q := News.keepsK N9q k9q); clear F9q N9q k9q)))) | ((with_reducible show wpAny _ _ (subscriptTail (Expr.Name _ _) (Expr.Constant _ _ _) (Value.ref _) (Value.int _ _)) _ _ _); (k_dflt ((rename News _ _ _ _ => N9q); (refine at_listE (isList_news N9q (by k_memK)) (by with_reducible assumption) (by with_reducible assumption) (by rfl) (by omega) (by omega) ?_); intro _))) | ((k_dflt ((with_reducible show wpAny _ _ (call (Value.type _) [Value.ref _]) _ _ _); (refine list_range _ (by rfl) (by assumption) (by assumption) (by assumption) (by exact small_mine (by omega) (by omega) (by omega)) (by assumption) (by omega) ?_; intro _ _ _ _ _ _ l1q _ _; (try k_lt l1q))))) | ((k_dflt ((with_reducible show wpAny _ _ (call (Value.type _) [Value.int _ _, Value.int _ _, Value.int _ _]) _ _ _); (refine rng3 (by assumption) (by assumption) (by first | decide | omega) (by omega) ?_); intro _ _ _ _ _ _ _ _ _))) | ((k_dflt ((with_reducible show wpAny _ _ (call (Value.type _) [Value.int _ _, Value.int _ _]) _ _ _); (refine rng2 (by assumption) (by assumption) ?_); intro _ _ _ _ _ _ _ _ _))) | ((k_dflt ((with_reducible show wpAny _ _ (call (Value.builtin "len") [Value.ref _]) _ _ _); (rename News _ _ _ _ => N9q); (refine kda_len (knd := intKind PR _) N9q (by k_memK) (by with_reducible assumption) (by with_reducible assumption) (by omega) ?_)))) | ((k_dflt ((with_reducible show wpAny _ _ (binaryOp _ (Value.int (_ + 1) _) (Value.int 4 _)) _ _ _); (refine div_q2 (by exact fmod4 _) ?_)))) | walk1 | (dsimp only; walk1) | (leave1; try dsimp only))))
      rename Fr _ _ _ _ => F9
      rename News _ _ _ _ => N9
      refine cutL (s := ⟨_, _, _, _, _⟩) F9 N9 (isList_news N9 (by k_memK)) hiD (by constructor) (by constructor) (pick_midE hiD (k := kk) (j := ij + 2) rfl rfl (Nat.le_trans hkq (Nat.le_of_eq hcl.symm))) (c1000 hcl hn.2) ?_
      intro Dc hc ws kk1 hiw Fc Nc hltc
      clear F9 N9 kk1 hltc
      (repeat' (first | (k_unfold; (try dsimp only)) | ((fail_if_success (with_reducible show wpAny _ _ (subscriptTail _ _ (Value.ref _) (Value.ref _)) _ _ _)); (fail_if_success (with_reducible show wpAny _ _ (PySem.call (PySem.Value.ref _) _) _ _ _)); first | ((with_reducible show wpAny _ _ (compareOp CmpOp.Eq (Value.ref _) (Value.ref _)) _ _ _); (k_dflt ((rename News _ _ _ _ => N9q); (first | (refine eq_nilT N9q (by k_memK) (by exact List.Mem.head _) (by with_reducible assumption) (by with_reducible assumption) (by (simp only [Around.deeper, Around.in1]; decide)) ?_) | (refine eq_nilF N9q (by k_memK) (by exact List.Mem.head _) (by with_reducible assumption) (by with_reducible assumption) (by (simp only [Around.deeper, Around.in1]; decide)) ?_))))) | ((with_reducible show wpAny _ _ (subscriptTail (Expr.Name _ _) (Expr.Name _ _) (Value.ref _) (Value.int _ _)) _ _ _); (k_dflt ((rename News _ _ _ _ => N9q); (refine kda_item (knd := intKind PR _) N9q (by k_memK) (by with_reducible assumption) (by exact intKind_is _ _ _ _) (by with_reducible assumption) ?_)))) | (((with_reducible show wpAny _ _ (eval (Expr.Name _ _) (compEnvC _ _ _ _)) _ _ _); k_dflt (first | (refine blk_C (by assumption) (by rfl) (by k_mem) (by assumption) ?_ (by rfl) (by rfl) (by decide)) | (refine blk_L (by assumption) (by rfl) (by assumption) ?_ (by rfl) (by rfl) (by decide))))) | ((with_reducible show wpAny _ _ (compareOp CmpOp.NotEq (Value.bool _) (Value.bool _)) _ _ _); (k_dflt (with_reducible refine ne_bsame ?_))) | ((k_dflt ((with_reducible show wpAny _ _ (call (Value.builtin "len") [Value.ref _]) _ _ _); (rename News _ _ _ _ => N9q); (refine len_news N9q (by k_memK) (by with_reducible assumption) (by first | with_reducible assumption | omega) ?_)))) | ((k_dflt ((with_reducible show wpAny _ _ (call (Value.ref 82) _) _ _ _); (rename Fr _ _ _ _ => F9q); (rename News _ _ _ _ => N9q); (refine c_neigh (by (exact ⟨Frag.In.keeps (by assumption) (Fr.keep (by assumption)), ⟨_, _, _, _, _, Top.keeps (by assumption) (Fr.keep (by assumption))⟩, rfl, by (simp only [Around.deeper, Around.in1]; decide), by (simp only [Around.deeper, Around.in1]; decide)⟩)) (isList_news N9q (by k_memK)) (by with_reducible assumption) (by omega) ?_; intro _ _ k9q; (have F8q := Fr.keepsK F9q k9q); (have N8q := News.keepsK N9q k9q); clear F9q N9q k9q)))) | ((k_dflt ((with_reducible show wpAny _ _ (call (Value.ref 28) _) _ _ _); (rename Fr _ _ _ _ => F9q); (rename News _ _ _ _ => N9q); (refine c_lev (by (exact ⟨Frag.In.keeps (by assumption) (Fr.keep (by assumption)), ⟨_, _, _, _, _, Top.keeps (by assumption) (Fr.keep (by assumption))⟩, rfl, by (simp only [Around.deeper, Around.in1]; decide), by (simp only [Around.deeper, Around.in1]; decide)⟩)) (by with_reducible assumption) (by with_reducible assumption) (by first | with_reducible assumption | omega) (by first | with_reducible assumption | omega) ?_; intro _ _ _ k9q; (have F8q := Fr.keepsK F9q k9q); (have N8q := News.keepsK N9q k9q); clear F9q N9q k9q)))) | ((k_dflt ((with_reducible show wpAny _ _ (call (Value.ref 94) _) _ _ _); (rename Fr _ _ _ _ => F9q); (rename News _ _ _ _ => N9q); (refine c_text (by (exact ⟨Frag.In.keeps (by assumption) (Fr.keep (by assumption)), ⟨_, _, _, _, _, Top.keeps (by assumption) (Fr.keep (by assumption))⟩, rfl, by (simp only [Around.deeper, Around.in1]; decide), by (simp only [Around.deeper, Around.in1]; decide)⟩)) (isList_news N9q (by k_memK)) (by with_reducible assumption) (by exact rfl) (by first | with_reducible assumption | omega) (by with_reducible assumption) (by with_reducible assumption) ?_; intro _ _ _ k9q; (have F8q := Fr.keepsK F9q k9q); (have N8q := News.keepsK N9q k9q); clear F9q N9q k9q)))) | ((with_reducible show wpAny _ _ (compareOp CmpOp.NotEq (Value.bytes _ _) (Value.bytes _ _)) _ _ _); (k_dflt (refine ne_same ?_))) | ((k_dflt ((with_reducible show wpAny _ _ (call (Value.ref 49) _) _ _ _); (refine c_ap (by (exact ⟨Frag.In.keeps (by assumption) (Fr.keep (by assumption)), ⟨_, _, _, _, _, Top.keeps (by assumption) (Fr.keep (by assumption))⟩, rfl, by (simp only [Around.deeper, Around.in1]; decide), by (simp only [Around.deeper, Around.in1]; decide)⟩)) (by with_reducible assumption) (by with_reducible assumption) (by with_reducible assumption) (by with_reducible assumption) ?_; intro _ _ _ k9q; (rename Fr _ _ _ _ => F9q); (rename News _ _ _ _ => N9q); (have F8q := Fr.keepsK F9q k9q); (have N8q := News.keepsK N9q k9q); clear F9q N9q k9q)))) | ((k_dflt ((with_reducible show wpAny _ _ (call (Value.ref 89) _) _ _ _); (rename Fr _ _ _ _ => F9q); (rename News _ _ _ _ => N9q); (refine c_number (by (exact ⟨Frag.In.keeps (by assumption) (Fr.keep (by assumption)), ⟨_, _, _, _, _, Top.keeps (by assumption) (Fr.keep (by assumption))⟩, rfl, by (simp only [Around.deeper, Around.in1]; decide), by (simp only [Around.deeper, Around.in1]; decide)⟩)) (isList_news N9q (by k_memK)) (by with_reducible assumption) ?_; intro _ _ _ k9q; (have F8q := Fr.keepsK F9q k9q); (have N8q := News.keepsK N9q k9q); clear F9q N9q k9q)))) | ((with_reducible show wpAny _ _ (subscriptTail (Expr.Name _ _) (Expr.Constant _ _ _) (Value.ref _) (Value.int _ _)) _ _ _); (k_dflt ((rename News _ _ _ _ => N9q); (refine at_listE (isList_news N9q (by k_memK)) (by with_reducible assumption) (by with_reducible assumption) (by rfl) (by omega) (by omega) ?_); intro _))) | ((k_dflt ((with_reducible show wpAny _ _ (call (Value.type _) [Value.ref _]) _ _ _); (refine list_range _ (by rfl) (by assumption) (by assumption) (by assumption) (by exact small_mine (by omega) (by omega) (by omega)) (by assumption) (by omega) ?_; intro _ _ _ _ _ _ l1q _ _; (try k_lt l1q))))) | ((k_dflt ((with_reducible show wpAny _ _ (call (Value.type _) [Value.int _ _, Value.int _ _, Value.int _ _]) _ _ _); (refine rng3 (by assumption) (by assumption) (by first | decide | omega) (by omega) ?_); intro _ _ _ _ _ _ _ _ _))) | ((k_dflt ((with_reducible show wpAny _ _ (call (Value.type _) [Value.int _ _, Value.int _ _]) _ _ _); (refine rng2 (by assumption) (by assumption) ?_); intro _ _ _ _ _ _ _ _ _))) | ((k_dflt ((with_reducible show wpAny _ _ (call (Value.builtin "len") [Value.ref _]) _ _ _); (rename News _ _ _ _ => N9q); (refine kda_len (knd := intKind PR _) N9q (by k_memK) (by with_reducible assumption) (by with_reducible assumption) (by omega) ?_)))) | ((k_dflt ((with_reducible show wpAny _ _ (binaryOp _ (Value.int (_ + 1) _) (Value.int 4 _)) _ _ _); (refine div_q2 (by exact fmod4 _) ?_)))) | walk1 | (dsimp only; walk1) | (leave1; try dsimp only))))
      rename News _ _ _ _ => Nc
      refine c_once ?Cg2 (isList_news Nc (.head _)) hiw (take8 (Nat.le_trans (jin hij).2 hn.2)) (isList_news Nc (k := kr) (by k_memK)) hir (by rw [rowL_length]; exact Nat.le_trans hn.2 (by decide)) (fun z hz => by have := hcast z (List.mem_of_mem_drop (List.mem_of_mem_take hz)); rw [rowL_length]; exact this) (Nat.le_trans (Nat.le_trans (jin hij).2 hn.2) (by decide)) ?_
      case Cg2 => (exact ⟨Frag.In.keeps (by assumption) (Fr.keep (by assumption)), ⟨_, _, _, _, _, Top.keeps (by assumption) (Fr.keep (by assumption))⟩, rfl, by (simp only [Around.deeper, Around.in1]; decide), by (simp only [Around.deeper, Around.in1]; decide)⟩)
      intro hg tkg kk2
      have Fg := Fr.keepsK Fc kk2
      have Ng := News.keepsK Nc kk2
      clear Fc Nc kk2
      rw [hon]
      (repeat' (first | (k_unfold; (try dsimp only)) | ((fail_if_success (with_reducible show wpAny _ _ (subscriptTail _ _ (Value.ref _) (Value.ref _)) _ _ _)); (fail_if_success (with_reducible show wpAny _ _ (PySem.call (PySem.Value.ref _) _) _ _ _)); first | ((with_reducible show wpAny _ _ (compareOp CmpOp.Eq (Value.ref _) (Value.ref _)) _ _ _); (k_dflt ((rename News _ _ _ _ => N9q); (first | (refine eq_nilT N9q (by k_memK) (by exact List.Mem.head _) (by with_reducible assumption) (by with_reducible assumption) (by (simp only [Around.deeper, Around.in1]; decide)) ?_) | (refine eq_nilF N9q (by k_memK) (by exact List.Mem.head _) (by with_reducible assumption) (by with_reducible assumption) (by (simp only [Around.deeper, Around.in1]; decide)) ?_))))) | ((with_reducible show wpAny _ _ (subscriptTail (Expr.Name _ _) (Expr.Name _ _) (Value.ref _) (Value.int _ _)) _ _ _); (k_dflt ((rename News _ _ _ _ => N9q); (refine kda_item (knd := intKind PR _) N9q (by k_memK) (by with_reducible assumption) (by exact intKind_is _ _ _ _) (by with_reducible assumption) ?_)))) | (((with_reducible show wpAny _ _ (eval (Expr.Name _ _) (compEnvC _ _ _ _)) _ _ _); k_dflt (first | (refine blk_C (by assumption) (by rfl) (by k_mem) (by assumption) ?_ (by rfl) (by rfl) (by decide)) | (refine blk_L (by assumption) (by rfl) (by assumption) ?_ (by rfl) (by rfl) (by decide))))) | ((with_reducible show wpAny _ _ (compareOp CmpOp.NotEq (Value.bool _) (Value.bool _)) _ _ _); (k_dflt (with_reducible refine ne_bsame ?_))) | ((k_dflt ((with_reducible show wpAny _ _ (call (Value.builtin "len") [Value.ref _]) _ _ _); (rename News _ _ _ _ => N9q); (refine len_news N9q (by k_memK) (by with_reducible assumption) (by first | with_reducible assumption | omega) ?_)))) | ((k_dflt ((with_reducible show wpAny _ _ (call (Value.ref 82) _) _ _ _); (rename Fr _ _ _ _ => F9q); (rename News _ _ _ _ => N9q); (refine c_neigh (by (exact ⟨Frag.In.keeps (by assumption) (Fr.keep (by assumption)), ⟨_, _, _, _, _, Top.keeps (by assumption) (Fr.keep (by assumption))⟩, rfl, by (simp only [Around.deeper, Around.in1]; decide), by (simp only [Around.deeper, Around.in1]; decide)⟩)) (isList_news N9q (by k_memK)) (by with_reducible assumption) (by omega) ?_; intro _ _ k9q; (have F8q := Fr.keepsK F9q k9q); (have N8q := News.keepsK N9q k9q); clear F9q N9q k9q)))) | ((k_dflt ((with_reducible show wpAny _ _ (call (Value.ref 28) _) _ _ _); (rename Fr _ _ _ _ => F9q); (rename News _ _ _ _ => N9q); (refine c_lev (by (exact ⟨Frag.In.keeps (by assumption) (Fr.keep (by assumption)), ⟨_, _, _, _, _, Top.keeps (by assumption) (Fr.keep (by assumption))⟩, rfl, by (simp only [Around.deeper, Around.in1]; decide), by (simp only [Around.deeper, Around.in1]; decide)⟩)) (by with_reducible assumption) (by with_reducible assumption) (by first | with_reducible assumption | omega) (by first | with_reducible assumption | omega) ?_; intro _ _ _ k9q; (have F8q := Fr.keepsK F9q k9q); (have N8q := News.keepsK N9q k9q); clear F9q N9q k9q)))) | ((k_dflt ((with_reducible show wpAny _ _ (call (Value.ref 94) _) _ _ _); (rename Fr _ _ _ _ => F9q); (rename News _ _ _ _ => N9q); (refine c_text (by (exact ⟨Frag.In.keeps (by assumption) (Fr.keep (by assumption)), ⟨_, _, _, _, _, Top.keeps (by assumption) (Fr.keep (by assumption))⟩, rfl, by (simp only [Around.deeper, Around.in1]; decide), by (simp only [Around.deeper, Around.in1]; decide)⟩)) (isList_news N9q (by k_memK)) (by with_reducible assumption) (by exact rfl) (by first | with_reducible assumption | omega) (by with_reducible assumption) (by with_reducible assumption) ?_; intro _ _ _ k9q; (have F8q := Fr.keepsK F9q k9q); (have N8q := News.keepsK N9q k9q); clear F9q N9q k9q)))) | ((with_reducible show wpAny _ _ (compareOp CmpOp.NotEq (Value.bytes _ _) (Value.bytes _ _)) _ _ _); (k_dflt (refine ne_same ?_))) | ((k_dflt ((with_reducible show wpAny _ _ (call (Value.ref 49) _) _ _ _); (refine c_ap (by (exact ⟨Frag.In.keeps (by assumption) (Fr.keep (by assumption)), ⟨_, _, _, _, _, Top.keeps (by assumption) (Fr.keep (by assumption))⟩, rfl, by (simp only [Around.deeper, Around.in1]; decide), by (simp only [Around.deeper, Around.in1]; decide)⟩)) (by with_reducible assumption) (by with_reducible assumption) (by with_reducible assumption) (by with_reducible assumption) ?_; intro _ _ _ k9q; (rename Fr _ _ _ _ => F9q); (rename News _ _ _ _ => N9q); (have F8q := Fr.keepsK F9q k9q); (have N8q := News.keepsK N9q k9q); clear F9q N9q k9q)))) | ((k_dflt ((with_reducible show wpAny _ _ (call (Value.ref 89) _) _ _ _); (rename Fr _ _ _ _ => F9q); (rename News _ _ _ _ => N9q); (refine c_number (by (exact ⟨Frag.In.keeps (by assumption) (Fr.keep (by assumption)), ⟨_, _, _, _, _, Top.keeps (by assumption) (Fr.keep (by assumption))⟩, rfl, by (simp only [Around.deeper, Around.in1]; decide), by (simp only [Around.deeper, Around.in1]; decide)⟩)) (isList_news N9q (by k_memK)) (by with_reducible assumption) ?_; intro _ _ _ k9q; (have F8q := Fr.keepsK F9q k9q); (have N8q := News.keepsK N9q k9q); clear F9q N9q k9q)))) | ((with_reducible show wpAny _ _ (subscriptTail (Expr.Name _ _) (Expr.Constant _ _ _) (Value.ref _) (Value.int _ _)) _ _ _); (k_dflt ((rename News _ _ _ _ => N9q); (refine at_listE (isList_news N9q (by k_memK)) (by with_reducible assumption) (by with_reducible assumption) (by rfl) (by omega) (by omega) ?_); intro _))) | ((k_dflt ((with_reducible show wpAny _ _ (call (Value.type _) [Value.ref _]) _ _ _); (refine list_range _ (by rfl) (by assumption) (by assumption) (by assumption) (by exact small_mine (by omega) (by omega) (by omega)) (by assumption) (by omega) ?_; intro _ _ _ _ _ _ l1q _ _; (try k_lt l1q))))) | ((k_dflt ((with_reducible show wpAny _ _ (call (Value.type _) [Value.int _ _, Value.int _ _, Value.int _ _]) _ _ _); (refine rng3 (by assumption) (by assumption) (by first | decide | omega) (by omega) ?_); intro _ _ _ _ _ _ _ _ _))) | ((k_dflt ((with_reducible show wpAny _ _ (call (Value.type _) [Value.int _ _, Value.int _ _]) _ _ _); (refine rng2 (by assumption) (by assumption) ?_); intro _ _ _ _ _ _ _ _ _))) | ((k_dflt ((with_reducible show wpAny _ _ (call (Value.builtin "len") [Value.ref _]) _ _ _); (rename News _ _ _ _ => N9q); (refine kda_len (knd := intKind PR _) N9q (by k_memK) (by with_reducible assumption) (by with_reducible assumption) (by omega) ?_)))) | ((k_dflt ((with_reducible show wpAny _ _ (binaryOp _ (Value.int (_ + 1) _) (Value.int 4 _)) _ _ _); (refine div_q2 (by exact fmod4 _) ?_)))) | walk1 | (dsimp only; walk1) | (leave1; try dsimp only))))
      refine' TurnP.next () ?FyK ?NyK ?nyK ?cyK ?hpyK ?PyK
      case FyK => assumption
      case NyK => assumption
      case nyK => exact fun p hp => .tail _ (by rw [List.append_nil] at hp; exact hp)
      case cyK => exact List.forall_mem_nil _
      case hpyK => ((repeat' (first | exact List.forall_mem_nil _ | (refine List.forall_mem_cons.mpr ⟨by with_unfolding_all rfl, ?_⟩))))
      case PyK => trivial

    case doneK =>
    clear F9 N9
    rintro - u8 h8 tk8 - F9 N9
    rw [List.append_nil] at N9
    have hxv : (castsI ds).getD (((ij + 2 : Nat) : Int) - 1).toNat 0 = ((ds.getD (ij + 1) 0 : Nat) : Int) ∧ 1 ≤ ds.getD (ij + 1) 0 ∧ ds.getD (ij + 1) 0 ≤ n := card_at hds (jsub ij) (jlt hij)
    have hrlen := rowL_length n (ij + 2)
    have htl : ((castsI ds).take (ij + 1)).length = ij + 1 := by rw [List.length_take, hcl]; exact Nat.min_eq_left (Nat.le_of_lt (jlt hij))
    (repeat' (first | (k_unfold; (try dsimp only)) | ((fail_if_success (with_reducible show wpAny _ _ (subscriptTail _ _ (Value.ref _) (Value.ref _)) _ _ _)); (fail_if_success (with_reducible show wpAny _ _ (subscriptTail _ (PySem.Expr.BinOp _ _ _ _) (Value.ref _) (Value.int _ _)) _ _ _)); (fail_if_success (with_reducible show wpAny _ _ (PySem.exec (PySem.Stmt.Return (some (PySem.Expr.Constant (PySem.Const.bool false) _ _)) _) _) _ _ _)); first | ((with_reducible show wpAny _ _ (compareOp CmpOp.Eq (Value.ref _) (Value.ref _)) _ _ _); (k_dflt ((rename News _ _ _ _ => N9q); (first | (refine eq_nilT N9q (by k_memK) (by exact List.Mem.head _) (by with_reducible assumption) (by with_reducible assumption) (by (simp only [Around.deeper, Around.in1]; decide)) ?_) | (refine eq_nilF N9q (by k_memK) (by exact List.Mem.head _) (by with_reducible assumption) (by with_reducible assumption) (by (simp only [Around.deeper, Around.in1]; decide)) ?_))))) | ((with_reducible show wpAny _ _ (subscriptTail (Expr.Name _ _) (Expr.Name _ _) (Value.ref _) (Value.int _ _)) _ _ _); (k_dflt ((rename News _ _ _ _ => N9q); (refine kda_item (knd := intKind PR _) N9q (by k_memK) (by with_reducible assumption) (by exact intKind_is _ _ _ _) (by with_reducible assumption) ?_)))) | (((with_reducible show wpAny _ _ (eval (Expr.Name _ _) (compEnvC _ _ _ _)) _ _ _); k_dflt (first | (refine blk_C (by assumption) (by rfl) (by k_mem) (by assumption) ?_ (by rfl) (by rfl) (by decide)) | (refine blk_L (by assumption) (by rfl) (by assumption) ?_ (by rfl) (by rfl) (by decide))))) | ((with_reducible show wpAny _ _ (compareOp CmpOp.NotEq (Value.bool _) (Value.bool _)) _ _ _); (k_dflt (with_reducible refine ne_bsame ?_))) | ((k_dflt ((with_reducible show wpAny _ _ (call (Value.builtin "len") [Value.ref _]) _ _ _); (rename News _ _ _ _ => N9q); (refine len_news N9q (by k_memK) (by with_reducible assumption) (by first | with_reducible assumption | omega) ?_)))) | ((k_dflt ((with_reducible show wpAny _ _ (call (Value.ref 82) _) _ _ _); (rename Fr _ _ _ _ => F9q); (rename News _ _ _ _ => N9q); (refine c_neigh (by (exact ⟨Frag.In.keeps (by assumption) (Fr.keep (by assumption)), ⟨_, _, _, _, _, Top.keeps (by assumption) (Fr.keep (by assumption))⟩, rfl, by (simp only [Around.deeper, Around.in1]; decide), by (simp only [Around.deeper, Around.in1]; decide)⟩)) (isList_news N9q (by k_memK)) (by with_reducible assumption) (by omega) ?_; intro _ _ k9q; (have F8q := Fr.keepsK F9q k9q); (have N8q := News.keepsK N9q k9q); clear F9q N9q k9q)))) | ((k_dflt ((with_reducible show wpAny _ _ (call (Value.ref 28) _) _ _ _); (rename Fr _ _ _ _ => F9q); (rename News _ _ _ _ => N9q); (refine c_lev (by (exact ⟨Frag.In.keeps (by assumption) (Fr.keep (by assumption)), ⟨_, _, _, _, _, Top.keeps (by assumption) (Fr.keep (by assumption))⟩, rfl, by (simp only [Around.deeper, Around.in1]; decide), by (simp only [Around.deeper, Around.in1]; decide)⟩)) (by with_reducible assumption) (by with_reducible assumption) (by first | with_reducible assumption | omega) (by first | with_reducible assumption | omega) ?_; intro _ _ _ k9q; (have F8q := Fr.keepsK F9q k9q); (have N8q := News.keepsK N9q k9q); clear F9q N9q k9q)))) | ((k_dflt ((with_reducible show wpAny _ _ (call (Value.ref 94) _) _ _ _); (rename Fr _ _ _ _ => F9q); (rename News _ _ _ _ => N9q); (refine c_text (by (exact ⟨Frag.In.keeps (by assumption) (Fr.keep (by assumption)), ⟨_, _, _, _, _, Top.keeps (by assumption) (Fr.keep (by assumption))⟩, rfl, by (simp only [Around.deeper, Around.in1]; decide), by (simp only [Around.deeper, Around.in1]; decide)⟩)) (isList_news N9q (by k_memK)) (by with_reducible assumption) (by exact rfl) (by first | with_reducible assumption | omega) (by with_reducible assumption) (by with_reducible assumption) ?_; intro _ _ _ k9q; (have F8q := Fr.keepsK F9q k9q); (have N8q := News.keepsK N9q k9q); clear F9q N9q k9q)))) | ((with_reducible show wpAny _ _ (compareOp CmpOp.NotEq (Value.bytes _ _) (Value.bytes _ _)) _ _ _); (k_dflt (refine ne_same ?_))) | ((k_dflt ((with_reducible show wpAny _ _ (call (Value.ref 49) _) _ _ _); (refine c_ap (by (exact ⟨Frag.In.keeps (by assumption) (Fr.keep (by assumption)), ⟨_, _, _, _, _, Top.keeps (by assumption) (Fr.keep (by assumption))⟩, rfl, by (simp only [Around.deeper, Around.in1]; decide), by (simp only [Around.deeper, Around.in1]; decide)⟩)) (by with_reducible assumption) (by with_reducible assumption) (by with_reducible assumption) (by with_reducible assumption) ?_; intro _ _ _ k9q; (rename Fr _ _ _ _ => F9q); (rename News _ _ _ _ => N9q); (have F8q := Fr.keepsK F9q k9q); (have N8q := News.keepsK N9q k9q); clear F9q N9q k9q)))) | ((k_dflt ((with_reducible show wpAny _ _ (call (Value.ref 89) _) _ _ _); (rename Fr _ _ _ _ => F9q); (rename News _ _ _ _ => N9q); (refine c_number (by (exact ⟨Frag.In.keeps (by assumption) (Fr.keep (by assumption)), ⟨_, _, _, _, _, Top.keeps (by assumption) (Fr.keep (by assumption))⟩, rfl, by (simp only [Around.deeper, Around.in1]; decide), by (simp only [Around.deeper, Around.in1]; decide)⟩)) (isList_news N9q (by k_memK)) (by with_reducible assumption) ?_; intro _ _ _ k9q; (have F8q := Fr.keepsK F9q k9q); (have N8q := News.keepsK N9q k9q); clear F9q N9q k9q)))) | ((with_reducible show wpAny _ _ (subscriptTail (Expr.Name _ _) (Expr.Constant _ _ _) (Value.ref _) (Value.int _ _)) _ _ _); (k_dflt ((rename News _ _ _ _ => N9q); (refine at_listE (isList_news N9q (by k_memK)) (by with_reducible assumption) (by with_reducible assumption) (by rfl) (by omega) (by omega) ?_); intro _))) | ((k_dflt ((with_reducible show wpAny _ _ (call (Value.type _) [Value.ref _]) _ _ _); (refine list_range _ (by rfl) (by assumption) (by assumption) (by assumption) (by exact small_mine (by omega) (by omega) (by omega)) (by assumption) (by omega) ?_; intro _ _ _ _ _ _ l1q _ _; (try k_lt l1q))))) | ((k_dflt ((with_reducible show wpAny _ _ (call (Value.type _) [Value.int _ _, Value.int _ _, Value.int _ _]) _ _ _); (refine rng3 (by assumption) (by assumption) (by first | decide | omega) (by omega) ?_); intro _ _ _ _ _ _ _ _ _))) | ((k_dflt ((with_reducible show wpAny _ _ (call (Value.type _) [Value.int _ _, Value.int _ _]) _ _ _); (refine rng2 (by assumption) (by assumption) ?_); intro _ _ _ _ _ _ _ _ _))) | ((k_dflt ((with_reducible show wpAny _ _ (call (Value.builtin "len") [Value.ref _]) _ _ _); (rename News _ _ _ _ => N9q); (refine kda_len (knd := intKind PR _) N9q (by k_memK) (by with_reducible assumption) (by with_reducible assumption) (by omega) ?_)))) | ((k_dflt ((with_reducible show wpAny _ _ (binaryOp _ (Value.int (_ + 1) _) (Value.int 4 _)) _ _ _); (refine div_q2 (by exact fmod4 _) ?_)))) | walk1 | (dsimp only; walk1) | (leave1; try dsimp only))))
    rename Fr _ _ _ _ => F9
    rename News _ _ _ _ => N9
    refine cutL (s := ⟨_, _, _, _, _⟩) F9 N9 (isList_news N9 (by k_memK)) hiD (by constructor) (by constructor) (pick_toE hiD (j := ij + 1) (jint ij) (hcl ▸ Nat.le_of_lt (jlt hij))) (c1000 hcl hn.2) ?_
    intro Dc hc ws kk1 hiw Fc Nc hltc
    clear F9 N9 kk1
    (repeat' (first | (k_unfold; (try dsimp only)) | ((fail_if_success (with_reducible show wpAny _ _ (subscriptTail _ _ (Value.ref _) (Value.ref _)) _ _ _)); (fail_if_success (with_reducible show wpAny _ _ (subscriptTail _ (PySem.Expr.BinOp _ _ _ _) (Value.ref _) (Value.int _ _)) _ _ _)); (fail_if_success (with_reducible show wpAny _ _ (PySem.exec (PySem.Stmt.Return (some (PySem.Expr.Constant (PySem.Const.bool false) _ _)) _) _) _ _ _)); first | ((with_reducible show wpAny _ _ (compareOp CmpOp.Eq (Value.ref _) (Value.ref _)) _ _ _); (k_dflt ((rename News _ _ _ _ => N9q); (first | (refine eq_nilT N9q (by k_memK) (by exact List.Mem.head _) (by with_reducible assumption) (by with_reducible assumption) (by (simp only [Around.deeper, Around.in1]; decide)) ?_) | (refine eq_nilF N9q (by k_memK) (by exact List.Mem.head _) (by with_reducible assumption) (by with_reducible assumption) (by (simp only [Around.deeper, Around.in1]; decide)) ?_))))) | ((with_reducible show wpAny _ _ (subscriptTail (Expr.Name _ _) (Expr.Name _ _) (Value.ref _) (Value.int _ _)) _ _ _); (k_dflt ((rename News _ _ _ _ => N9q); (refine kda_item (knd := intKind PR _) N9q (by k_memK) (by with_reducible assumption) (by exact intKind_is _ _ _ _) (by with_reducible assumption) ?_)))) | (((with_reducible show wpAny _ _ (eval (Expr.Name _ _) (compEnvC _ _ _ _)) _ _ _); k_dflt (first | (refine blk_C (by assumption) (by rfl) (by k_mem) (by assumption) ?_ (by rfl) (by rfl) (by decide)) | (refine blk_L (by assumption) (by rfl) (by assumption) ?_ (by rfl) (by rfl) (by decide))))) | ((with_reducible show wpAny _ _ (compareOp CmpOp.NotEq (Value.bool _) (Value.bool _)) _ _ _); (k_dflt (with_reducible refine ne_bsame ?_))) | ((k_dflt ((with_reducible show wpAny _ _ (call (Value.builtin "len") [Value.ref _]) _ _ _); (rename News _ _ _ _ => N9q); (refine len_news N9q (by k_memK) (by with_reducible assumption) (by first | with_reducible assumption | omega) ?_)))) | ((k_dflt ((with_reducible show wpAny _ _ (call (Value.ref 82) _) _ _ _); (rename Fr _ _ _ _ => F9q); (rename News _ _ _ _ => N9q); (refine c_neigh (by (exact ⟨Frag.In.keeps (by assumption) (Fr.keep (by assumption)), ⟨_, _, _, _, _, Top.keeps (by assumption) (Fr.keep (by assumption))⟩, rfl, by (simp only [Around.deeper, Around.in1]; decide), by (simp only [Around.deeper, Around.in1]; decide)⟩)) (isList_news N9q (by k_memK)) (by with_reducible assumption) (by omega) ?_; intro _ _ k9q; (have F8q := Fr.keepsK F9q k9q); (have N8q := News.keepsK N9q k9q); clear F9q N9q k9q)))) | ((k_dflt ((with_reducible show wpAny _ _ (call (Value.ref 28) _) _ _ _); (rename Fr _ _ _ _ => F9q); (rename News _ _ _ _ => N9q); (refine c_lev (by (exact ⟨Frag.In.keeps (by assumption) (Fr.keep (by assumption)), ⟨_, _, _, _, _, Top.keeps (by assumption) (Fr.keep (by assumption))⟩, rfl, by (simp only [Around.deeper, Around.in1]; decide), by (simp only [Around.deeper, Around.in1]; decide)⟩)) (by with_reducible assumption) (by with_reducible assumption) (by first | with_reducible assumption | omega) (by first | with_reducible assumption | omega) ?_; intro _ _ _ k9q; (have F8q := Fr.keepsK F9q k9q); (have N8q := News.keepsK N9q k9q); clear F9q N9q k9q)))) | ((k_dflt ((with_reducible show wpAny _ _ (call (Value.ref 94) _) _ _ _); (rename Fr _ _ _ _ => F9q); (rename News _ _ _ _ => N9q); (refine c_text (by (exact ⟨Frag.In.keeps (by assumption) (Fr.keep (by assumption)), ⟨_, _, _, _, _, Top.keeps (by assumption) (Fr.keep (by assumption))⟩, rfl, by (simp only [Around.deeper, Around.in1]; decide), by (simp only [Around.deeper, Around.in1]; decide)⟩)) (isList_news N9q (by k_memK)) (by with_reducible assumption) (by exact rfl) (by first | with_reducible assumption | omega) (by with_reducible assumption) (by with_reducible assumption) ?_; intro _ _ _ k9q; (have F8q := Fr.keepsK F9q k9q); (have N8q := News.keepsK N9q k9q); clear F9q N9q k9q)))) | ((with_reducible show wpAny _ _ (compareOp CmpOp.NotEq (Value.bytes _ _) (Value.bytes _ _)) _ _ _); (k_dflt (refine ne_same ?_))) | ((k_dflt ((with_reducible show wpAny _ _ (call (Value.ref 49) _) _ _ _); (refine c_ap (by (exact ⟨Frag.In.keeps (by assumption) (Fr.keep (by assumption)), ⟨_, _, _, _, _, Top.keeps (by assumption) (Fr.keep (by assumption))⟩, rfl, by (simp only [Around.deeper, Around.in1]; decide), by (simp only [Around.deeper, Around.in1]; decide)⟩)) (by with_reducible assumption) (by with_reducible assumption) (by with_reducible assumption) (by with_reducible assumption) ?_; intro _ _ _ k9q; (rename Fr _ _ _ _ => F9q); (rename News _ _ _ _ => N9q); (have F8q := Fr.keepsK F9q k9q); (have N8q := News.keepsK N9q k9q); clear F9q N9q k9q)))) | ((k_dflt ((with_reducible show wpAny _ _ (call (Value.ref 89) _) _ _ _); (rename Fr _ _ _ _ => F9q); (rename News _ _ _ _ => N9q); (refine c_number (by (exact ⟨Frag.In.keeps (by assumption) (Fr.keep (by assumption)), ⟨_, _, _, _, _, Top.keeps (by assumption) (Fr.keep (by assumption))⟩, rfl, by (simp only [Around.deeper, Around.in1]; decide), by (simp only [Around.deeper, Around.in1]; decide)⟩)) (isList_news N9q (by k_memK)) (by with_reducible assumption) ?_; intro _ _ _ k9q; (have F8q := Fr.keepsK F9q k9q); (have N8q := News.keepsK N9q k9q); clear F9q N9q k9q)))) | ((with_reducible show wpAny _ _ (subscriptTail (Expr.Name _ _) (Expr.Constant _ _ _) (Value.ref _) (Value.int _ _)) _ _ _); (k_dflt ((rename News _ _ _ _ => N9q); (refine at_listE (isList_news N9q (by k_memK)) (by with_reducible assumption) (by with_reducible assumption) (by rfl) (by omega) (by omega) ?_); intro _))) | ((k_dflt ((with_reducible show wpAny _ _ (call (Value.type _) [Value.ref _]) _ _ _); (refine list_range _ (by rfl) (by assumption) (by assumption) (by assumption) (by exact small_mine (by omega) (by omega) (by omega)) (by assumption) (by omega) ?_; intro _ _ _ _ _ _ l1q _ _; (try k_lt l1q))))) | ((k_dflt ((with_reducible show wpAny _ _ (call (Value.type _) [Value.int _ _, Value.int _ _, Value.int _ _]) _ _ _); (refine rng3 (by assumption) (by assumption) (by first | decide | omega) (by omega) ?_); intro _ _ _ _ _ _ _ _ _))) | ((k_dflt ((with_reducible show wpAny _ _ (call (Value.type _) [Value.int _ _, Value.int _ _]) _ _ _); (refine rng2 (by assumption) (by assumption) ?_); intro _ _ _ _ _ _ _ _ _))) | ((k_dflt ((with_reducible show wpAny _ _ (call (Value.builtin "len") [Value.ref _]) _ _ _); (rename News _ _ _ _ => N9q); (refine kda_len (knd := intKind PR _) N9q (by k_memK) (by with_reducible assumption) (by with_reducible assumption) (by omega) ?_)))) | ((k_dflt ((with_reducible show wpAny _ _ (binaryOp _ (Value.int (_ + 1) _) (Value.int 4 _)) _ _ _); (refine div_q2 (by exact fmod4 _) ?_)))) | walk1 | (dsimp only; walk1) | (leave1; try dsimp only))))
    rename News _ _ _ _ => Nc
    refine at_listZ (isList_news Nc (k := kD) (by k_memK)) hiD (jint0 ij) (jint1 hcl (jlt hij)) (c1000 hcl hn.2) ?_
    intro tx
    rw [hxv.1]
    (repeat' (first | (k_unfold; (try dsimp only)) | ((fail_if_success (with_reducible show wpAny _ _ (subscriptTail _ _ (Value.ref _) (Value.ref _)) _ _ _)); (fail_if_success (with_reducible show wpAny _ _ (subscriptTail _ (PySem.Expr.BinOp _ _ _ _) (Value.ref _) (Value.int _ _)) _ _ _)); (fail_if_success (with_reducible show wpAny _ _ (PySem.exec (PySem.Stmt.Return (some (PySem.Expr.Constant (PySem.Const.bool false) _ _)) _) _) _ _ _)); first | ((with_reducible show wpAny _ _ (compareOp CmpOp.Eq (Value.ref _) (Value.ref _)) _ _ _); (k_dflt ((rename News _ _ _ _ => N9q); (first | (refine eq_nilT N9q (by k_memK) (by exact List.Mem.head _) (by with_reducible assumption) (by with_reducible assumption) (by (simp only [Around.deeper, Around.in1]; decide)) ?_) | (refine eq_nilF N9q (by k_memK) (by exact List.Mem.head _) (by with_reducible assumption) (by with_reducible assumption) (by (simp only [Around.deeper, Around.in1]; decide)) ?_))))) | ((with_reducible show wpAny _ _ (subscriptTail (Expr.Name _ _) (Expr.Name _ _) (Value.ref _) (Value.int _ _)) _ _ _); (k_dflt ((rename News _ _ _ _ => N9q); (refine kda_item (knd := intKind PR _) N9q (by k_memK) (by with_reducible assumption) (by exact intKind_is _ _ _ _) (by with_reducible assumption) ?_)))) | (((with_reducible show wpAny _ _ (eval (Expr.Name _ _) (compEnvC _ _ _ _)) _ _ _); k_dflt (first | (refine blk_C (by assumption) (by rfl) (by k_mem) (by assumption) ?_ (by rfl) (by rfl) (by decide)) | (refine blk_L (by assumption) (by rfl) (by assumption) ?_ (by rfl) (by rfl) (by decide))))) | ((with_reducible show wpAny _ _ (compareOp CmpOp.NotEq (Value.bool _) (Value.bool _)) _ _ _); (k_dflt (with_reducible refine ne_bsame ?_))) | ((k_dflt ((with_reducible show wpAny _ _ (call (Value.builtin "len") [Value.ref _]) _ _ _); (rename News _ _ _ _ => N9q); (refine len_news N9q (by k_memK) (by with_reducible assumption) (by first | with_reducible assumption | omega) ?_)))) | ((k_dflt ((with_reducible show wpAny _ _ (call (Value.ref 82) _) _ _ _); (rename Fr _ _ _ _ => F9q); (rename News _ _ _ _ => N9q); (refine c_neigh (by (exact ⟨Frag.In.keeps (by assumption) (Fr.keep (by assumption)), ⟨_, _, _, _, _, Top.keeps (by assumption) (Fr.keep (by assumption))⟩, rfl, by (simp only [Around.deeper, Around.in1]; decide), by (simp only [Around.deeper, Around.in1]; decide)⟩)) (isList_news N9q (by k_memK)) (by with_reducible assumption) (by omega) ?_; intro _ _ k9q; (have F8q := Fr.keepsK F9q k9q); (have N8q := News.keepsK N9q k9q); clear F9q N9q k9q)))) | ((k_dflt ((with_reducible show wpAny _ _ (call (Value.ref 28) _) _ _ _); (rename Fr _ _ _ _ => F9q); (rename News _ _ _ _ => N9q); (refine c_lev (by (exact ⟨Frag.In.keeps (by assumption) (Fr.keep (by assumption)), ⟨_, _, _, _, _, Top.keeps (by assumption) (Fr.keep (by assumption))⟩, rfl, by (simp only [Around.deeper, Around.in1]; decide), by (simp only [Around.deeper, Around.in1]; decide)⟩)) (by with_reducible assumption) (by with_reducible assumption) (by first | with_reducible assumption | omega) (by first | with_reducible assumption | omega) ?_; intro _ _ _ k9q; (have F8q := Fr.keepsK F9q k9q); (have N8q := News.keepsK N9q k9q); clear F9q N9q k9q)))) | ((k_dflt ((with_reducible show wpAny _ _ (call (Value.ref 94) _) _ _ _); (rename Fr _ _ _ _ => F9q); (rename News _ _ _ _ => N9q); (refine c_text (by (exact ⟨Frag.In.keeps (by assumption) (Fr.keep (by assumption)), ⟨_, _, _, _, _, Top.keeps (by assumption) (Fr.keep (by assumption))⟩, rfl, by (simp only [Around.deeper, Around.in1]; decide), by (simp only [Around.deeper, Around.in1]; decide)⟩)) (isList_news N9q (by k_memK)) (by with_reducible assumption) (by exact rfl) (by first | with_reducible assumption | omega) (by with_reducible assumption) (by with_reducible assumption) ?_; intro _ _ _ k9q; (have F8q := Fr.keepsK F9q k9q); (have N8q := News.keepsK N9q k9q); clear F9q N9q k9q)))) | ((with_reducible show wpAny _ _ (compareOp CmpOp.NotEq (Value.bytes _ _) (Value.bytes _ _)) _ _ _); (k_dflt (refine ne_same ?_))) | ((k_dflt ((with_reducible show wpAny _ _ (call (Value.ref 49) _) _ _ _); (refine c_ap (by (exact ⟨Frag.In.keeps (by assumption) (Fr.keep (by assumption)), ⟨_, _, _, _, _, Top.keeps (by assumption) (Fr.keep (by assumption))⟩, rfl, by (simp only [Around.deeper, Around.in1]; decide), by (simp only [Around.deeper, Around.in1]; decide)⟩)) (by with_reducible assumption) (by with_reducible assumption) (by with_reducible assumption) (by with_reducible assumption) ?_; intro _ _ _ k9q; (rename Fr _ _ _ _ => F9q); (rename News _ _ _ _ => N9q); (have F8q := Fr.keepsK F9q k9q); (have N8q := News.keepsK N9q k9q); clear F9q N9q k9q)))) | ((k_dflt ((with_reducible show wpAny _ _ (call (Value.ref 89) _) _ _ _); (rename Fr _ _ _ _ => F9q); (rename News _ _ _ _ => N9q); (refine c_number (by (exact ⟨Frag.In.keeps (by assumption) (Fr.keep (by assumption)), ⟨_, _, _, _, _, Top.keeps (by assumption) (Fr.keep (by assumption))⟩, rfl, by (simp only [Around.deeper, Around.in1]; decide), by (simp only [Around.deeper, Around.in1]; decide)⟩)) (isList_news N9q (by k_memK)) (by with_reducible assumption) ?_; intro _ _ _ k9q; (have F8q := Fr.keepsK F9q k9q); (have N8q := News.keepsK N9q k9q); clear F9q N9q k9q)))) | ((with_reducible show wpAny _ _ (subscriptTail (Expr.Name _ _) (Expr.Constant _ _ _) (Value.ref _) (Value.int _ _)) _ _ _); (k_dflt ((rename News _ _ _ _ => N9q); (refine at_listE (isList_news N9q (by k_memK)) (by with_reducible assumption) (by with_reducible assumption) (by rfl) (by omega) (by omega) ?_); intro _))) | ((k_dflt ((with_reducible show wpAny _ _ (call (Value.type _) [Value.ref _]) _ _ _); (refine list_range _ (by rfl) (by assumption) (by assumption) (by assumption) (by exact small_mine (by omega) (by omega) (by omega)) (by assumption) (by omega) ?_; intro _ _ _ _ _ _ l1q _ _; (try k_lt l1q))))) | ((k_dflt ((with_reducible show wpAny _ _ (call (Value.type _) [Value.int _ _, Value.int _ _, Value.int _ _]) _ _ _); (refine rng3 (by assumption) (by assumption) (by first | decide | omega) (by omega) ?_); intro _ _ _ _ _ _ _ _ _))) | ((k_dflt ((with_reducible show wpAny _ _ (call (Value.type _) [Value.int _ _, Value.int _ _]) _ _ _); (refine rng2 (by assumption) (by assumption) ?_); intro _ _ _ _ _ _ _ _ _))) | ((k_dflt ((with_reducible show wpAny _ _ (call (Value.builtin "len") [Value.ref _]) _ _ _); (rename News _ _ _ _ => N9q); (refine kda_len (knd := intKind PR _) N9q (by k_memK) (by with_reducible assumption) (by with_reducible assumption) (by omega) ?_)))) | ((k_dflt ((with_reducible show wpAny _ _ (binaryOp _ (Value.int (_ + 1) _) (Value.int 4 _)) _ _ _); (refine div_q2 (by exact fmod4 _) ?_)))) | walk1 | (dsimp only; walk1) | (leave1; try dsimp only))))
    rename News _ _ _ _ => Nc
    refine at_listZ (isList_news Nc (k := kr) (by k_memK)) hir (nn1 hxv.2.1) (ltN hrlen hxv.2.2) (c1000 hrlen hn.2) ?_
    intro ty
    have ex : (((ds.getD (ij + 1) 0 : Nat) : Int) - 1).toNat = ds.getD (ij + 1) 0 - 1 := nsub _
    rw [← ex] at hq2 hq3
    (repeat' (first | (k_unfold; (try dsimp only)) | ((fail_if_success (with_reducible show wpAny _ _ (subscriptTail _ _ (Value.ref _) (Value.ref _)) _ _ _)); (fail_if_success (with_reducible show wpAny _ _ (subscriptTail _ (PySem.Expr.BinOp _ _ _ _) (Value.ref _) (Value.int _ _)) _ _ _)); (fail_if_success (with_reducible show wpAny _ _ (PySem.exec (PySem.Stmt.Return (some (PySem.Expr.Constant (PySem.Const.bool false) _ _)) _) _) _ _ _)); first | ((with_reducible show wpAny _ _ (compareOp CmpOp.Eq (Value.ref _) (Value.ref _)) _ _ _); (k_dflt ((rename News _ _ _ _ => N9q); (first | (refine eq_nilT N9q (by k_memK) (by exact List.Mem.head _) (by with_reducible assumption) (by with_reducible assumption) (by (simp only [Around.deeper, Around.in1]; decide)) ?_) | (refine eq_nilF N9q (by k_memK) (by exact List.Mem.head _) (by with_reducible assumption) (by with_reducible assumption) (by (simp only [Around.deeper, Around.in1]; decide)) ?_))))) | ((with_reducible show wpAny _ _ (subscriptTail (Expr.Name _ _) (Expr.Name _ _) (Value.ref _) (Value.int _ _)) _ _ _); (k_dflt ((rename News _ _ _ _ => N9q); (refine kda_item (knd := intKind PR _) N9q (by k_memK) (by with_reducible assumption) (by exact intKind_is _ _ _ _) (by with_reducible assumption) ?_)))) | (((with_reducible show wpAny _ _ (eval (Expr.Name _ _) (compEnvC _ _ _ _)) _ _ _); k_dflt (first | (refine blk_C (by assumption) (by rfl) (by k_mem) (by assumption) ?_ (by rfl) (by rfl) (by decide)) | (refine blk_L (by assumption) (by rfl) (by assumption) ?_ (by rfl) (by rfl) (by decide))))) | ((with_reducible show wpAny _ _ (compareOp CmpOp.NotEq (Value.bool _) (Value.bool _)) _ _ _); (k_dflt (with_reducible refine ne_bsame ?_))) | ((k_dflt ((with_reducible show wpAny _ _ (call (Value.builtin "len") [Value.ref _]) _ _ _); (rename News _ _ _ _ => N9q); (refine len_news N9q (by k_memK) (by with_reducible assumption) (by first | with_reducible assumption | omega) ?_)))) | ((k_dflt ((with_reducible show wpAny _ _ (call (Value.ref 82) _) _ _ _); (rename Fr _ _ _ _ => F9q); (rename News _ _ _ _ => N9q); (refine c_neigh (by (exact ⟨Frag.In.keeps (by assumption) (Fr.keep (by assumption)), ⟨_, _, _, _, _, Top.keeps (by assumption) (Fr.keep (by assumption))⟩, rfl, by (simp only [Around.deeper, Around.in1]; decide), by (simp only [Around.deeper, Around.in1]; decide)⟩)) (isList_news N9q (by k_memK)) (by with_reducible assumption) (by omega) ?_; intro _ _ k9q; (have F8q := Fr.keepsK F9q k9q); (have N8q := News.keepsK N9q k9q); clear F9q N9q k9q)))) | ((k_dflt ((with_reducible show wpAny _ _ (call (Value.ref 28) _) _ _ _); (rename Fr _ _ _ _ => F9q); (rename News _ _ _ _ => N9q); (refine c_lev (by (exact ⟨Frag.In.keeps (by assumption) (Fr.keep (by assumption)), ⟨_, _, _, _, _, Top.keeps (by assumption) (Fr.keep (by assumption))⟩, rfl, by (simp only [Around.deeper, Around.in1]; decide), by (simp only [Around.deeper, Around.in1]; decide)⟩)) (by with_reducible assumption) (by with_reducible assumption) (by first | with_reducible assumption | omega) (by first | with_reducible assumption | omega) ?_; intro _ _ _ k9q; (have F8q := Fr.keepsK F9q k9q); (have N8q := News.keepsK N9q k9q); clear F9q N9q k9q)))) | ((k_dflt ((with_reducible show wpAny _ _ (call (Value.ref 94) _) _ _ _); (rename Fr _ _ _ _ => F9q); (rename News _ _ _ _ => N9q); (refine c_text (by (exact ⟨Frag.In.keeps (by assumption) (Fr.keep (by assumption)), ⟨_, _, _, _, _, Top.keeps (by assumption) (Fr.keep (by assumption))⟩, rfl, by (simp only [Around.deeper, Around.in1]; decide), by (simp only [Around.deeper, Around.in1]; decide)⟩)) (isList_news N9q (by k_memK)) (by with_reducible assumption) (by exact rfl) (by first | with_reducible assumption | omega) (by with_reducible assumption) (by with_reducible assumption) ?_; intro _ _ _ k9q; (have F8q := Fr.keepsK F9q k9q); (have N8q := News.keepsK N9q k9q); clear F9q N9q k9q)))) | ((with_reducible show wpAny _ _ (compareOp CmpOp.NotEq (Value.bytes _ _) (Value.bytes _ _)) _ _ _); (k_dflt (refine ne_same ?_))) | ((k_dflt ((with_reducible show wpAny _ _ (call (Value.ref 49) _) _ _ _); (refine c_ap (by (exact ⟨Frag.In.keeps (by assumption) (Fr.keep (by assumption)), ⟨_, _, _, _, _, Top.keeps (by assumption) (Fr.keep (by assumption))⟩, rfl, by (simp only [Around.deeper, Around.in1]; decide), by (simp only [Around.deeper, Around.in1]; decide)⟩)) (by with_reducible assumption) (by with_reducible assumption) (by with_reducible assumption) (by with_reducible assumption) ?_; intro _ _ _ k9q; (rename Fr _ _ _ _ => F9q); (rename News _ _ _ _ => N9q); (have F8q := Fr.keepsK F9q k9q); (have N8q := News.keepsK N9q k9q); clear F9q N9q k9q)))) | ((k_dflt ((with_reducible show wpAny _ _ (call (Value.ref 89) _) _ _ _); (rename Fr _ _ _ _ => F9q); (rename News _ _ _ _ => N9q); (refine c_number (by (exact ⟨Frag.In.keeps (by assumption) (Fr.keep (by assumption)), ⟨_, _, _, _, _, Top.keeps (by assumption) (Fr.keep (by assumption))⟩, rfl, by (simp only [Around.deeper, Around.in1]; decide), by (simp only [Around.deeper, Around.in1]; decide)⟩)) (isList_news N9q (by k_memK)) (by with_reducible assumption) ?_; intro _ _ _ k9q; (have F8q := Fr.keepsK F9q k9q); (have N8q := News.keepsK N9q k9q); clear F9q N9q k9q)))) | ((with_reducible show wpAny _ _ (subscriptTail (Expr.Name _ _) (Expr.Constant _ _ _) (Value.ref _) (Value.int _ _)) _ _ _); (k_dflt ((rename News _ _ _ _ => N9q); (refine at_listE (isList_news N9q (by k_memK)) (by with_reducible assumption) (by with_reducible assumption) (by rfl) (by omega) (by omega) ?_); intro _))) | ((k_dflt ((with_reducible show wpAny _ _ (call (Value.type _) [Value.ref _]) _ _ _); (refine list_range _ (by rfl) (by assumption) (by assumption) (by assumption) (by exact small_mine (by omega) (by omega) (by omega)) (by assumption) (by omega) ?_; intro _ _ _ _ _ _ l1q _ _; (try k_lt l1q))))) | ((k_dflt ((with_reducible show wpAny _ _ (call (Value.type _) [Value.int _ _, Value.int _ _, Value.int _ _]) _ _ _); (refine rng3 (by assumption) (by assumption) (by first | decide | omega) (by omega) ?_); intro _ _ _ _ _ _ _ _ _))) | ((k_dflt ((with_reducible show wpAny _ _ (call (Value.type _) [Value.int _ _, Value.int _ _]) _ _ _); (refine rng2 (by assumption) (by assumption) ?_); intro _ _ _ _ _ _ _ _ _))) | ((k_dflt ((with_reducible show wpAny _ _ (call (Value.builtin "len") [Value.ref _]) _ _ _); (rename News _ _ _ _ => N9q); (refine kda_len (knd := intKind PR _) N9q (by k_memK) (by with_reducible assumption) (by with_reducible assumption) (by omega) ?_)))) | ((k_dflt ((with_reducible show wpAny _ _ (binaryOp _ (Value.int (_ + 1) _) (Value.int 4 _)) _ _ _); (refine div_q2 (by exact fmod4 _) ?_)))) | walk1 | (dsimp only; walk1) | (leave1; try dsimp only))))
    rename _ ∈ List.take _ _ => hM1
    rename ∀ _, _ ∈ List.take _ _ → _ => hM2
    have hMe := maxL_of hM1 hM2
    subst hMe
    have hMb := hcast _ (List.mem_of_mem_take hM1)
    rename News _ _ _ _ => Nc
    refine at_listZ (isList_news Nc (k := kr) (by k_memK)) hir (zz1 hMb.1) (zzN hrlen hMb.2) (c1000 hrlen hn.2) ?_
    intro tz
    clear hM1 hM2
    (repeat' (first | (k_unfold; (try dsimp only)) | ((fail_if_success (with_reducible show wpAny _ _ (subscriptTail _ _ (Value.ref _) (Value.ref _)) _ _ _)); (fail_if_success (with_reducible show wpAny _ _ (subscriptTail _ (PySem.Expr.BinOp _ _ _ _) (Value.ref _) (Value.int _ _)) _ _ _)); (fail_if_success (with_reducible show wpAny _ _ (PySem.exec (PySem.Stmt.Return (some (PySem.Expr.Constant (PySem.Const.bool false) _ _)) _) _) _ _ _)); first | ((with_reducible show wpAny _ _ (compareOp CmpOp.Eq (Value.ref _) (Value.ref _)) _ _ _); (k_dflt ((rename News _ _ _ _ => N9q); (first | (refine eq_nilT N9q (by k_memK) (by exact List.Mem.head _) (by with_reducible assumption) (by with_reducible assumption) (by (simp only [Around.deeper, Around.in1]; decide)) ?_) | (refine eq_nilF N9q (by k_memK) (by exact List.Mem.head _) (by with_reducible assumption) (by with_reducible assumption) (by (simp only [Around.deeper, Around.in1]; decide)) ?_))))) | ((with_reducible show wpAny _ _ (subscriptTail (Expr.Name _ _) (Expr.Name _ _) (Value.ref _) (Value.int _ _)) _ _ _); (k_dflt ((rename News _ _ _ _ => N9q); (refine kda_item (knd := intKind PR _) N9q (by k_memK) (by with_reducible assumption) (by exact intKind_is _ _ _ _) (by with_reducible assumption) ?_)))) | (((with_reducible show wpAny _ _ (eval (Expr.Name _ _) (compEnvC _ _ _ _)) _ _ _); k_dflt (first | (refine blk_C (by assumption) (by rfl) (by k_mem) (by assumption) ?_ (by rfl) (by rfl) (by decide)) | (refine blk_L (by assumption) (by rfl) (by assumption) ?_ (by rfl) (by rfl) (by decide))))) | ((with_reducible show wpAny _ _ (compareOp CmpOp.NotEq (Value.bool _) (Value.bool _)) _ _ _); (k_dflt (with_reducible refine ne_bsame ?_))) | ((k_dflt ((with_reducible show wpAny _ _ (call (Value.builtin "len") [Value.ref _]) _ _ _); (rename News _ _ _ _ => N9q); (refine len_news N9q (by k_memK) (by with_reducible assumption) (by first | with_reducible assumption | omega) ?_)))) | ((k_dflt ((with_reducible show wpAny _ _ (call (Value.ref 82) _) _ _ _); (rename Fr _ _ _ _ => F9q); (rename News _ _ _ _ => N9q); (refine c_neigh (by (exact ⟨Frag.In.keeps (by assumption) (Fr.keep (by assumption)), ⟨_, _, _, _, _, Top.keeps (by assumption) (Fr.keep (by assumption))⟩, rfl, by (simp only [Around.deeper, Around.in1]; decide), by (simp only [Around.deeper, Around.in1]; decide)⟩)) (isList_news N9q (by k_memK)) (by with_reducible assumption) (by omega) ?_; intro _ _ k9q; (have F8q := Fr.keepsK F9q k9q); (have N8q := News.keepsK N9q k9q); clear F9q N9q k9q)))) | ((k_dflt ((with_reducible show wpAny _ _ (call (Value.ref 28) _) _ _ _); (rename Fr _ _ _ _ => F9q); (rename News _ _ _ _ => N9q); (refine c_lev (by (exact ⟨Frag.In.keeps (by assumption) (Fr.keep (by assumption)), ⟨_, _, _, _, _, Top.keeps (by assumption) (Fr.keep (by assumption))⟩, rfl, by (simp only [Around.deeper, Around.in1]; decide), by (simp only [Around.deeper, Around.in1]; decide)⟩)) (by with_reducible assumption) (by with_reducible assumption) (by first | with_reducible assumption | omega) (by first | with_reducible assumption | omega) ?_; intro _ _ _ k9q; (have F8q := Fr.keepsK F9q k9q); (have N8q := News.keepsK N9q k9q); clear F9q N9q k9q)))) | ((k_dflt ((with_reducible show wpAny _ _ (call (Value.ref 94) _) _ _ _); (rename Fr _ _ _ _ => F9q); (rename News _ _ _ _ => N9q); (refine c_text (by (exact ⟨Frag.In.keeps (by assumption) (Fr.keep (by assumption)), ⟨_, _, _, _, _, Top.keeps (by assumption) (Fr.keep (by assumption))⟩, rfl, by (simp only [Around.deeper, Around.in1]; decide), by (simp only [Around.deeper, Around.in1]; decide)⟩)) (isList_news N9q (by k_memK)) (by with_reducible assumption) (by exact rfl) (by first | with_reducible assumption | omega) (by with_reducible assumption) (by with_reducible assumption) ?_; intro _ _ _ k9q; (have F8q := Fr.keepsK F9q k9q); (have N8q := News.keepsK N9q k9q); clear F9q N9q k9q)))) | ((with_reducible show wpAny _ _ (compareOp CmpOp.NotEq (Value.bytes _ _) (Value.bytes _ _)) _ _ _); (k_dflt (refine ne_same ?_))) | ((k_dflt ((with_reducible show wpAny _ _ (call (Value.ref 49) _) _ _ _); (refine c_ap (by (exact ⟨Frag.In.keeps (by assumption) (Fr.keep (by assumption)), ⟨_, _, _, _, _, Top.keeps (by assumption) (Fr.keep (by assumption))⟩, rfl, by (simp only [Around.deeper, Around.in1]; decide), by (simp only [Around.deeper, Around.in1]; decide)⟩)) (by with_reducible assumption) (by with_reducible assumption) (by with_reducible assumption) (by with_reducible assumption) ?_; intro _ _ _ k9q; (rename Fr _ _ _ _ => F9q); (rename News _ _ _ _ => N9q); (have F8q := Fr.keepsK F9q k9q); (have N8q := News.keepsK N9q k9q); clear F9q N9q k9q)))) | ((k_dflt ((with_reducible show wpAny _ _ (call (Value.ref 89) _) _ _ _); (rename Fr _ _ _ _ => F9q); (rename News _ _ _ _ => N9q); (refine c_number (by (exact ⟨Frag.In.keeps (by assumption) (Fr.keep (by assumption)), ⟨_, _, _, _, _, Top.keeps (by assumption) (Fr.keep (by assumption))⟩, rfl, by (simp only [Around.deeper, Around.in1]; decide), by (simp only [Around.deeper, Around.in1]; decide)⟩)) (isList_news N9q (by k_memK)) (by with_reducible assumption) ?_; intro _ _ _ k9q; (have F8q := Fr.keepsK F9q k9q); (have N8q := News.keepsK N9q k9q); clear F9q N9q k9q)))) | ((with_reducible show wpAny _ _ (subscriptTail (Expr.Name _ _) (Expr.Constant _ _ _) (Value.ref _) (Value.int _ _)) _ _ _); (k_dflt ((rename News _ _ _ _ => N9q); (refine at_listE (isList_news N9q (by k_memK)) (by with_reducible assumption) (by with_reducible assumption) (by rfl) (by omega) (by omega) ?_); intro _))) | ((k_dflt ((with_reducible show wpAny _ _ (call (Value.type _) [Value.ref _]) _ _ _); (refine list_range _ (by rfl) (by assumption) (by assumption) (by assumption) (by exact small_mine (by omega) (by omega) (by omega)) (by assumption) (by omega) ?_; intro _ _ _ _ _ _ l1q _ _; (try k_lt l1q))))) | ((k_dflt ((with_reducible show wpAny _ _ (call (Value.type _) [Value.int _ _, Value.int _ _, Value.int _ _]) _ _ _); (refine rng3 (by assumption) (by assumption) (by first | decide | omega) (by omega) ?_); intro _ _ _ _ _ _ _ _ _))) | ((k_dflt ((with_reducible show wpAny _ _ (call (Value.type _) [Value.int _ _, Value.int _ _]) _ _ _); (refine rng2 (by assumption) (by assumption) ?_); intro _ _ _ _ _ _ _ _ _))) | ((k_dflt ((with_reducible show wpAny _ _ (call (Value.builtin "len") [Value.ref _]) _ _ _); (rename News _ _ _ _ => N9q); (refine kda_len (knd := intKind PR _) N9q (by k_memK) (by with_reducible assumption) (by with_reducible assumption) (by omega) ?_)))) | ((k_dflt ((with_reducible show wpAny _ _ (binaryOp _ (Value.int (_ + 1) _) (Value.int 4 _)) _ _ _); (refine div_q2 (by exact fmod4 _) ?_)))) | walk1 | (dsimp only; walk1) | (leave1; try dsimp only))))
    · exfalso; contradiction
    rename _ ∈ List.take _ _ => hM1
    rename ∀ _, _ ∈ List.take _ _ → _ => hM2
    have hMe := minL_of hM1 hM2
    subst hMe
    have hMb := hcast _ (List.mem_of_mem_take hM1)
    rename News _ _ _ _ => Nc
    refine at_listZ (isList_news Nc (k := kr) (by k_memK)) hir (zz1 hMb.1) (zzN hrlen hMb.2) (c1000 hrlen hn.2) ?_
    intro tz
    clear hM1 hM2
    (repeat' (first | (k_unfold; (try dsimp only)) | ((fail_if_success (with_reducible show wpAny _ _ (subscriptTail _ _ (Value.ref _) (Value.ref _)) _ _ _)); (fail_if_success (with_reducible show wpAny _ _ (subscriptTail _ (PySem.Expr.BinOp _ _ _ _) (Value.ref _) (Value.int _ _)) _ _ _)); (fail_if_success (with_reducible show wpAny _ _ (PySem.exec (PySem.Stmt.Return (some (PySem.Expr.Constant (PySem.Const.bool false) _ _)) _) _) _ _ _)); first | ((with_reducible show wpAny _ _ (compareOp CmpOp.Eq (Value.ref _) (Value.ref _)) _ _ _); (k_dflt ((rename News _ _ _ _ => N9q); (first | (refine eq_nilT N9q (by k_memK) (by exact List.Mem.head _) (by with_reducible assumption) (by with_reducible assumption) (by (simp only [Around.deeper, Around.in1]; decide)) ?_) | (refine eq_nilF N9q (by k_memK) (by exact List.Mem.head _) (by with_reducible assumption) (by with_reducible assumption) (by (simp only [Around.deeper, Around.in1]; decide)) ?_))))) | ((with_reducible show wpAny _ _ (subscriptTail (Expr.Name _ _) (Expr.Name _ _) (Value.ref _) (Value.int _ _)) _ _ _); (k_dflt ((rename News _ _ _ _ => N9q); (refine kda_item (knd := intKind PR _) N9q (by k_memK) (by with_reducible assumption) (by exact intKind_is _ _ _ _) (by with_reducible assumption) ?_)))) | (((with_reducible show wpAny _ _ (eval (Expr.Name _ _) (compEnvC _ _ _ _)) _ _ _); k_dflt (first | (refine blk_C (by assumption) (by rfl) (by k_mem) (by assumption) ?_ (by rfl) (by rfl) (by decide)) | (refine blk_L (by assumption) (by rfl) (by assumption) ?_ (by rfl) (by rfl) (by decide))))) | ((with_reducible show wpAny _ _ (compareOp CmpOp.NotEq (Value.bool _) (Value.bool _)) _ _ _); (k_dflt (with_reducible refine ne_bsame ?_))) | ((k_dflt ((with_reducible show wpAny _ _ (call (Value.builtin "len") [Value.ref _]) _ _ _); (rename News _ _ _ _ => N9q); (refine len_news N9q (by k_memK) (by with_reducible assumption) (by first | with_reducible assumption | omega) ?_)))) | ((k_dflt ((with_reducible show wpAny _ _ (call (Value.ref 82) _) _ _ _); (rename Fr _ _ _ _ => F9q); (rename News _ _ _ _ => N9q); (refine c_neigh (by (exact ⟨Frag.In.keeps (by assumption) (Fr.keep (by assumption)), ⟨_, _, _, _, _, Top.keeps (by assumption) (Fr.keep (by assumption))⟩, rfl, by (simp only [Around.deeper, Around.in1]; decide), by (simp only [Around.deeper, Around.in1]; decide)⟩)) (isList_news N9q (by k_memK)) (by with_reducible assumption) (by omega) ?_; intro _ _ k9q; (have F8q := Fr.keepsK F9q k9q); (have N8q := News.keepsK N9q k9q); clear F9q N9q k9q)))) | ((k_dflt ((with_reducible show wpAny _ _ (call (Value.ref 28) _) _ _ _); (rename Fr _ _ _ _ => F9q); (rename News _ _ _ _ => N9q); (refine c_lev (by (exact ⟨Frag.In.keeps (by assumption) (Fr.keep (by assumption)), ⟨_, _, _, _, _, Top.keeps (by assumption) (Fr.keep (by assumption))⟩, rfl, by (simp only [Around.deeper, Around.in1]; decide), by (simp only [Around.deeper, Around.in1]; decide)⟩)) (by with_reducible assumption) (by with_reducible assumption) (by first | with_reducible assumption | omega) (by first | with_reducible assumption | omega) ?_; intro _ _ _ k9q; (have F8q := Fr.keepsK F9q k9q); (have N8q := News.keepsK N9q k9q); clear F9q N9q k9q)))) | ((k_dflt ((with_reducible show wpAny _ _ (call (Value.ref 94) _) _ _ _); (rename Fr _ _ _ _ => F9q); (rename News _ _ _ _ => N9q); (refine c_text (by (exact ⟨Frag.In.keeps (by assumption) (Fr.keep (by assumption)), ⟨_, _, _, _, _, Top.keeps (by assumption) (Fr.keep (by assumption))⟩, rfl, by (simp only [Around.deeper, Around.in1]; decide), by (simp only [Around.deeper, Around.in1]; decide)⟩)) (isList_news N9q (by k_memK)) (by with_reducible assumption) (by exact rfl) (by first | with_reducible assumption | omega) (by with_reducible assumption) (by with_reducible assumption) ?_; intro _ _ _ k9q; (have F8q := Fr.keepsK F9q k9q); (have N8q := News.keepsK N9q k9q); clear F9q N9q k9q)))) | ((with_reducible show wpAny _ _ (compareOp CmpOp.NotEq (Value.bytes _ _) (Value.bytes _ _)) _ _ _); (k_dflt (refine ne_same ?_))) | ((k_dflt ((with_reducible show wpAny _ _ (call (Value.ref 49) _) _ _ _); (refine c_ap (by (exact ⟨Frag.In.keeps (by assumption) (Fr.keep (by assumption)), ⟨_, _, _, _, _, Top.keeps (by assumption) (Fr.keep (by assumption))⟩, rfl, by (simp only [Around.deeper, Around.in1]; decide), by (simp only [Around.deeper, Around.in1]; decide)⟩)) (by with_reducible assumption) (by with_reducible assumption) (by with_reducible assumption) (by with_reducible assumption) ?_; intro _ _ _ k9q; (rename Fr _ _ _ _ => F9q); (rename News _ _ _ _ => N9q); (have F8q := Fr.keepsK F9q k9q); (have N8q := News.keepsK N9q k9q); clear F9q N9q k9q)))) | ((k_dflt ((with_reducible show wpAny _ _ (call (Value.ref 89) _) _ _ _); (rename Fr _ _ _ _ => F9q); (rename News _ _ _ _ => N9q); (refine c_number (by (exact ⟨Frag.In.keeps (by assumption) (Fr.keep (by assumption)), ⟨_, _, _, _, _, Top.keeps (by assumption) (Fr.keep (by assumption))⟩, rfl, by (simp only [Around.deeper, Around.in1]; decide), by (simp only [Around.deeper, Around.in1]; decide)⟩)) (isList_news N9q (by k_memK)) (by with_reducible assumption) ?_; intro _ _ _ k9q; (have F8q := Fr.keepsK F9q k9q); (have N8q := News.keepsK N9q k9q); clear F9q N9q k9q)))) | ((with_reducible show wpAny _ _ (subscriptTail (Expr.Name _ _) (Expr.Constant _ _ _) (Value.ref _) (Value.int _ _)) _ _ _); (k_dflt ((rename News _ _ _ _ => N9q); (refine at_listE (isList_news N9q (by k_memK)) (by with_reducible assumption) (by with_reducible assumption) (by rfl) (by omega) (by omega) ?_); intro _))) | ((k_dflt ((with_reducible show wpAny _ _ (call (Value.type _) [Value.ref _]) _ _ _); (refine list_range _ (by rfl) (by assumption) (by assumption) (by assumption) (by exact small_mine (by omega) (by omega) (by omega)) (by assumption) (by omega) ?_; intro _ _ _ _ _ _ l1q _ _; (try k_lt l1q))))) | ((k_dflt ((with_reducible show wpAny _ _ (call (Value.type _) [Value.int _ _, Value.int _ _, Value.int _ _]) _ _ _); (refine rng3 (by assumption) (by assumption) (by first | decide | omega) (by omega) ?_); intro _ _ _ _ _ _ _ _ _))) | ((k_dflt ((with_reducible show wpAny _ _ (call (Value.type _) [Value.int _ _, Value.int _ _]) _ _ _); (refine rng2 (by assumption) (by assumption) ?_); intro _ _ _ _ _ _ _ _ _))) | ((k_dflt ((with_reducible show wpAny _ _ (call (Value.builtin "len") [Value.ref _]) _ _ _); (rename News _ _ _ _ => N9q); (refine kda_len (knd := intKind PR _) N9q (by k_memK) (by with_reducible assumption) (by with_reducible assumption) (by omega) ?_)))) | ((k_dflt ((with_reducible show wpAny _ _ (binaryOp _ (Value.int (_ + 1) _) (Value.int 4 _)) _ _ _); (refine div_q2 (by exact fmod4 _) ?_)))) | walk1 | (dsimp only; walk1) | (leave1; try dsimp only))))
    · exfalso; contradiction
    refine' TurnP.next () ?FyM ?NyM ?nyM ?cyM ?hpyM ?PyM
    case FyM => assumption
    case NyM => assumption
    case nyM => rw [List.append_nil]; exact fun p hp => .tail _ (.tail _ (.tail _ hp))
    case cyM => exact List.forall_mem_nil _
    case hpyM => ((repeat' (first | exact List.forall_mem_nil _ | (refine List.forall_mem_cons.mpr ⟨by with_unfolding_all rfl, ?_⟩))))
    case PyM => trivial)
end Mine
end
open PySem PySem.W PyProof.Rows
set_option maxRecDepth 100000 in
set_option maxHeartbeats 8000000 in
theorem PySem.Challenge.cw_sc0035_01_holds : PySem.Challenge.rw_sc0035_01.Holds := by
  exact Mine.lawX
