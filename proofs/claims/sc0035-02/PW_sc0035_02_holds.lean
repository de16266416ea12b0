import PyProof.Rows.All
import Wide.All
import OpenK.AllK
import Wide.FinOn
import Lean
import PySem.Challenge.RW_sc0035_02
set_option Elab.async false
set_option genSizeOf false
set_option genSizeOfSpec false
set_option genInjectivity false
section
open PySem PySem.W PyProof.Rows
set_option maxRecDepth 100000
set_option maxHeartbeats 8000000
namespace Mine
open_top hd for PySem.Challenge.rw_sc0035_02
end Mine
end
section
open PySem PySem.W PyProof.Rows PySem.Calls PySem.Spec
set_option maxRecDepth 100000
set_option maxHeartbeats 8000000
namespace Mine

def Keeps (h h' : Heap) : Prop := ∀ b o, h.get? b = some o → h'.get? b = some o

theorem own_call {prog : Program} {w : World} {A : Around} {s : Shared} {K : Frag} {p : Program} {loose : List Str} {mean : ExcName → Option Value} {mg mb : Str → Option Value} {Q E : Value → Shared → Prop}
    {f : Addr} {oc : Value} {od : Option Addr} {osl : Array (Option Value)} {name qual : Str} {params : Arguments} {body : List Stmt} {scope : Scope} {dV kV doc pm cdv ct : Value} {an : Option Addr} {vals : List Value} (binds : List (Str × Value))
    (X : Frag.In K s.heap) (T : Top p loose mean mg mb s.heap) (ho : K.lookup f = some ⟨oc, od, .func (fnOf name qual params body scope dV kV doc pm an cdv ct), osl⟩) (hcd : codeIn K cdv qual = true) (hroom : A.depth < recursionLimit)
    (hbind : BindsTo s (fnOf name qual params body scope dV kV doc pm an cdv ct) ⟨vals, []⟩ binds) (hloc : ∀ y ∈ binds, scope.names.lookup y.1 = some .local)
    (h : ∀ L h₁ tk, Fr s.heap L h₁ (fun y => binds.reverse.lookup y) → News s.heap L h₁ [] →
      wpAny (model prog w) (A.deeper (envOf qual scope L f cdv)) (execs body (envOf qual scope L f cdv)) (fun fl s' => Q (match fl with | .ret v => v | _ => .none) s') (fun _ _ => False) { s with heap := h₁, toks := tk })
    (hcell : ∀ x ∈ scope.names, x.2 ≠ .cell) (hco : scope.isCoroutine = false) (hgen : scope.isGenerator = false) (hk : scope.kind = .function) :
    wpAny (model prog w) A (call (.ref f) vals) Q E s := by
  refine wpAny_call (codeAny_call_def (fd := fnOf name qual params body scope dV kV doc pm an cdv ct) (body := body) (binds := binds) hroom (X _ _ ho) rfl T.nolimit (codeRec_of X hcd) rfl hbind hcell hloc (fun h₁ hns hk₁ => ?_) hco hgen hk)
  exact wpAny_mono (h s.heap.objs.size h₁ _ ⟨hns, hk₁, Nat.le_refl _⟩ News.nil) (fun fl s' q => q) fun _ _ x => x.elim

abbrev PR : Program := PySem.Challenge.rw_sc0035_02.row.prog

/-- what a call of the text's own needs -/
structure Cx (r : Nat) (w : World) (A : Around) (h : Heap) : Prop where
  X : Frag.In (hd.heap_39 w.params) h
  T : ∃ p loose mean mg mb, Top p loose mean mg mb h
  hh : A.handled = none
  room : A.depth + r < recursionLimit
  un : A.units + (20 * r + 20) < cLine
theorem fold1 (f : Int → Int → Int) (ns : List Int) : ∀ a, (ns.foldl (fun (σ : Int × Unit) n => (f σ.1 n, ())) (a, ())).1 = ns.foldl f a := by
  induction ns with
  | nil => intro a; rfl
  | cons n r ih => intro a; exact ih _
theorem Fr.keepsK {h₀ h h' : Heap} {L : Addr} {m : Str → Option Value} (F : Fr h₀ L h m) (k : Keeps h h') : Fr h₀ L h' m := F.keeps k
theorem News.keepsK {h₀ h h' : Heap} {L : Addr} {news : List (Addr × Obj)} (N : News h₀ L h news) (k : Keeps h h') : News h₀ L h' news := fun p hp => ⟨k _ _ (N p hp).1, (N p hp).2⟩
/-- a new object that a call hands back -/
theorem News.addK {h₀ h h' : Heap} {L a : Addr} {o : Obj} {m : Str → Option Value} {news : List (Addr × Obj)} (F : Fr h₀ L h m) (N : News h₀ L h news) (k : Keeps h h') (hn : h.get? a = none) (ha : h'.get? a = some o) : News h₀ L h' ((a, o) :: news) := by
  intro p hp
  rcases List.mem_cons.mp hp with rfl | hp
  · refine ⟨ha, fun e => ?_, ?_⟩
    · obtain ⟨oL, _, _, hL, _⟩ := F.ns
      have e' : a = L := e
      rw [e', hL] at hn; cases hn
    · cases q : h₀.get? a with
      | none => rfl
      | some o' => rw [F.keep _ _ q] at hn; cases hn
  · exact News.keepsK N k p hp
theorem fill_it : PySem.Challenge.rw_sc0035_02.foot = 6 ∧ hd.heap_39 = hd.heap_39 := by
  w_top off
  k_fill
  exact ⟨rfl, rfl⟩
end Mine
end
section
open PySem PySem.W PyProof.Rows PySem.Calls PySem.Spec
set_option maxRecDepth 100000
set_option maxHeartbeats 8000000
namespace Mine
section
variable {prog : Program} {w : World} {A : Around} {E : Value → Shared → Prop} {s : Shared} {env : Env} {h₀ : Heap} {x : Str} {body : List Stmt} {Q : Flow → Shared → Prop}

theorem fr_of {h₀ h : Heap} {L : Addr} {m₁ : Str → Option Value} {ps : List (Str × Value)} (h1 : ∀ p ∈ ps, m₁ p.1 = some p.2) (F : Fr h₀ L h m₁) : Fr h₀ L h (kstB m₁ ps) := by
  have e : kstB m₁ ps = m₁ := by
    funext z
    exact kstB_eq h1 fun _ => rfl
  rw [e]; exact F
theorem fr_ofX {h₀ h : Heap} {L : Addr} {x : Str} {v : Value} {m₁ : Str → Option Value} {ps : List (Str × Value)} (h1 : ∀ p ∈ ps, m₁ p.1 = some p.2) (F : Fr h₀ L h (fun y => if y = x then some v else m₁ y)) : Fr h₀ L h (fun y => if y = x then some v else kstB m₁ ps y) := by
  have e : kstB m₁ ps = m₁ := by
    funext z
    exact kstB_eq h1 fun _ => rfl
  rw [e]; exact F

/-- behind a turn of a for: io is the iterator -/
def TurnP {σ : Type} (h₀ : Heap) (L : Addr) (I : Addr) (io : Obj) (const : List (Addr × Obj)) (led : σ → List (Addr × Obj)) (ps : σ → List (Str × Value)) (P : σ → Prop) (s₁ : Shared) (Q : Flow → Shared → Prop) (f : Flow) (s₂ : Shared) : Prop :=
  match f with
  | .ret v => Q (.ret v) s₂
  | .brk => Q .next s₂
  | _ => ∃ c h' tk m', s₂ = { s₁ with heap := h', toks := tk } ∧ Fr h₀ L h' m' ∧ News h₀ L h' ((I, io) :: (const ++ led c)) ∧ (∀ p ∈ led c, p.1 ≠ I) ∧ (∀ p ∈ ps c, m' p.1 = some p.2) ∧ P c

theorem TurnP.next2 {σ : Type} {h₀ : Heap} {L : Addr} {I : Addr} {io : Obj} {const : List (Addr × Obj)} {led : σ → List (Addr × Obj)} {ps : σ → List (Str × Value)} {P : σ → Prop} {s₁ : Shared} {Q : Flow → Shared → Prop} {h' : Heap} {tk : Nat} {m' : Str → Option Value} {news' : List (Addr × Obj)} (c : σ)
    (F : Fr h₀ L h' m') (N : News h₀ L h' news') (hn : ∀ p ∈ (I, io) :: (const ++ led c), p ∈ news') (hc : ∀ p ∈ led c, p.1 ≠ I) (hp : ∀ p ∈ ps c, m' p.1 = some p.2) (h : P c) :
    TurnP h₀ L I io const led ps P s₁ Q .next { s₁ with heap := h', toks := tk } := ⟨c, h', tk, m', rfl, F, fun p q => N p (hn p q), hc, hp, h⟩
theorem TurnP.next {σ : Type} {h₀ : Heap} {L : Addr} {I : Addr} {io : Obj} {const : List (Addr × Obj)} {led : σ → List (Addr × Obj)} {ps : σ → List (Str × Value)} {P : σ → Prop} {s₁ : Shared} {Q : Flow → Shared → Prop} {h' : Heap} {tk : Nat} {m' : Str → Option Value} {news' : List (Addr × Obj)} (c : σ)
    (F : Fr h₀ L h' m') (N : News h₀ L h' news') (hn : ∀ p ∈ (I, io) :: (const ++ led c), p ∈ news') (hc : ∀ p ∈ led c, p.2.cls ≠ io.cls) (hp : ∀ p ∈ ps c, m' p.1 = some p.2) (h : P c) :
    TurnP h₀ L I io const led ps P s₁ Q .next { s₁ with heap := h', toks := tk } := TurnP.next2 c F N hn (fun p q e => by
    have h1 := (N p (hn p (.tail _ (List.mem_append_right _ q)))).1
    have h2 := (N (I, io) (hn _ (.head _))).1
    rw [e, h2] at h1
    exact hc p q (by rw [← Option.some.inj h1])) hp h

/-- the loop over whatever walks -/
theorem loop_mine {σ : Type} {I : Addr} {fp : List Addr} {n : Nat} {Pv : Nat → Value → Prop} {St : Nat → Heap → Prop} {m₀ : Str → Option Value} {const : List (Addr × Obj)} {ic : Value} (led : σ → List (Addr × Obj)) (ps : σ → List (Str × Value)) (P : Nat → σ → Prop) (c₀ : σ)
    (W : Walks prog w A I fp [I] n Pv St) (hfp : ∀ b ∈ fp, b = I ∨ (∃ o, h₀.get? b = some o) ∨ ∃ o, (b, o) ∈ const) (hcI : ∀ p ∈ const, p.1 ≠ I) (hI0 : h₀.get? I = none) (hst : St 0 s.heap) (hic : ∀ i h, St i h → ∃ o, h.get? I = some o ∧ o.cls = ic) (hIf : I ∈ fp)
    (F : Fr h₀ env.locals s.heap m₀) (N : News h₀ env.locals s.heap (const ++ led c₀)) (hl₀ : ∀ p ∈ led c₀, p.1 ≠ I) (hp₀ : ∀ p ∈ ps c₀, m₀ p.1 = some p.2) (hj : P 0 c₀) (hLI : env.locals ≠ I)
    (turn : ∀ i v c u h tk io, i < n → Pv i v → P i c → io.cls = ic → Fr h₀ env.locals h (fun y => if y = x then some v else kstB u (ps c) y) → News h₀ env.locals h ((I, io) :: (const ++ led c)) → (∀ p ∈ led c, p.1 ≠ I) → (∀ p ∈ const, p.1 ≠ I) →
      wpAny (model prog w) A (execs body env) (TurnP h₀ env.locals I io const led ps (P (i + 1)) { s with heap := h, toks := tk } Q) E { s with heap := h, toks := tk })
    (done : ∀ c u h tk, P n c → Fr h₀ env.locals h (kstB u (ps c)) → News h₀ env.locals h (const ++ led c) → Q .next { s with heap := h, toks := tk }) :
    LoopAtV prog w A h₀ env x body Q E (.ref I) s := by
  have hLf : env.locals ∉ fp := by
    intro hm
    rcases hfp _ hm with e | ⟨o, e⟩ | ⟨o, e⟩
    · exact hLI e
    · exact absurd (Heap.lt_size e) (Nat.not_lt.mpr F.above)
    · exact (N _ (List.mem_append_left _ e)).2.1 rfl
  refine ⟨I, fp, [I], n, Pv, St, m₀, const ++ led c₀, fun i m nx => ∃ c, nx = const ++ led c ∧ (∀ p ∈ ps c, m p.1 = some p.2) ∧ P i c, rfl, W, hLf, ?_, ?_, hst, F, N, ⟨c₀, rfl, hp₀, hj⟩, ?_, ?_⟩
  · intro b hb; rw [List.mem_singleton.mp hb]; exact hI0
  · intro p hp hb
    rcases List.mem_append.mp hp with q | q
    · exact hcI p q (List.mem_singleton.mp hb)
    · exact hl₀ p q (List.mem_singleton.mp hb)
  · rintro i v m₁ news₁ s₁ own ⟨h, tk, rfl⟩ hi hv ⟨c, rfl, hps, hP⟩ hoff hown hget hfpn hst' F₁ N₁
    obtain ⟨io, hio, hcls⟩ := hic _ _ hst'
    have hIo : (I, io) ∈ own := hfpn I hIf hI0 io hio
    have N₂ : News h₀ env.locals h ((I, io) :: (const ++ led c)) := by
      intro p hp
      rcases List.mem_cons.mp hp with rfl | hp
      · exact N₁ _ (List.mem_append_left _ hIo)
      · exact N₁ _ (List.mem_append_right _ hp)
    refine wpAny_mono (turn i v c m₁ h tk io hi hv hP hcls (fr_ofX hps F₁) N₂ (fun p hp e => hoff p (List.mem_append_right _ hp) (List.mem_singleton.mpr e)) hcI) (fun f s₂ q => ?_) fun _ _ e => e
    have fin : (∃ c' h' tk' m', s₂ = { s with heap := h', toks := tk' } ∧ Fr h₀ env.locals h' m' ∧ News h₀ env.locals h' ((I, io) :: (const ++ led c')) ∧ (∀ p ∈ led c', p.1 ≠ I) ∧ (∀ p ∈ ps c', m' p.1 = some p.2) ∧ P (i + 1) c') →
        LoopStepU h₀ env.locals [I] own (fun m nx => ∃ c, nx = const ++ led c ∧ (∀ p ∈ ps c, m p.1 = some p.2) ∧ P (i + 1) c) { s with heap := h, toks := tk } .next s₂ := by
      rintro ⟨c', h', tk', m', rfl, F', N', hc', hp', hP'⟩
      refine ⟨rfl, h', tk', m', const ++ led c', rfl, F', ?_, ?_, c', rfl, hp', hP'⟩
      · intro p hp
        rcases List.mem_append.mp hp with q | q
        · have hpg := hget p q
          rcases hfp _ (hown p q) with e | ⟨o, e⟩ | ⟨o, e⟩
          · have h2 : p.2 = io := by rw [e, hio] at hpg; exact (Option.some.inj hpg).symm
            have h3 : p = (I, io) := Prod.ext e h2
            rw [h3]; exact N' _ (.head _)
          · have := (N₁ p (List.mem_append_left _ q)).2.2
            rw [e] at this; cases this
          · have h2 := (N₁ _ (List.mem_append_right own (List.mem_append_left (led c) e))).1
            rw [hpg] at h2
            have h3 : p = (p.1, o) := Prod.ext rfl (Option.some.inj h2)
            rw [h3]; exact N' _ (.tail _ (List.mem_append_left _ e))
        · exact N' p (.tail _ q)
      · intro p hp hb
        have e := List.mem_singleton.mp hb
        rcases List.mem_append.mp hp with q | q
        · exact hcI p q e
        · exact hc' p q e
    cases f with
    | ret v => exact q
    | brk => exact q
    | next => exact fin q
    | cont => exact fin q
  · rintro h' tk m' news' F' N' _ ⟨c, rfl, hp, hP⟩
    exact done c m' h' tk hP (fr_of hp F') N'

theorem for_range {σ : Type} {r : Addr} {a₀ b₀ st : Int} {t₀ u₀ v₀ : Tok} {m₀ : Str → Option Value} {news : List (Addr × Obj)} (n : Nat) (g : Nat → Int) (const : List (Addr × Obj)) (led : σ → List (Addr × Obj)) (ps : σ → List (Str × Value)) (P : Nat → σ → Prop) (c₀ : σ)
    (hh : A.handled = none) (hr : IsRange s.heap r a₀ b₀ st t₀ u₀ v₀) (hsmall : Builtin.Range.small a₀ b₀ st = true) (hn : Builtin.Range.rangeSize a₀ b₀ st = (n : Int)) (hg : ∀ i : Nat, a₀ + (i : Int) * st = g i) (F : Fr h₀ env.locals s.heap m₀) (N : News h₀ env.locals s.heap news) (hnews : ∀ p ∈ const ++ led c₀, p ∈ news) (hp₀ : ∀ p ∈ ps c₀, m₀ p.1 = some p.2) (hj : P 0 c₀)
    (turn : ∀ i t c u h tk I io, i < n → P i c → io.cls = .type "range_iterator" → Fr h₀ env.locals h (fun y => if y = x then some (.int (g i) t) else kstB u (ps c) y) → News h₀ env.locals h ((I, io) :: (const ++ led c)) → (∀ p ∈ led c, p.1 ≠ I) → (∀ p ∈ const, p.1 ≠ I) →
      wpAny (model prog w) A (execs body env) (TurnP h₀ env.locals I io const led ps (P (i + 1)) { s with heap := h, toks := tk } Q) E { s with heap := h, toks := tk })
    (done : ∀ c u h tk, P n c → Fr h₀ env.locals h (kstB u (ps c)) → News h₀ env.locals h (const ++ led c) → Q .next { s with heap := h, toks := tk }) :
    wpAny (model prog w) A (pyIter (.ref r)) (fun it s₂ => LoopAtV prog w A h₀ env x body Q E it s₂) E s := by
  refine wpAny_pyIter_range hr hsmall ?_
  have W := Walks.range (prog := prog) (w := w) hh s.heap.objs.size a₀ st n
  have hlt : ∀ p ∈ const ++ led c₀, p.1 ≠ s.heap.objs.size := fun p hp => Nat.ne_of_lt (Heap.lt_size (N p (hnews p hp)).1)
  refine loop_mine (ic := .type "range_iterator") led ps P c₀ W ?_ (fun p hp => hlt p (List.mem_append_left _ hp)) (next_is_new F) ?_ ?_ (.head _) (F.push _) (fun p hp => ⟨Heap.get?_push_of_some _ (N p (hnews p hp)).1, (N p (hnews p hp)).2⟩) (fun p hp => hlt p (List.mem_append_right _ hp)) hp₀ hj (Nat.ne_of_lt F.ns.lt) ?_ ?_
  · intro b hb; exact .inl (List.mem_singleton.mp hb)
  · show IsRangeIter _ _ _ _ _
    rw [hn]; simpa using Heap.get?_push_size _ rfl
  · intro i h hst; exact ⟨_, hst, rfl⟩
  · rintro i v c u h tk io hi ⟨t, rfl⟩ hP hc F₁ N₁ h1 h2
    rw [hg] at F₁
    exact turn i t c u h tk _ io hi hP hc F₁ N₁ h1 h2
  · exact done

theorem for_list {σ : Type} {l : Addr} {vs : List Value} {m₀ : Str → Option Value} {news : List (Addr × Obj)} (const : List (Addr × Obj)) (led : σ → List (Addr × Obj)) (ps : σ → List (Str × Value)) (P : Nat → σ → Prop) (c₀ : σ)
    (hh : A.handled = none) (hl : s.heap.IsList l vs.toArray) (hlc : (∃ o, h₀.get? l = some o) ∨ ∃ o, (l, o) ∈ const) (F : Fr h₀ env.locals s.heap m₀) (N : News h₀ env.locals s.heap news) (hnews : ∀ p ∈ const ++ led c₀, p ∈ news) (hp₀ : ∀ p ∈ ps c₀, m₀ p.1 = some p.2) (hj : P 0 c₀)
    (turn : ∀ i v c u h tk I io, vs[i]? = some v → P i c → io.cls = .type "list_iterator" → Fr h₀ env.locals h (fun y => if y = x then some v else kstB u (ps c) y) → News h₀ env.locals h ((I, io) :: (const ++ led c)) → (∀ p ∈ led c, p.1 ≠ I) → (∀ p ∈ const, p.1 ≠ I) →
      wpAny (model prog w) A (execs body env) (TurnP h₀ env.locals I io const led ps (P (i + 1)) { s with heap := h, toks := tk } Q) E { s with heap := h, toks := tk })
    (done : ∀ c u h tk, P vs.length c → Fr h₀ env.locals h (kstB u (ps c)) → News h₀ env.locals h (const ++ led c) → Q .next { s with heap := h, toks := tk }) :
    wpAny (model prog w) A (pyIter (.ref l)) (fun it s₂ => LoopAtV prog w A h₀ env x body Q E it s₂) E s := by
  obtain ⟨ol, hol, _⟩ := id hl
  have hne : l ≠ s.heap.objs.size := Nat.ne_of_lt (Heap.lt_size hol)
  refine wpAny_pyIter_list hl ?_
  have W := Walks.list (prog := prog) (w := w) hh s.heap.objs.size l hne vs.toArray
  have hlt : ∀ p ∈ const ++ led c₀, p.1 ≠ s.heap.objs.size := fun p hp => Nat.ne_of_lt (Heap.lt_size (N p (hnews p hp)).1)
  refine loop_mine (ic := .type "list_iterator") led ps P c₀ W ?_ (fun p hp => hlt p (List.mem_append_left _ hp)) (next_is_new F) ⟨⟨_, Heap.get?_push_size _ rfl, rfl, rfl⟩, hl.at fun o e => Heap.get?_push_of_some _ e⟩ ?_ (.head _) (F.push _) (fun p hp => ⟨Heap.get?_push_of_some _ (N p (hnews p hp)).1, (N p (hnews p hp)).2⟩) (fun p hp => hlt p (List.mem_append_right _ hp)) hp₀ hj (Nat.ne_of_lt F.ns.lt) ?_ ?_
  · intro b hb
    rcases List.mem_cons.mp hb with e | e
    · exact .inl e
    · rw [List.mem_singleton.mp e]; exact .inr hlc
  · rintro i h ⟨⟨o, ho, hc, _⟩, _⟩; exact ⟨o, ho, hc⟩
  · rintro i v c u h tk io hi hv hP hc F₁ N₁ h1 h2
    exact turn i v c u h tk _ io (by simpa using hv) hP hc F₁ N₁ h1 h2
  · simpa using done

/-- behind a turn of a while -/
def TurnW {σ : Type} (h₀ : Heap) (L : Addr) (led : σ → List (Addr × Obj)) (ps : σ → List (Str × Value)) (P : σ → Prop) (μ : σ → Nat) (n : Nat) (s₁ : Shared) (Q : Flow → Shared → Prop) (f : Flow) (s₂ : Shared) : Prop :=
  match f with
  | .ret v => Q (.ret v) s₂
  | .brk => Q .next s₂
  | _ => ∃ c h' tk m', s₂ = { s₁ with heap := h', toks := tk } ∧ Fr h₀ L h' m' ∧ News h₀ L h' (led c) ∧ (∀ p ∈ ps c, m' p.1 = some p.2) ∧ P c ∧ μ c < n
theorem TurnW.next {σ : Type} {h₀ : Heap} {L : Addr} {led : σ → List (Addr × Obj)} {ps : σ → List (Str × Value)} {P : σ → Prop} {μ : σ → Nat} {n : Nat} {s₁ : Shared} {Q : Flow → Shared → Prop} {h' : Heap} {tk : Nat} {m' : Str → Option Value} {news' : List (Addr × Obj)} (c : σ)
    (F : Fr h₀ L h' m') (N : News h₀ L h' news') (hn : ∀ p ∈ led c, p ∈ news') (hp : ∀ p ∈ ps c, m' p.1 = some p.2) (h : P c) (hm : μ c < n) :
    TurnW h₀ L led ps P μ n s₁ Q .next { s₁ with heap := h', toks := tk } := ⟨c, h', tk, m', rfl, F, fun p q => N p (hn p q), hp, h, hm⟩
theorem while_mine {σ : Type} {test : PySem.Expr} {pos : Pos} {L : Addr} {m₀ : Str → Option Value} {news : List (Addr × Obj)} (led : σ → List (Addr × Obj)) (ps : σ → List (Str × Value)) (P : σ → Prop) (μ : σ → Nat) (c₀ : σ)
    (F : Fr h₀ L s.heap m₀) (N : News h₀ L s.heap news) (hnews : ∀ p ∈ led c₀, p ∈ news) (hp₀ : ∀ p ∈ ps c₀, m₀ p.1 = some p.2) (hj : P c₀)
    (turn : ∀ c u h tk, P c → Fr h₀ L h (kstB u (ps c)) → News h₀ L h (led c) →
      wpAny (model prog w) A (isTrue test env (eval test env)) (fun b s₂ =>
        if b = true then wpAny (model prog w) A (execs body env) (TurnW h₀ L led ps P μ (μ c) s Q) E s₂ else Q .next s₂) E { s with heap := h, toks := tk })
    (hE : PassesOwn (model prog w) A env E := by passes_own) :
    wpAny (model prog w) A (exec (.While test body [] pos) env) Q E s := by
  refine While_inv2 (fun n m nx => ∃ c : σ, nx = led c ∧ μ c = n ∧ (∀ p ∈ ps c, m p.1 = some p.2) ∧ P c) F (fun p hp => N p (hnews p hp)) ⟨c₀, rfl, rfl, hp₀, hj⟩ ?_ hE
  rintro n m₁ nx h tk F₁ N₁ ⟨c, rfl, rfl, hps, hP⟩
  refine wpAny_mono (turn c m₁ h tk hP (fr_of hps F₁) N₁) (fun b s₂ p => ?_) fun _ _ x => x
  cases b with
  | false => simpa using p
  | true =>
    simp only [if_true] at p ⊢
    refine wpAny_mono p (fun f s₃ q => ?_) fun _ _ x => x
    cases f with
    | ret v => exact q
    | brk => exact q
    | next =>
      obtain ⟨c', h', tk', m', rfl, F', N', hp', hP', hm⟩ := q
      exact ⟨h', tk', m', led c', μ c', rfl, F', N', hm, c', rfl, rfl, hp', hP'⟩
    | cont =>
      obtain ⟨c', h', tk', m', rfl, F', N', hp', hP', hm⟩ := q
      exact ⟨h', tk', m', led c', μ c', rfl, F', N', hm, c', rfl, rfl, hp', hP'⟩

/-- what stands when a loop or a statement is left -/
def ExitW {σ : Type} (h₀ : Heap) (L : Addr) (led : σ → List (Addr × Obj)) (ps : σ → List (Str × Value)) (X : σ → Prop) (s₁ s₂ : Shared) : Prop :=
  ∃ c h' tk m', s₂ = { s₁ with heap := h', toks := tk } ∧ Fr h₀ L h' m' ∧ News h₀ L h' (led c) ∧ (∀ p ∈ ps c, m' p.1 = some p.2) ∧ X c
theorem ExitW.here {σ : Type} {h₀ : Heap} {L : Addr} {led : σ → List (Addr × Obj)} {ps : σ → List (Str × Value)} {X : σ → Prop} {s₁ : Shared} {h' : Heap} {tk : Nat} {m' : Str → Option Value} {news' : List (Addr × Obj)} (c : σ)
    (F : Fr h₀ L h' m') (N : News h₀ L h' news') (hn : ∀ p ∈ led c, p ∈ news') (hp : ∀ p ∈ ps c, m' p.1 = some p.2) (h : X c) :
    ExitW h₀ L led ps X s₁ { s₁ with heap := h', toks := tk } := ⟨c, h', tk, m', rfl, F, fun p q => N p (hn p q), hp, h⟩
theorem while_mine2 {σ : Type} {test : PySem.Expr} {pos : Pos} {L : Addr} {m₀ : Str → Option Value} {news : List (Addr × Obj)} (led : σ → List (Addr × Obj)) (ps : σ → List (Str × Value)) (P : σ → Prop) (μ : σ → Nat) (X : σ → Prop) (c₀ : σ)
    (F : Fr h₀ L s.heap m₀) (N : News h₀ L s.heap news) (hnews : ∀ p ∈ led c₀, p ∈ news) (hp₀ : ∀ p ∈ ps c₀, m₀ p.1 = some p.2) (hj : P c₀)
    (turn : ∀ c u h tk, P c → Fr h₀ L h (kstB u (ps c)) → News h₀ L h (led c) →
      wpAny (model prog w) A (isTrue test env (eval test env)) (fun b s₂ =>
        if b = true then wpAny (model prog w) A (execs body env) (TurnW h₀ L led ps P μ (μ c) s Q) E s₂ else ExitW h₀ L led ps X s s₂) E { s with heap := h, toks := tk })
    (done : ∀ c u h tk, X c → Fr h₀ L h (kstB u (ps c)) → News h₀ L h (led c) → Q .next { s with heap := h, toks := tk })
    (hE : PassesOwn (model prog w) A env E := by passes_own) :
    wpAny (model prog w) A (exec (.While test body [] pos) env) Q E s := by
  refine while_mine led ps P μ c₀ F N hnews hp₀ hj (fun c u h tk a b d => wpAny_mono (turn c u h tk a b d) (fun t s₂ q => ?_) fun _ _ x => x) hE
  cases t with
  | true => exact q
  | false =>
    simp only [Bool.false_eq_true, if_false] at q ⊢
    obtain ⟨c', h', tk', m', rfl, F', N', hp', hX⟩ := q
    exact done c' m' h' tk' hX (fr_of hp' F') N'
/-- a statement whose ways meet behind it -/
theorem execs_mid {σ : Type} {st : Stmt} {rest : List Stmt} {L : Addr} (h₀ : Heap) (led : σ → List (Addr × Obj)) (ps : σ → List (Str × Value)) (X : σ → Prop)
    (h : wpAny (model prog w) A (exec st env) (fun f s' => match f with | .next => ExitW h₀ L led ps X s s' | f => Q f s') E s)
    (done : ∀ c u h tk, X c → Fr h₀ L h (kstB u (ps c)) → News h₀ L h (led c) → wpAny (model prog w) A (execs rest env) Q E { s with heap := h, toks := tk }) :
    wpAny (model prog w) A (execs (st :: rest) env) Q E s := by
  refine wpAny_execs_cons (wpAny_mono h (fun f s' q => ?_) fun _ _ x => x)
  cases f with
  | next =>
    obtain ⟨c', h', tk', m', rfl, F', N', hp', hX⟩ := q
    exact done c' m' h' tk' hX (fr_of hp' F') N'
  | _ => exact q
theorem exec_mid {σ : Type} {st : Stmt} {L : Addr} (h₀ : Heap) (led : σ → List (Addr × Obj)) (ps : σ → List (Str × Value)) (X : σ → Prop)
    (h : wpAny (model prog w) A (exec st env) (fun f s' => match f with | .next => ExitW h₀ L led ps X s s' | f => Q f s') E s)
    (done : ∀ c u h tk, X c → Fr h₀ L h (kstB u (ps c)) → News h₀ L h (led c) → Q .next { s with heap := h, toks := tk }) :
    wpAny (model prog w) A (exec st env) Q E s := by
  refine wpAny_mono h (fun f s' q => ?_) fun _ _ x => x
  cases f with
  | next =>
    obtain ⟨c', h', tk', m', rfl, F', N', hp', hX⟩ := q
    exact done c' m' h' tk' hX (fr_of hp' F') N'
  | _ => exact q
end
end Mine
end
section
open PySem PySem.W PyProof.Rows PySem.Calls PySem.Spec
set_option maxRecDepth 100000
set_option maxHeartbeats 8000000
namespace Mine
theorem small_mine {a b c : Int} (ha : -1000 ≤ a ∧ a ≤ 1000) (hb : -1000 ≤ b ∧ b ≤ 1000) (hc : -1000 ≤ c ∧ c ≤ 1000 ∧ c ≠ 0) : Builtin.Range.small a b c = true := by
  have h1 : 0 ≤ Builtin.Range.rangeSize a b c ∧ Builtin.Range.rangeSize a b c ≤ 2000 := by
    unfold Builtin.Range.rangeSize
    split
    · split
      · have := Int.ediv_le_self (a := b - a - 1) c (by omega)
        have := Int.ediv_nonneg (a := b - a - 1) (b := c) (by omega) (by omega)
        omega
      · omega
    · split
      · have := Int.ediv_le_self (a := a - b - 1) (-c) (by omega)
        have := Int.ediv_nonneg (a := a - b - 1) (b := -c) (by omega) (by omega)
        omega
      · omega
  unfold Builtin.Range.small
  simp only [Builtin.Range.rangeFitsLong, Bool.and_eq_true, Bool.or_eq_true, decide_eq_true_eq, beq_iff_eq]
  refine ⟨⟨⟨⟨?_, ?_⟩, ?_⟩, ?_⟩, .inr ?_⟩
  · omega
  · omega
  · omega
  · omega
  · split <;> simp only [Bool.and_eq_true, decide_eq_true_eq] <;> omega
def rangeL (a c : Int) (n : Nat) : List Int := (List.range n).map fun (i : Nat) => a + (i : Int) * c
theorem rangeL_length (a c : Int) (n : Nat) : (rangeL a c n).length = n := by simp [rangeL]
theorem intsAre_of : ∀ {vs : List Value} {ns : List Int}, vs.length = ns.length → (∀ i v, vs[i]? = some v → ∃ t : Tok, v = Value.int (ns.getD i 0) t) → IntsAre vs ns
  | [], [], _, _ => .nil
  | [], n :: ns, h, _ => by cases h
  | v :: vs, [], h, _ => by cases h
  | v :: vs, n :: ns, h, hh => by
    obtain ⟨t, ht⟩ := hh 0 v rfl
    have e : v = Value.int n t := ht
    rw [e]
    exact .cons n t (intsAre_of (by simpa using h) fun i u hu => hh (i + 1) u hu)
section
variable {prog : Program} {w : World} {A : Around} {E : Value → Shared → Prop} {s : Shared} {h₀ : Heap} {L : Addr} {m : Str → Option Value} {news : List (Addr × Obj)} {Q : Value → Shared → Prop}
theorem list_range {r : Addr} {a b c : Int} {t u v : Tok} (n : Nat) (hh : A.handled = none) (F : Fr h₀ L s.heap m) (N : News h₀ L s.heap news)
    (hr : IsRange s.heap r a b c t u v) (hsmall : Builtin.Range.small a b c = true) (hn : Builtin.Range.rangeSize a b c = (n : Int)) (hlen : n ≤ 1000)
    (h : ∀ l vs k h' tk, IntsAre vs (rangeL a c n) → (∀ p ∈ news, p.1 < l) → Fr h₀ L h' m → News h₀ L h' ((l, listOf vs.toArray k) :: news) → Q (.ref l) { s with heap := h', toks := tk }) :
    wpAny (model prog w) A (call (.type "list") [.ref r]) Q E s := by
  refine call_list_range hh hr hsmall hn (by omega) fun h' tk acc' c' hk hS' hacc => ?_
  refine h _ acc'.toList c' h' tk ?_ (fun p hp => Heap.lt_size (N p hp).1) (F.keeps hk) ?_
  · refine intsAre_of ?_ ?_
    · rw [rangeL_length]; simpa using hacc.1
    · intro i v hv
      have hi : i < n := by
        have := (List.getElem?_eq_some_iff.mp hv).1
        have h2 := hacc.1
        simp only [Array.length_toList] at this
        omega
      obtain ⟨t, ht⟩ := hacc.2 i v (by simpa using hv)
      refine ⟨t, ?_⟩
      rw [ht]
      simp [rangeL, List.getD_eq_getElem?_getD, hi]
  · refine News.addK F N hk (Heap.get?_none_of_le (Nat.le_refl _)) ?_
    rw [hS']
variable {value slice : PySem.Expr}
theorem intsAre_at {vs : List Value} {ns : List Int} (hi : IntsAre vs ns) {p : Nat} (hlt : p < ns.length) : ∃ t, vs[p]? = some (.int (ns.getD p 0) t) := by
  refine hi.get p _ ?_
  rw [List.getD_eq_getElem?_getD, List.getElem?_eq_getElem hlt]; rfl
theorem at_list {l : Addr} {vs : List Value} {ns : List Int} {i : Int} {p : Nat} {u : Tok} (hl : s.heap.IsList l vs.toArray) (hi : IntsAre vs ns) (hp : i = (p : Int)) (hlt : p < ns.length) (hz : ns.length ≤ 1000)
    (h : ∀ t, Q (.int (ns.getD p 0) t) s)
    (hs : subscripted slice false (.ref l) (.int i u) = operate [.ref l, .int i u] (getItem (.ref l) (.int i u)) := by with_unfolding_all rfl) :
    wpAny (model prog w) A (subscriptTail value slice (.ref l) (.int i u)) Q E s := by
  obtain ⟨t, ht⟩ := intsAre_at hi hlt
  exact tail_any hl.typeIs slot_list_getitem.lookup (wpAny_getItem_list hl (by omega) (by omega) (by rw [hp]; simpa using ht) (h t)) hs
theorem isList_news {l : Addr} {vs : List Value} {k : Nat} (N : News h₀ L s.heap news) (hm : (l, listOf vs.toArray k) ∈ news) : s.heap.IsList l vs.toArray := ⟨_, (N _ hm).1, rfl, k, rfl⟩
theorem ki_setL_some {v : Value} : ∀ {l : List Value} {p : Nat}, p < l.length → ki_setL l p v = some (l.set p v)
  | [], _, h => by cases h
  | a :: r, 0, _ => rfl
  | a :: r, p + 1, h => by
    have := ki_setL_some (v := v) (l := r) (p := p) (by simpa using h)
    simp [ki_setL, this]
theorem put_list {l : Addr} {vs : List Value} {k : Nat} {i : Int} {p : Nat} {u : Tok} {v : Value} {news' : List (Addr × Obj)} {Q : Unit → Shared → Prop} (F : Fr h₀ L s.heap m) (N : News h₀ L s.heap news) (hp : i = (p : Int)) (hlt : p < vs.length) (hz : vs.length ≤ 1000)
    (U : Upd l (listOf vs.toArray k) (listOf (vs.set p v).toArray k) news news') (h : ∀ h', Fr h₀ L h' m → News h₀ L h' news' → Q () { s with heap := h' }) : wpAny (model prog w) A (setItem (.ref l) (.int i u) v) Q E s :=
  ki_set F N (by omega) (by omega) (by rw [hp, Int.toNat_natCast]; exact ki_setL_some hlt) U h
theorem intsAre_set : ∀ {vs : List Value} {ns : List Int}, IntsAre vs ns → ∀ (p : Nat) (n : Int) (t : Tok), IntsAre (vs.set p (.int n t)) (ns.set p n)
  | _, _, .nil, _, _, _ => .nil
  | _, _, .cons a ta h, 0, n, t => .cons n t h
  | _, _, .cons a ta h, p + 1, n, t => .cons a ta (intsAre_set h p n t)
theorem rng2 {a b : Int} {t u : Tok} (F : Fr h₀ L s.heap m) (N : News h₀ L s.heap news)
    (h : ∀ r h' tk t₁ u₁ v₁, IsRange h' r a b 1 t₁ u₁ v₁ → Fr h₀ L h' m → News h₀ L h' news → Q (.ref r) { s with heap := h', toks := tk }) :
    wpAny (model prog w) A (call (.type "range") [.int a t, .int b u]) Q E s :=
  call_range_2 (h _ _ _ _ _ _ (IsRange.new ..) (F.push _) (N.pushKeep _))
end
end Mine
end
section
open PySem PySem.W PyProof.Rows PySem.Calls PySem.Spec
set_option maxRecDepth 100000
set_option maxHeartbeats 8000000
namespace Mine
abbrev one (c : Nat) : Str := ⟨#[c]⟩
abbrev txt (l : List Nat) : Str := ⟨l.toArray⟩
theorem txt_len (l : List Nat) : Str.length (txt l) = l.length := by show l.toArray.size = _; simp
theorem slice_from_txt {l : List Nat} {p : Nat} (h : p ≤ l.length) : Txt.slice (txt l) (some (p : Int)) none = txt (l.drop p) := by
  rw [slice_from_eq (b := ((txt l).length : Int)) (by omega) (by rw [txt_len]; omega) rfl]
  rw [txt_len]
  congr 2
  show ((l.toArray.toList.drop (p : Int).toNat).take _) = _
  rw [Int.toNat_natCast]
  rw [List.take_of_length_le (by simp)]
theorem slice_to_txt {l : List Nat} {j : Nat} (h : j ≤ l.length) : Txt.slice (txt l) none (some (j : Int)) = txt (l.take j) := by
  have e := eq_of_beq (slice_closes_toL (x := txt l) (j := (j : Int)) (by omega) (by rw [txt_len]; omega))
  rw [e]
  show (⟨(List.take _ (List.drop 0 l)).toArray⟩ : Str) = _
  rw [Int.sub_zero, Int.toNat_natCast, List.drop_zero]
theorem slice_neg_txt {l : List Nat} {q : Nat} (h0 : 0 < q) (h : q ≤ l.length) : Txt.slice (txt l) none (some (-(q : Int))) = txt (l.take (l.length - q)) := by
  rw [slice_to_neg (by omega), txt_len]
  rw [show (max 0 ((l.length : Int) + -(q : Int))) = ((l.length - q : Nat) : Int) by omega]
  exact slice_to_txt (by omega)
theorem slice_all (x : Str) : Txt.slice x none none = x := by
  unfold Txt.slice
  rw [if_pos]
  simp only [PySem.Builtin.Str.strSliceIndices, sliceRange]
  simp
  by_cases h : 0 < x.length
  · simp [h]
  · have : x.length = 0 := by omega
    simp [this]
theorem charAt_txt {l : List Nat} {i : Int} (h0 : -(l.length : Int) ≤ i) (h1 : i < l.length) : Txt.charAt (txt l) i = l[(if i < 0 then i + l.length else i).toNat]? := by
  unfold Txt.charAt seqIndex?
  simp only [txt_len]
  have h2 : 0 ≤ (if i < 0 then i + (l.length : Int) else i) := by split <;> omega
  have h3 : (if i < 0 then i + (l.length : Int) else i) < (l.length : Int) := by split <;> omega
  rw [if_pos (by simp only [Bool.and_eq_true, decide_eq_true_eq]; exact ⟨h2, h3⟩)]
  simp
theorem item_txt {l : List Nat} {i : Int} {p : Nat} (hp : i = (p : Int)) (h1 : p < l.length) : Txt.item (txt l) i = one (l.getD p 0) := by
  show (⟨#[_]⟩ : Str) = ⟨#[_]⟩
  rw [charAt_txt (by omega) (by omega), if_neg (by omega), hp, Int.toNat_natCast]
  rfl
theorem item_neg {l : List Nat} {i : Int} {q : Nat} (hp : i = -(q : Int) - 1) (h1 : q < l.length) : Txt.item (txt l) i = one (l.getD (l.length - 1 - q) 0) := by
  show (⟨#[_]⟩ : Str) = ⟨#[_]⟩
  rw [charAt_txt (by omega) (by omega), if_pos (by omega), show (i + (l.length : Int)).toNat = l.length - 1 - q by omega]
  rfl
section
variable {prog : Program} {w : World} {A : Around} {E : Value → Shared → Prop} {s : Shared} {value slice : PySem.Expr} {l : List Nat} {t : Tok} {h₀ : Heap} {L : Addr} {m : Str → Option Value} {news : List (Addr × Obj)} {Q : Value → Shared → Prop}
theorem cut_from {i : Int} {p : Nat} {ui : Tok} (hp : i = (p : Int)) (hF : Fr h₀ L s.heap m) (hN : News h₀ L s.heap news) (hl : p ≤ l.length) (hz : l.length ≤ 100) (h : ∀ h' t' k, Fr h₀ L h' m → News h₀ L h' news → Q (.str (txt (l.drop p)) t') { s with heap := h', toks := k })
    (hs : subscripted slice false (.str (txt l) t) (.ref s.heap.objs.size) = operate [.ref s.heap.objs.size, .str (txt l) t] (getItem (.str (txt l) t) (.ref s.heap.objs.size)) := by with_unfolding_all rfl)
    (ht : ∀ r, letTemporaryGo value (.str (txt l) t) r = pure () := by intro _; with_unfolding_all rfl) :
    wpAny (model prog w) A (subscriptTail value slice (.str (txt l) t) (.ref s.heap.objs.size)) Q E { s with heap := s.heap.push { cls := .type "slice", data := .fields #[.int i ui, .none, .none] } } :=
  slice_strN_sn hF hN (fun h' t' k a b => by rw [hp, slice_from_txt hl]; exact h h' t' k a b) hs ht (by rw [txt_len, sizeLine_eq]; omega)
theorem cut_to {i : Int} {q : Nat} {ui : Tok} (hp : i = -(q : Int)) (h0 : 0 < q) (hF : Fr h₀ L s.heap m) (hN : News h₀ L s.heap news) (hl : q ≤ l.length) (hz : l.length ≤ 100) (h : ∀ h' t' k, Fr h₀ L h' m → News h₀ L h' news → Q (.str (txt (l.take (l.length - q))) t') { s with heap := h', toks := k })
    (hs : subscripted slice false (.str (txt l) t) (.ref s.heap.objs.size) = operate [.ref s.heap.objs.size, .str (txt l) t] (getItem (.str (txt l) t) (.ref s.heap.objs.size)) := by with_unfolding_all rfl)
    (ht : ∀ r, letTemporaryGo value (.str (txt l) t) r = pure () := by intro _; with_unfolding_all rfl) :
    wpAny (model prog w) A (subscriptTail value slice (.str (txt l) t) (.ref s.heap.objs.size)) Q E { s with heap := s.heap.push { cls := .type "slice", data := .fields #[.none, .int i ui, .none] } } :=
  slice_strN_ns hF hN (fun h' t' k a b => by rw [hp, slice_neg_txt h0 hl]; exact h h' t' k a b) hs ht (by rw [txt_len, sizeLine_eq]; omega)
theorem cut_all (hF : Fr h₀ L s.heap m) (hN : News h₀ L s.heap news) (hz : l.length ≤ 100) (h : ∀ h' t' k, Fr h₀ L h' m → News h₀ L h' news → Q (.str (txt l) t') { s with heap := h', toks := k })
    (hs : subscripted slice false (.str (txt l) t) (.ref s.heap.objs.size) = operate [.ref s.heap.objs.size, .str (txt l) t] (getItem (.str (txt l) t) (.ref s.heap.objs.size)) := by with_unfolding_all rfl)
    (ht : ∀ r, letTemporaryGo value (.str (txt l) t) r = pure () := by intro _; with_unfolding_all rfl) :
    wpAny (model prog w) A (subscriptTail value slice (.str (txt l) t) (.ref s.heap.objs.size)) Q E { s with heap := s.heap.push { cls := .type "slice", data := .fields #[.none, .none, .none] } } :=
  slice_strN_nn hF hN (fun h' t' k a b => by rw [slice_all]; exact h h' t' k a b) hs ht (by rw [txt_len, sizeLine_eq]; omega)
theorem at_txt {i : Int} {p : Nat} {u : Tok} (hp : i = (p : Int)) (hl : p < l.length) (hz : l.length ≤ 100) (h : Q (.str (one (l.getD p 0)) s.toks) { s with toks := s.toks + 1 })
    (hs : subscripted slice false (.str (txt l) t) (.int i u) = operate [.str (txt l) t, .int i u] (getItem (.str (txt l) t) (.int i u)) := by with_unfolding_all rfl)
    (ht : ∀ r, letTemporaryGo value (.str (txt l) t) r = pure () := by intro _; with_unfolding_all rfl) :
    wpAny (model prog w) A (subscriptTail value slice (.str (txt l) t) (.int i u)) Q E s :=
  item_str (fitsSsize_of (N := 9223372036854775808) (by omega) (by omega) (Int.le_refl _)) (by rw [txt_len]; omega) (by rw [txt_len]; omega) (fun _ => by rw [item_txt hp hl]; exact h) hs ht
theorem at_neg {i : Int} {q : Nat} {u : Tok} (hp : i = -(q : Int) - 1) (hl : q < l.length) (hz : l.length ≤ 100) (h : Q (.str (one (l.getD (l.length - 1 - q) 0)) s.toks) { s with toks := s.toks + 1 })
    (hs : subscripted slice false (.str (txt l) t) (.int i u) = operate [.str (txt l) t, .int i u] (getItem (.str (txt l) t) (.int i u)) := by with_unfolding_all rfl)
    (ht : ∀ r, letTemporaryGo value (.str (txt l) t) r = pure () := by intro _; with_unfolding_all rfl) :
    wpAny (model prog w) A (subscriptTail value slice (.str (txt l) t) (.int i u)) Q E s :=
  item_str (fitsSsize_of (N := 9223372036854775808) (by omega) (by omega) (Int.le_refl _)) (by rw [txt_len]; omega) (by rw [txt_len]; omega) (fun _ => by rw [item_neg hp hl]; exact h) hs ht
theorem len_txt (hz : l.length ≤ 100) (h : Q (.int (l.length : Int) (s.toks + 1)) { s with toks := s.toks + 1 + 1 }) : wpAny (model prog w) A (call (.builtin "len") [.str (txt l) t]) Q E s :=
  PyProof.Rows.len_str (by rw [txt_len]; omega) (by rw [txt_len]; exact h)
theorem tru_txt {Q : Bool → Shared → Prop} (hz : l.length ≤ 100) (h1 : 0 < l.length → Q true { s with toks := s.toks + 1 + 1 }) (h2 : l.length = 0 → Q false { s with toks := s.toks + 1 + 1 }) : wpAny (model prog w) A (truthy (.str (txt l) t)) Q E s := by
  refine SBL.truthy (by rw [txt_len]; omega) ?_
  rw [txt_len]
  cases l with
  | nil => exact h2 rfl
  | cons a r => exact h1 (Nat.succ_pos _)
theorem eq_one {a b : Nat} {u : Tok} (h1 : a = b → Q (.bool true) s) (h2 : a ≠ b → Q (.bool false) s) : wpAny (model prog w) A (compareOp .Eq (.str (one a) t) (.str (one b) u)) Q E s := by
  refine PyProof.Rows.eq_str ?_
  by_cases h : a = b
  · subst h; rw [show ((one a : Str) == one a) = true from beq_self_eq_true _]; exact h1 rfl
  · rw [show ((one a : Str) == one b) = false from beq_eq_false_iff_ne.mpr (fun e => h (by injection e with e; injection e with e; injection e with e))]; exact h2 h
end
end Mine
end
section
open PySem PySem.W PyProof.Rows PySem.Calls PySem.Spec
set_option maxRecDepth 100000
set_option maxHeartbeats 8000000
namespace Mine

def cost (x y : Nat) : Int := if x = y then 0 else 2
def rowStep (bc : Nat) : Int → Int → Int → List Nat → List Int → List Int × Int × Int
  | d, r, m, c :: as, x :: xs =>
    let r' := min (min r x + 2) (d + cost bc c)
    let y := rowStep bc x r' (if r' < m then r' else m) as xs
    (r' :: y.1, y.2.1, y.2.2)
  | _, r, m, _, _ => ([], r, m)
def bigM : Int := 9223372036854775807
def rowsF (mc : Int) (a : List Nat) : Nat → List Nat → List Int → Int → Int
  | i, bc :: bs, row, _ =>
    let y := rowStep bc ((i : Int) * 2) ((i : Int) * 2) bigM a row
    if y.2.2 > mc then mc + 1 else rowsF mc a (i + 1) bs y.1 y.2.1
  | _, [], _, res => res
def core (a b : List Nat) (mc : Int) : Int :=
  if ((b.length : Int) - (a.length : Int)) * 2 > mc then mc + 1
  else rowsF mc a 0 b ((List.range a.length).map fun (i : Nat) => 2 * ((i : Int) + 1)) 0
def strip2 (a b : List Nat) (mc : Int) : Int :=
  if a.length = 0 ∨ b.length = 0 then 2 * ((a.length : Int) + (b.length : Int))
  else if b.length < a.length then core b a mc else core a b mc
def cpl : List Nat → List Nat → Nat
  | x :: a, y :: b => if x = y then cpl a b + 1 else 0
  | _, _ => 0
def strip1 (a b : List Nat) (mc : Int) : Int := strip2 (a.take (a.length - cpl a.reverse b.reverse)) (b.take (b.length - cpl a.reverse b.reverse)) mc
def levF (a b : List Nat) (mc : Int) : Int := if a = b then 0 else strip1 (a.drop (cpl a b)) (b.drop (cpl a b)) mc
theorem cpl_of : ∀ (a b : List Nat) (p : Nat), p ≤ a.length → p ≤ b.length → a.take p = b.take p → (a.length = p ∨ b.length = p ∨ a.getD p 0 ≠ b.getD p 0) → cpl a b = p
  | [], b, p, h1, _, _, _ => by have : p = 0 := by simpa using h1
                                subst this; rfl
  | x :: a, [], p, _, h2, _, _ => by have : p = 0 := by simpa using h2
                                     subst this; rfl
  | x :: a, y :: b, 0, _, _, _, h => by
    have : x ≠ y := by
      rcases h with h | h | h
      · cases h
      · cases h
      · exact h
    simp [cpl, this]
  | x :: a, y :: b, p + 1, h1, h2, h3, h => by
    simp only [List.take_succ_cons, List.cons.injEq] at h3
    simp only [List.length_cons, Nat.add_le_add_iff_right, Nat.add_right_cancel_iff, List.getD_cons_succ] at h1 h2 h
    simp [cpl, h3.1, cpl_of a b p h1 h2 h3.2 h]
theorem take_getD {l : List Nat} {p : Nat} (h : p < l.length) : l.take (p + 1) = l.take p ++ [l.getD p 0] := by
  rw [List.take_add_one, List.getD_eq_getElem?_getD, List.getElem?_eq_getElem h]; rfl
theorem drop_getD {l : List Nat} {q : Nat} (h : q < l.length) : l.drop (l.length - (q + 1)) = l.getD (l.length - 1 - q) 0 :: l.drop (l.length - q) := by
  rw [show l.length - q = (l.length - (q + 1)) + 1 by omega, ← List.getElem_cons_drop (as := l) (i := l.length - (q + 1)) (by omega)]
  rw [List.getD_eq_getElem?_getD, List.getElem?_eq_getElem (by omega)]
  simp only [Option.getD_some]
  congr 2
  omega
theorem cpl_rev (a b : List Nat) (q : Nat) (h1 : q ≤ a.length) (h2 : q ≤ b.length) (h3 : a.drop (a.length - q) = b.drop (b.length - q)) (h : a.length = q ∨ b.length = q ∨ a.getD (a.length - 1 - q) 0 ≠ b.getD (b.length - 1 - q) 0) : cpl a.reverse b.reverse = q := by
  refine cpl_of _ _ q (by simpa using h1) (by simpa using h2) ?_ ?_
  · rw [List.take_reverse, List.take_reverse, h3]
  · simp only [List.length_reverse]
    rcases h with h | h | h
    · exact .inl h
    · exact .inr (.inl h)
    · by_cases ha : a.length = q
      · exact .inl ha
      by_cases hb : b.length = q
      · exact .inr (.inl hb)
      refine .inr (.inr ?_)
      simpa [List.getD_eq_getElem?_getD, List.getElem?_reverse (show q < a.length by omega), List.getElem?_reverse (show q < b.length by omega)] using h
theorem strip2_zero {a b : List Nat} {mc : Int} (h : a.length = 0 ∨ b.length = 0) : 2 * ((a.length : Int) + (b.length : Int)) = strip2 a b mc := by unfold strip2; rw [if_pos h]
theorem strip2_swap {a b : List Nat} {mc : Int} (h1 : 0 < a.length) (h2 : 0 < b.length) (h : b.length < a.length) : strip2 a b mc = core b a mc := by unfold strip2; rw [if_neg (by omega), if_pos h]
theorem strip2_keep {a b : List Nat} {mc : Int} (h1 : 0 < a.length) (h2 : 0 < b.length) (h : ¬ b.length < a.length) : strip2 a b mc = core a b mc := by unfold strip2; rw [if_neg (by omega), if_neg h]
theorem core_out {a b : List Nat} {mc : Int} (h : mc < ((b.length : Int) - (a.length : Int)) * 2) : mc + 1 = core a b mc := by unfold core; rw [if_pos h]
theorem core_in {a b : List Nat} {mc : Int} (h : ¬ mc < ((b.length : Int) - (a.length : Int)) * 2) : core a b mc = rowsF mc a 0 b ((List.range a.length).map fun (i : Nat) => 2 * ((i : Int) + 1)) 0 := by unfold core; rw [if_neg h]
theorem rs2 (n : Nat) : PySem.Builtin.Range.rangeSize 2 (2 * ((n : Int) + 1)) 2 = (n : Int) := by
  unfold PySem.Builtin.Range.rangeSize
  simp only [show (2 : Int) > 0 by decide, if_true]
  split <;> omega
theorem rs1 (n : Nat) : PySem.Builtin.Range.rangeSize 0 (n : Int) 1 = (n : Int) := by
  unfold PySem.Builtin.Range.rangeSize
  simp only [show (1 : Int) > 0 by decide, if_true]
  split <;> omega
structure LO where
  (l : Addr) (vs : List Value) (ns : List Int) (k : Nat) (res : Int) (t : Nat)
structure LI where
  (vs : List Value) (ns : List Int) (k : Nat) (d r m : Int) (td tr tm : Nat)
theorem row0 (n : Nat) : rangeL 2 2 n = (List.range n).map fun (i : Nat) => 2 * ((i : Int) + 1) := by
  unfold rangeL
  refine List.map_congr_left fun i _ => ?_
  omega
theorem drop_cons {l : List Nat} {i : Nat} (h : i < l.length) : l.drop i = l.getD i 0 :: l.drop (i + 1) := by
  rw [← List.getElem_cons_drop (as := l) (i := i) h, List.getD_eq_getElem?_getD, List.getElem?_eq_getElem h]; rfl
theorem drop_consI {l : List Int} {i : Nat} (h : i < l.length) : l.drop i = l.getD i 0 :: l.drop (i + 1) := by
  rw [← List.getElem_cons_drop (as := l) (i := i) h, List.getD_eq_getElem?_getD, List.getElem?_eq_getElem h]; rfl
theorem rowsF_step {mc : Int} {a y : List Nat} {i : Nat} {row : List Int} {res : Int} (h : i < y.length) :
    rowsF mc a i (y.drop i) row res = (if (rowStep (y.getD i 0) ((i : Int) * 2) ((i : Int) * 2) bigM a row).2.2 > mc then mc + 1 else rowsF mc a (i + 1) (y.drop (i + 1)) (rowStep (y.getD i 0) ((i : Int) * 2) ((i : Int) * 2) bigM a row).1 (rowStep (y.getD i 0) ((i : Int) * 2) ((i : Int) * 2) bigM a row).2.1) := by
  rw [drop_cons h]; rfl
theorem rowStep_step {bc : Nat} {d r m : Int} {x : List Nat} {ns : List Int} {j : Nat} (h1 : j < x.length) (h2 : j < ns.length) :
    rowStep bc d r m (x.drop j) (ns.drop j) = (let r' := min (min r (ns.getD j 0) + 2) (d + cost bc (x.getD j 0)); let y := rowStep bc (ns.getD j 0) r' (if r' < m then r' else m) (x.drop (j + 1)) (ns.drop (j + 1)); (r' :: y.1, y.2.1, y.2.2)) := by
  rw [drop_cons h1, drop_consI h2]; rfl
theorem rowStep_inv {bc : Nat} {d r m : Int} {x : List Nat} {ns : List Int} {j : Nat} {full : List Int × Int × Int} (h1 : j < x.length) (h2 : j < ns.length)
    (hf : full = (ns.take j ++ (rowStep bc d r m (x.drop j) (ns.drop j)).1, (rowStep bc d r m (x.drop j) (ns.drop j)).2)) (r' : Int) (hr : r' = min (min r (ns.getD j 0) + 2) (d + cost bc (x.getD j 0))) (m' : Int) (hm : m' = if r' < m then r' else m) :
    full = ((ns.set j r').take (j + 1) ++ (rowStep bc (ns.getD j 0) r' m' (x.drop (j + 1)) ((ns.set j r').drop (j + 1))).1, (rowStep bc (ns.getD j 0) r' m' (x.drop (j + 1)) ((ns.set j r').drop (j + 1))).2) := by
  rw [hf, rowStep_step h1 h2]
  subst hr
  subst hm
  simp only
  rw [List.drop_set_of_lt (by omega)]
  have e : (ns.set j (min (min r (ns.getD j 0) + 2) (d + cost bc (x.getD j 0)))).take (j + 1) = ns.take j ++ [min (min r (ns.getD j 0) + 2) (d + cost bc (x.getD j 0))] := by
    rw [List.take_add_one, List.getElem?_set_self h2, List.take_set_of_le (Nat.le_refl _)]; rfl
  rw [e]
  simp
theorem step_is {x y : Nat} {n r d : Int} : (if (d + if x = y then (0 : Int) else 2) < (if n < r then n else r) + 2 then (d + if x = y then (0 : Int) else 2) else (if n < r then n else r) + 2) = min (min r n + 2) (d + cost x y) := by
  have e : (if x = y then (0 : Int) else 2) = cost x y := rfl
  rw [e]
  generalize cost x y = c
  split <;> split <;> omega
theorem step_lt {r m : Int} : (if r < m then r else m) = if r < m then r else m := rfl
end Mine
end
section
open PySem PySem.W PyProof.Rows PySem.Calls PySem.Spec
set_option maxRecDepth 100000
set_option maxHeartbeats 8000000
namespace Mine
theorem fill_C1s : PySem.Challenge.rw_sc0035_02.foot = 6 ∧ hd.heap_39 = hd.heap_39 := by
  w_top off
  k_fill
  exact ⟨rfl, rfl⟩
theorem one_lower : ∀ c : Nat, c < 81 → 65 ≤ c → Txt.lower (one c) = one (c + 32) := by decide +kernel
theorem oneb_eq {a b : Nat} : (one a == one b) = true ↔ a = b := by
  rw [beq_iff_eq]; constructor
  · intro e; injection e with e; injection e with e; injection e with e
  · rintro rfl; rfl
theorem c_subst {w : World} {A : Around} {s : Shared} {Q E : Value → Shared → Prop} (C : Cx 1 w A s.heap)
    {a b : Nat} {ta tb : Tok} (ha : 65 ≤ a ∧ a < 81) (hb : 65 ≤ b ∧ b < 81)
    (h : ∀ t h' tk, Keeps s.heap h' → Q (.int (if a = b then 0 else 2) t) { s with heap := h', toks := tk }) :
    wpAny (model PR w) A (call (.ref 42) [.str (one a) ta, .str (one b) tb]) Q E s := by
  obtain ⟨X, ⟨prg, loose, mean, mg, mb, T⟩, hh, hroom, hun⟩ := C
  obtain ⟨_, dp, fr, gd, un⟩ := A
  cases hh
  replace hroom : dp + 1 < recursionLimit := hroom
  replace hun : un + 40 < cLine := hun
  have h2 : ∀ z t h' tk, z = (if a = b then (0 : Int) else 2) → Keeps s.heap h' → Q (.int z t) { s with heap := h', toks := tk } := by rintro _ t h' tk rfl k; exact h t h' tk k
  have h1 : (one a).length ≤ 10 := by show 1 ≤ 10; omega
  have h3 : (one b).length ≤ 10 := by show 1 ≤ 10; omega
  refine own_call [(Str.ofString "ch_a", .str (one a) ta), (Str.ofString "ch_b", .str (one b) tb)] X T (by k_is) (by k_is) (by (show dp < _); omega) (BindsTo.of_eq rfl) (locs rfl) (fun L h₁ tk F N => ?_) (by decide) rfl rfl rfl
  k_fold
  (repeat' (first | (k_unfold; (try dsimp only)) | ((fail_if_success (with_reducible show wpAny _ _ (PySem.exec (PySem.Stmt.While _ _ _ _) _) _ _ _)); (fail_if_success (with_reducible show wpAny _ _ (PySem.exec (PySem.Stmt.For _ _ _ _ _) _) _ _ _)); (fail_if_success (with_reducible show wpAny _ _ (PySem.pyIter _) _ _ _)); first | walk1 | (dsimp only; walk1) | (leave1; try dsimp only))))
  all_goals (refine h2 _ _ _ _ ?_ (Fr.keep (by assumption)))
  · rename ((one a == one b) = true) => e
    rw [oneb_eq] at e; simp [e]
  · rename ((one a == one b) = false) => e
    rename ((Txt.lower (one a) == Txt.lower (one b)) = true) => e'
    rw [one_lower a ha.2 ha.1, one_lower b hb.2 hb.1, oneb_eq] at e'
    have e2 : a = b := by omega
    rw [e2] at e; simp at e
  · rename ((one a == one b) = false) => e
    have e2 : ¬ a = b := fun z => by rw [z] at e; simp at e
    simp [e2]
end Mine
end
section
open PySem PySem.W PyProof.Rows PySem.Calls PySem.Spec
set_option maxRecDepth 100000
set_option maxHeartbeats 8000000
namespace Mine
theorem fill_C1n : PySem.Challenge.rw_sc0035_02.foot = 6 ∧ hd.heap_39 = hd.heap_39 := by
  w_top off
  k_fill
  exact ⟨rfl, rfl⟩
theorem c_number {w : World} {A : Around} {s : Shared} {Q E : Value → Shared → Prop} (C : Cx 1 w A s.heap)
    {l : Addr} {vs : List Value} {ns : List Int} (hl : s.heap.IsList l vs.toArray) (hi : IntsAre vs ns)
    (h : ∀ t h' tk, Keeps s.heap h' → Q (.int (ns.foldl (fun a n => 16 * a + n) 0) t) { s with heap := h', toks := tk }) :
    wpAny (model PR w) A (call (.ref 56) [.ref l]) Q E s := by
  obtain ⟨X, ⟨prg, loose, mean, mg, mb, T⟩, hh, hroom, hun⟩ := C
  obtain ⟨_, dp, fr, gd, un⟩ := A
  cases hh
  refine own_call [(Str.ofString "cards", .ref l)] X T (by k_is) (by k_is) (by (show dp < _); (replace hroom : dp + 1 < recursionLimit := hroom); omega) (BindsTo.of_eq rfl) (locs rfl) (fun L h₁ tk F N => ?_) (by decide) rfl rfl rfl
  k_fold
  try k_steps
  have h2 : ∀ z t h' tk, z = ns.foldl (fun a n => 16 * a + n) 0 → Keeps s.heap h' → Q (.int z t) { s with heap := h', toks := tk } := by rintro _ t h' tk rfl k; exact h t h' tk k
  exact h2 _ _ _ _ (fold1 (fun a n => 16 * a + n) ns 0) (Fr.keep (by assumption))
end Mine
end
section
open PySem PySem.W PyProof.Rows PySem.Calls PySem.Spec
set_option maxRecDepth 100000
set_option maxHeartbeats 8000000
namespace Mine
theorem fill_C1ap : PySem.Challenge.rw_sc0035_02.foot = 6 ∧ hd.heap_39 = hd.heap_39 := by
  w_top off
  k_fill
  exact ⟨rfl, rfl⟩
def val16 (ds : List Nat) : Nat := ds.foldl (fun a d => 16 * a + d) 0
theorem val16_snoc (ds : List Nat) (d : Nat) : val16 (ds ++ [d]) = 16 * val16 ds + d := by simp [val16]
theorem val16_ge (ds : List Nat) : ∀ a, a ≤ ds.foldl (fun a d => 16 * a + d) a := by
  induction ds with
  | nil => intro a; exact Nat.le_refl _
  | cons d r ih => intro a; have := ih (16 * a + d); simp only [List.foldl_cons]; omega
def ap (ds : List Nat) : Array UInt8 := (ds.map fun d => UInt8.ofNat (65 + d)).toArray
abbrev APs : Array UInt8 := #[65, 66, 67, 68, 69, 70, 71, 72, 73, 74, 75, 76, 77, 78, 79, 80]
theorem ap_cut : ∀ d : Nat, d < 16 → KBy.whole APs (some (d : Int)) (some ((d : Int) + 1)) = false ∧ KBy.picked APs (some (d : Int)) (some ((d : Int) + 1)) = #[UInt8.ofNat (65 + d)] := by decide +kernel
theorem c_ap {w : World} {A : Around} {s : Shared} {Q E : Value → Shared → Prop} (C : Cx 1 w A s.heap)
    {n : Int} {tn : Tok} {ds : List Nat} (hn : n.natAbs = val16 ds) (hd : ∀ d ∈ ds, d < 16) (h0 : ds.head? ≠ some 0) (hlen : ds.length ≤ 8)
    (h : ∀ t h' tk, Keeps s.heap h' → Q (.bytes (ap ds) t) { s with heap := h', toks := tk }) :
    wpAny (model PR w) A (call (.ref 21) [.int n tn]) Q E s := by
  obtain ⟨X, ⟨prg, loose, mean, mg, mb, T⟩, hh, hroom, hun⟩ := C
  obtain ⟨_, dp, fr, gd, un⟩ := A
  cases hh
  replace hroom : dp + 1 < recursionLimit := hroom
  replace hun : un + 40 < cLine := hun
  refine own_call [(Str.ofString "num", .int n tn)] X T (by k_is) (by k_is) (by (show dp < _); omega) (BindsTo.of_eq rfl) (locs rfl) (fun L h₁ tk F N => ?_) (by decide) rfl rfl rfl
  k_fold
  (repeat' (first | (k_unfold; (try dsimp only)) | ((fail_if_success (with_reducible show wpAny _ _ (PySem.exec (PySem.Stmt.While _ _ _ _) _) _ _ _)); (fail_if_success (with_reducible show wpAny _ _ (PySem.exec (PySem.Stmt.For _ _ _ _ _) _) _ _ _)); (fail_if_success (with_reducible show wpAny _ _ (PySem.pyIter _) _ _ _)); first | walk1 | (dsimp only; walk1) | (leave1; try dsimp only))))
  have e : (if n < 0 then -n else n) = ((val16 ds : Nat) : Int) := by rw [← hn]; split <;> omega
  rename Fr _ _ _ _ => F1
  rename News _ _ _ _ => N1
  refine while_mine (σ := List Nat × List Nat × Nat × Nat × Nat) (fun _ => []) (fun c => [(Str.ofString "num", .int ((val16 c.1 : Nat) : Int) c.2.2.1), (Str.ofString "val", .bytes (ap c.2.1) c.2.2.2.1), (Str.ofString "AP", .bytes APs c.2.2.2.2)])
    (fun c => c.1 ++ c.2.1 = ds) (fun c => c.1.length) ⟨ds, [], ?ta, ?tb, ?tc⟩ F1 N1 (fun _ h => nomatch h) ?hp (by simp) (fun c u h tk hP F2 N2 => ?turn)
  case hp =>
    rw [← e]
    ((repeat' (first | exact List.forall_mem_nil _ | (refine List.forall_mem_cons.mpr ⟨by with_unfolding_all rfl, ?_⟩))))
  case turn =>
  obtain ⟨pre, post, t1, t2, t3⟩ := c
  dsimp only at hP F2 N2 ⊢
  k_fold
  (repeat' (first | (k_unfold; (try dsimp only)) | ((fail_if_success (with_reducible show wpAny _ _ (PySem.exec (PySem.Stmt.While _ _ _ _) _) _ _ _)); (fail_if_success (with_reducible show wpAny _ _ (PySem.exec (PySem.Stmt.For _ _ _ _ _) _) _ _ _)); (fail_if_success (with_reducible show wpAny _ _ (PySem.pyIter _) _ _ _)); first | walk1 | (dsimp only; walk1) | (leave1; try dsimp only))))
  · rename ((val16 _ : Nat) : Int) ≠ 0 => hne
    rename Fr _ _ _ _ => F'
    rename News _ _ _ _ => N'
    have hd2 : ∀ d ∈ pre, d < 16 := fun d hm => hd d (hP ▸ List.mem_append_left _ hm)
    obtain ⟨pre', d, rfl⟩ : ∃ pre' d, pre = pre' ++ [d] := by
      rcases List.eq_nil_or_concat pre with e | ⟨p, d, e⟩
      · subst e; exact absurd rfl hne
      · exact ⟨p, d, by simpa using e⟩
    have hd3 : d < 16 := hd2 d (by simp)
    have e1 : ((val16 (pre' ++ [d]) : Nat) : Int).fmod 16 = (d : Int) := by rw [val16_snoc, Int.fmod_eq_emod_of_nonneg _ (by decide)]; omega
    have e2 : ((val16 (pre' ++ [d]) : Nat) : Int).fdiv 16 = ((val16 pre' : Nat) : Int) := by rw [val16_snoc, Int.fdiv_eq_ediv_of_nonneg _ (by decide)]; omega
    have hlen2 : post.length ≤ 8 := by rw [← hP] at hlen; simp at hlen; omega
    have hc := ap_cut d hd3
    rw [← e1] at hc
    refine KBy.slice_N (s := ⟨_, _, _, _, _⟩) F' N' (by constructor) (by constructor) hc.1 (by rw [hc.2]; simp) ?_
    intro h5 t5 k5 F5 N5
    (repeat' (first | (k_unfold; (try dsimp only)) | ((fail_if_success (with_reducible show wpAny _ _ (PySem.exec (PySem.Stmt.While _ _ _ _) _) _ _ _)); (fail_if_success (with_reducible show wpAny _ _ (PySem.exec (PySem.Stmt.For _ _ _ _ _) _) _ _ _)); (fail_if_success (with_reducible show wpAny _ _ (PySem.pyIter _) _ _ _)); first | walk1 | (dsimp only; walk1) | (leave1; try dsimp only))))
    refine KBy.add_bytes ?_ ?_
    · rw [hc.2]; simp [ap]; omega
    intro t6 k6
    (repeat' (first | (k_unfold; (try dsimp only)) | ((fail_if_success (with_reducible show wpAny _ _ (PySem.exec (PySem.Stmt.While _ _ _ _) _) _ _ _)); (fail_if_success (with_reducible show wpAny _ _ (PySem.exec (PySem.Stmt.For _ _ _ _ _) _) _ _ _)); (fail_if_success (with_reducible show wpAny _ _ (PySem.pyIter _) _ _ _)); first | walk1 | (dsimp only; walk1) | (leave1; try dsimp only))))
    have e3 : KBy.picked APs (some ((↑(val16 (pre' ++ [d])) : Int).fmod 16)) (some ((↑(val16 (pre' ++ [d])) : Int).fmod 16 + 1)) ++ ap post = ap (d :: post) := by rw [hc.2]; simp [ap]
    refine TurnW.next (pre', d :: post, ?ua, ?ub, ?uc) (by assumption) (by assumption) (fun _ h => nomatch h) ?hp2 (by simpa using hP) (by simp)
    case hp2 =>
      rw [← e2, ← e3]
      ((repeat' (first | exact List.forall_mem_nil _ | (refine List.forall_mem_cons.mpr ⟨by with_unfolding_all rfl, ?_⟩))))
  · have hpre : pre = [] := by
      cases pre with
      | nil => rfl
      | cons x r =>
        exfalso
        rename ((val16 _ : Nat) : Int) = 0 => hz
        have h1 := val16_ge r (16 * 0 + x)
        have h2 : val16 (x :: r) = 0 := by omega
        have h3 : x = 0 := by simp only [val16, List.foldl_cons] at h2; omega
        rw [← hP, h3] at h0
        exact h0 rfl
    subst hpre
    have e4 : post = ds := hP
    subst e4
    exact h _ _ _ (Fr.keep F2)
end Mine
end
section
open PySem PySem.W PyProof.Rows PySem.Calls PySem.Spec
set_option maxRecDepth 100000
set_option maxHeartbeats 8000000
namespace Mine
theorem fill_C1lev : PySem.Challenge.rw_sc0035_02.foot = 6 ∧ hd.heap_39 = hd.heap_39 := by
  w_top off
  k_fill
  exact ⟨rfl, rfl⟩
theorem c_lev {w : World} {A : Around} {s : Shared} {Q E : Value → Shared → Prop} (C : Cx 2 w A s.heap)
    {a b : List Nat} {ta tb tm : Tok} {mc : Int} (ha : ∀ c ∈ a, 65 ≤ c ∧ c < 81) (hb : ∀ c ∈ b, 65 ≤ c ∧ c < 81) (hla : a.length ≤ 8) (hlb : b.length ≤ 8)
    (h : ∀ t h' tk, Keeps s.heap h' → Q (.int (levF a b mc) t) { s with heap := h', toks := tk }) :
    wpAny (model PR w) A (call (.ref 49) [.str (txt a) ta, .str (txt b) tb, .int mc tm]) Q E s := by
  obtain ⟨X, ⟨prg, loose, mean, mg, mb, T⟩, hh, hroom, hun⟩ := C
  obtain ⟨_, dp, fr, gd, un⟩ := A
  cases hh
  replace hroom : dp + 2 < recursionLimit := hroom
  replace hun : un + 60 < cLine := hun
  have h2 : ∀ z t h' tk, z = levF a b mc → Keeps s.heap h' → Q (.int z t) { s with heap := h', toks := tk } := by rintro _ t h' tk rfl k; exact h t h' tk k
  refine own_call [(Str.ofString "a", .str (txt a) ta), (Str.ofString "b", .str (txt b) tb), (Str.ofString "max_cost", .int mc tm)] X T (by k_is) (by k_is) (by (show dp < _); omega) (BindsTo.of_eq rfl) (locs rfl) (fun L h₁ tk F N => ?_) (by decide) rfl rfl rfl
  k_fold
  (repeat' (first | (k_unfold; (try dsimp only)) | ((fail_if_success (with_reducible show wpAny _ _ (PySem.exec (PySem.Stmt.While _ _ _ _) _) _ _ _)); (fail_if_success (with_reducible show wpAny _ _ (PySem.exec (PySem.Stmt.For _ _ _ _ _) _) _ _ _)); (fail_if_success (with_reducible show wpAny _ _ (PySem.pyIter _) _ _ _)); (fail_if_success (with_reducible show wpAny _ _ (PySem.setItem _ _ _) _ _ _)); first | ((with_reducible show wpAny _ _ (PySem.call (Value.ref _) _) _ _ _); (k_dflt (refine c_subst (by (exact ⟨Frag.In.keeps (by assumption) (Fr.keep (by assumption)), ⟨_, _, _, _, _, Top.keeps (by assumption) (Fr.keep (by assumption))⟩, rfl, by (simp only [Around.deeper, Around.in1]; omega), by (simp only [Around.deeper, Around.in1]; omega)⟩)) (by assumption) (by assumption) ?_; intro _ _ _ k9q; (rename Fr _ _ _ _ => F9q); (rename News _ _ _ _ => N9q); (have F8q := Fr.keepsK F9q k9q); (have N8q := News.keepsK N9q k9q); clear F9q N9q k9q))) | ((k_dflt ((with_reducible show wpAny _ _ (call (Value.type _) [Value.ref _]) _ _ _); (refine list_range _ (by rfl) (by assumption) (by assumption) (by assumption) (by exact small_mine (by omega) (by omega) (by omega)) (by assumption) (by omega) ?_; intro _ _ _ _ _ _ l1q _ _; (try k_lt l1q))))) | ((k_dflt ((with_reducible show wpAny _ _ (call (Value.builtin "len") [Value.str _ _]) _ _ _); (refine len_txt (by first | exact Nat.le_trans (by with_reducible assumption) (by decide) | ((try simp only [List.length_drop, List.length_take]); omega)) ?_)))) | ((k_dflt ((with_reducible show wpAny _ _ (compareOp _ (Value.str (one _) _) (Value.str (one _) _)) _ _ _); (refine eq_one ?_ ?_; all_goals intro _)))) | ((with_reducible show wpAny _ _ (truthy (Value.str _ _)) _ _ _); (k_dflt (refine tru_txt (by first | exact Nat.le_trans (by with_reducible assumption) (by decide) | ((try simp only [List.length_drop, List.length_take]); omega)) ?_ ?_; all_goals (intro hl9q; (try simp only [List.length_drop, List.length_take] at hl9q))))) | ((with_reducible show wpAny _ _ (subscriptTail (Expr.Name _ _) (Expr.BinOp _ _ _ _) (Value.str _ _) (Value.int _ _)) _ _ _); (k_dflt (refine at_neg (by rfl) (by ((try simp only [List.length_drop, List.length_take] at *); omega)) (by first | exact Nat.le_trans (by with_reducible assumption) (by decide) | ((try simp only [List.length_drop, List.length_take]); omega)) ?_))) | ((k_dflt ((with_reducible show wpAny _ _ (subscriptTail _ (Expr.Slice none (some _) none _) _ _) _ _ _); (refine cut_all (s := ⟨_, _, _, _, _⟩) (by assumption) (by assumption) (by first | exact Nat.le_trans (by with_reducible assumption) (by decide) | ((try simp only [List.length_drop, List.length_take]); omega)) ?_); intro _ _ _ _ _))) | ((k_dflt ((with_reducible show wpAny _ _ (subscriptTail _ (Expr.Slice none (some _) none _) _ _) _ _ _); (refine cut_to (s := ⟨_, _, _, _, _⟩) (by rfl) (by omega) (by assumption) (by assumption) (by ((try simp only [List.length_drop, List.length_take] at *); omega)) (by first | exact Nat.le_trans (by with_reducible assumption) (by decide) | ((try simp only [List.length_drop, List.length_take]); omega)) ?_); intro _ _ _ _ _))) | ((with_reducible show wpAny _ _ (subscriptTail (Expr.Name _ _) (Expr.Name _ _) (Value.str _ _) (Value.int _ _)) _ _ _); (k_dflt (refine at_txt (by rfl) (by ((try simp only [List.length_drop, List.length_take] at *); omega)) (by first | exact Nat.le_trans (by with_reducible assumption) (by decide) | ((try simp only [List.length_drop, List.length_take]); omega)) ?_))) | ((k_dflt ((with_reducible show wpAny _ _ (subscriptTail _ (Expr.Slice (some _) none none _) _ _) _ _ _); (refine cut_from (s := ⟨_, _, _, _, _⟩) (by rfl) (by assumption) (by assumption) (by ((try simp only [List.length_drop, List.length_take] at *); omega)) (by first | exact Nat.le_trans (by with_reducible assumption) (by decide) | ((try simp only [List.length_drop, List.length_take]); omega)) ?_); intro _ _ _ _ _))) | walk1 | (dsimp only; walk1) | (leave1; try dsimp only))))
  · refine h2 _ _ _ _ ?_ (Fr.keep (by assumption))
    rename (_ == _) = true => e
    have e2 : a = b := by have := eq_of_beq e; injection this with this; injection this
    simp [levF, e2]
  have hne : a ≠ b := by
    rename (_ == _) = false => e
    intro e2; rw [e2] at e; simp at e
  rename Fr _ _ _ _ => F1
  rename News _ _ _ _ => N1
  refine while_mine2 (σ := Nat × Nat) (fun _ => []) (fun c => [(Str.ofString "pre", .int (c.1 : Int) c.2), (Str.ofString "a", .str (txt a) ta), (Str.ofString "b", .str (txt b) tb), (Str.ofString "max_cost", .int mc tm)])
    (fun c => c.1 ≤ a.length ∧ c.1 ≤ b.length ∧ a.take c.1 = b.take c.1) (fun c => a.length - c.1) (fun c => c.1 ≤ a.length ∧ c.1 ≤ b.length ∧ cpl a b = c.1) ⟨0, ?ta⟩ F1 N1 (fun _ h => nomatch h) ?hp (by simp) (fun c u h tk hP F2 N2 => ?turn) (fun c u h tk hP F2 N2 => ?done)
  case hp => ((repeat' (first | exact List.forall_mem_nil _ | (refine List.forall_mem_cons.mpr ⟨by with_unfolding_all rfl, ?_⟩))))
  case turn =>
    clear F1 N1
    obtain ⟨p, t1⟩ := c
    dsimp only at hP F2 N2 ⊢
    obtain ⟨hp1, hp2, hp3⟩ := hP
    k_fold
    (repeat' (first | (k_unfold; (try dsimp only)) | ((fail_if_success (with_reducible show wpAny _ _ (PySem.exec (PySem.Stmt.While _ _ _ _) _) _ _ _)); (fail_if_success (with_reducible show wpAny _ _ (PySem.exec (PySem.Stmt.For _ _ _ _ _) _) _ _ _)); (fail_if_success (with_reducible show wpAny _ _ (PySem.pyIter _) _ _ _)); (fail_if_success (with_reducible show wpAny _ _ (PySem.setItem _ _ _) _ _ _)); first | ((with_reducible show wpAny _ _ (PySem.call (Value.ref _) _) _ _ _); (k_dflt (refine c_subst (by (exact ⟨Frag.In.keeps (by assumption) (Fr.keep (by assumption)), ⟨_, _, _, _, _, Top.keeps (by assumption) (Fr.keep (by assumption))⟩, rfl, by (simp only [Around.deeper, Around.in1]; omega), by (simp only [Around.deeper, Around.in1]; omega)⟩)) (by assumption) (by assumption) ?_; intro _ _ _ k9q; (rename Fr _ _ _ _ => F9q); (rename News _ _ _ _ => N9q); (have F8q := Fr.keepsK F9q k9q); (have N8q := News.keepsK N9q k9q); clear F9q N9q k9q))) | ((k_dflt ((with_reducible show wpAny _ _ (call (Value.type _) [Value.ref _]) _ _ _); (refine list_range _ (by rfl) (by assumption) (by assumption) (by assumption) (by exact small_mine (by omega) (by omega) (by omega)) (by assumption) (by omega) ?_; intro _ _ _ _ _ _ l1q _ _; (try k_lt l1q))))) | ((k_dflt ((with_reducible show wpAny _ _ (call (Value.builtin "len") [Value.str _ _]) _ _ _); (refine len_txt (by first | exact Nat.le_trans (by with_reducible assumption) (by decide) | ((try simp only [List.length_drop, List.length_take]); omega)) ?_)))) | ((k_dflt ((with_reducible show wpAny _ _ (compareOp _ (Value.str (one _) _) (Value.str (one _) _)) _ _ _); (refine eq_one ?_ ?_; all_goals intro _)))) | ((with_reducible show wpAny _ _ (truthy (Value.str _ _)) _ _ _); (k_dflt (refine tru_txt (by first | exact Nat.le_trans (by with_reducible assumption) (by decide) | ((try simp only [List.length_drop, List.length_take]); omega)) ?_ ?_; all_goals (intro hl9q; (try simp only [List.length_drop, List.length_take] at hl9q))))) | ((with_reducible show wpAny _ _ (subscriptTail (Expr.Name _ _) (Expr.BinOp _ _ _ _) (Value.str _ _) (Value.int _ _)) _ _ _); (k_dflt (refine at_neg (by rfl) (by ((try simp only [List.length_drop, List.length_take] at *); omega)) (by first | exact Nat.le_trans (by with_reducible assumption) (by decide) | ((try simp only [List.length_drop, List.length_take]); omega)) ?_))) | ((k_dflt ((with_reducible show wpAny _ _ (subscriptTail _ (Expr.Slice none (some _) none _) _ _) _ _ _); (refine cut_all (s := ⟨_, _, _, _, _⟩) (by assumption) (by assumption) (by first | exact Nat.le_trans (by with_reducible assumption) (by decide) | ((try simp only [List.length_drop, List.length_take]); omega)) ?_); intro _ _ _ _ _))) | ((k_dflt ((with_reducible show wpAny _ _ (subscriptTail _ (Expr.Slice none (some _) none _) _ _) _ _ _); (refine cut_to (s := ⟨_, _, _, _, _⟩) (by rfl) (by omega) (by assumption) (by assumption) (by ((try simp only [List.length_drop, List.length_take] at *); omega)) (by first | exact Nat.le_trans (by with_reducible assumption) (by decide) | ((try simp only [List.length_drop, List.length_take]); omega)) ?_); intro _ _ _ _ _))) | ((with_reducible show wpAny _ _ (subscriptTail (Expr.Name _ _) (Expr.Name _ _) (Value.str _ _) (Value.int _ _)) _ _ _); (k_dflt (refine at_txt (by rfl) (by ((try simp only [List.length_drop, List.length_take] at *); omega)) (by first | exact Nat.le_trans (by with_reducible assumption) (by decide) | ((try simp only [List.length_drop, List.length_take]); omega)) ?_))) | ((k_dflt ((with_reducible show wpAny _ _ (subscriptTail _ (Expr.Slice (some _) none none _) _ _) _ _ _); (refine cut_from (s := ⟨_, _, _, _, _⟩) (by rfl) (by assumption) (by assumption) (by ((try simp only [List.length_drop, List.length_take] at *); omega)) (by first | exact Nat.le_trans (by with_reducible assumption) (by decide) | ((try simp only [List.length_drop, List.length_take]); omega)) ?_); intro _ _ _ _ _))) | walk1 | (dsimp only; walk1) | (leave1; try dsimp only))))
    · refine TurnW.next (p + 1, ?u1) (by assumption) (by assumption) (fun _ h => nomatch h) ?hp2 ⟨by omega, by omega, ?_⟩ (by dsimp only; omega)
      case hp2 => ((repeat' (first | exact List.forall_mem_nil _ | (refine List.forall_mem_cons.mpr ⟨by with_unfolding_all rfl, ?_⟩))))
      dsimp only
      rw [take_getD (by omega), take_getD (by omega), hp3]
      congr 2
    all_goals
      refine ExitW.here (p, t1) (by assumption) (by assumption) (fun _ h => nomatch h) ?hp2 ⟨hp1, hp2, cpl_of _ _ _ hp1 hp2 hp3 ?_⟩
      case hp2 => ((repeat' (first | exact List.forall_mem_nil _ | (refine List.forall_mem_cons.mpr ⟨by with_unfolding_all rfl, ?_⟩))))
    · exact .inr (.inr (by assumption))
    · exact .inr (.inl (by omega))
    · exact .inl (by omega)
  case done =>
  clear F1 N1
  obtain ⟨p, t1⟩ := c
  dsimp only at hP F2 N2 ⊢
  obtain ⟨hp1, hp2, hp3⟩ := hP
  (repeat' (first | (k_unfold; (try dsimp only)) | ((fail_if_success (with_reducible show wpAny _ _ (PySem.exec (PySem.Stmt.While _ _ _ _) _) _ _ _)); (fail_if_success (with_reducible show wpAny _ _ (PySem.exec (PySem.Stmt.For _ _ _ _ _) _) _ _ _)); (fail_if_success (with_reducible show wpAny _ _ (PySem.pyIter _) _ _ _)); (fail_if_success (with_reducible show wpAny _ _ (PySem.setItem _ _ _) _ _ _)); first | ((with_reducible show wpAny _ _ (PySem.call (Value.ref _) _) _ _ _); (k_dflt (refine c_subst (by (exact ⟨Frag.In.keeps (by assumption) (Fr.keep (by assumption)), ⟨_, _, _, _, _, Top.keeps (by assumption) (Fr.keep (by assumption))⟩, rfl, by (simp only [Around.deeper, Around.in1]; omega), by (simp only [Around.deeper, Around.in1]; omega)⟩)) (by assumption) (by assumption) ?_; intro _ _ _ k9q; (rename Fr _ _ _ _ => F9q); (rename News _ _ _ _ => N9q); (have F8q := Fr.keepsK F9q k9q); (have N8q := News.keepsK N9q k9q); clear F9q N9q k9q))) | ((k_dflt ((with_reducible show wpAny _ _ (call (Value.type _) [Value.ref _]) _ _ _); (refine list_range _ (by rfl) (by assumption) (by assumption) (by assumption) (by exact small_mine (by omega) (by omega) (by omega)) (by assumption) (by omega) ?_; intro _ _ _ _ _ _ l1q _ _; (try k_lt l1q))))) | ((k_dflt ((with_reducible show wpAny _ _ (call (Value.builtin "len") [Value.str _ _]) _ _ _); (refine len_txt (by first | exact Nat.le_trans (by with_reducible assumption) (by decide) | ((try simp only [List.length_drop, List.length_take]); omega)) ?_)))) | ((k_dflt ((with_reducible show wpAny _ _ (compareOp _ (Value.str (one _) _) (Value.str (one _) _)) _ _ _); (refine eq_one ?_ ?_; all_goals intro _)))) | ((with_reducible show wpAny _ _ (truthy (Value.str _ _)) _ _ _); (k_dflt (refine tru_txt (by first | exact Nat.le_trans (by with_reducible assumption) (by decide) | ((try simp only [List.length_drop, List.length_take]); omega)) ?_ ?_; all_goals (intro hl9q; (try simp only [List.length_drop, List.length_take] at hl9q))))) | ((with_reducible show wpAny _ _ (subscriptTail (Expr.Name _ _) (Expr.BinOp _ _ _ _) (Value.str _ _) (Value.int _ _)) _ _ _); (k_dflt (refine at_neg (by rfl) (by ((try simp only [List.length_drop, List.length_take] at *); omega)) (by first | exact Nat.le_trans (by with_reducible assumption) (by decide) | ((try simp only [List.length_drop, List.length_take]); omega)) ?_))) | ((k_dflt ((with_reducible show wpAny _ _ (subscriptTail _ (Expr.Slice none (some _) none _) _ _) _ _ _); (refine cut_all (s := ⟨_, _, _, _, _⟩) (by assumption) (by assumption) (by first | exact Nat.le_trans (by with_reducible assumption) (by decide) | ((try simp only [List.length_drop, List.length_take]); omega)) ?_); intro _ _ _ _ _))) | ((k_dflt ((with_reducible show wpAny _ _ (subscriptTail _ (Expr.Slice none (some _) none _) _ _) _ _ _); (refine cut_to (s := ⟨_, _, _, _, _⟩) (by rfl) (by omega) (by assumption) (by assumption) (by ((try simp only [List.length_drop, List.length_take] at *); omega)) (by first | exact Nat.le_trans (by with_reducible assumption) (by decide) | ((try simp only [List.length_drop, List.length_take]); omega)) ?_); intro _ _ _ _ _))) | ((with_reducible show wpAny _ _ (subscriptTail (Expr.Name _ _) (Expr.Name _ _) (Value.str _ _) (Value.int _ _)) _ _ _); (k_dflt (refine at_txt (by rfl) (by ((try simp only [List.length_drop, List.length_take] at *); omega)) (by first | exact Nat.le_trans (by with_reducible assumption) (by decide) | ((try simp only [List.length_drop, List.length_take]); omega)) ?_))) | ((k_dflt ((with_reducible show wpAny _ _ (subscriptTail _ (Expr.Slice (some _) none none _) _ _) _ _ _); (refine cut_from (s := ⟨_, _, _, _, _⟩) (by rfl) (by assumption) (by assumption) (by ((try simp only [List.length_drop, List.length_take] at *); omega)) (by first | exact Nat.le_trans (by with_reducible assumption) (by decide) | ((try simp only [List.length_drop, List.length_take]); omega)) ?_); intro _ _ _ _ _))) | walk1 | (dsimp only; walk1) | (leave1; try dsimp only))))
  rename Fr _ _ _ _ => F1
  rename News _ _ _ _ => N1
  have hlv : levF a b mc = strip1 (a.drop p) (b.drop p) mc := by simp [levF, hne, hp3]
  rw [hlv] at h2
  have hla1 : (a.drop p).length ≤ 8 := by rw [List.length_drop]; omega
  have hlb1 : (b.drop p).length ≤ 8 := by rw [List.length_drop]; omega
  have ha1 : ∀ c ∈ a.drop p, 65 ≤ c ∧ c < 81 := fun c hc => ha c (List.mem_of_mem_drop hc)
  have hb1 : ∀ c ∈ b.drop p, 65 ≤ c ∧ c < 81 := fun c hc => hb c (List.mem_of_mem_drop hc)
  clear hlv
  generalize a.drop p = a1 at *
  generalize b.drop p = b1 at *
  refine while_mine2 (σ := Nat × Nat × Nat × Nat) (fun _ => []) (fun c => [(Str.ofString "post", .int (-(c.1 : Int)) c.2.1), (Str.ofString "a", .str (txt a1) c.2.2.1), (Str.ofString "b", .str (txt b1) c.2.2.2), (Str.ofString "max_cost", .int mc tm)])
    (fun c => c.1 ≤ a1.length ∧ c.1 ≤ b1.length ∧ a1.drop (a1.length - c.1) = b1.drop (b1.length - c.1)) (fun c => a1.length - c.1) (fun c => c.1 ≤ a1.length ∧ c.1 ≤ b1.length ∧ cpl a1.reverse b1.reverse = c.1) ⟨0, ?tb, ?tc, ?td⟩ F1 N1 (fun _ h => nomatch h) ?hp' (by simp) (fun c u h tk hP F2 N2 => ?turn') (fun c u h tk hP F2 N2 => ?done')
  case hp' => ((repeat' (first | exact List.forall_mem_nil _ | (refine List.forall_mem_cons.mpr ⟨by with_unfolding_all rfl, ?_⟩))))
  case turn' =>
    clear F1 N1
    obtain ⟨q, t2, t3, t4⟩ := c
    dsimp only at hP F2 N2 ⊢
    obtain ⟨hq1, hq2, hq3⟩ := hP
    k_fold
    (repeat' (first | (k_unfold; (try dsimp only)) | ((fail_if_success (with_reducible show wpAny _ _ (PySem.exec (PySem.Stmt.While _ _ _ _) _) _ _ _)); (fail_if_success (with_reducible show wpAny _ _ (PySem.exec (PySem.Stmt.For _ _ _ _ _) _) _ _ _)); (fail_if_success (with_reducible show wpAny _ _ (PySem.pyIter _) _ _ _)); (fail_if_success (with_reducible show wpAny _ _ (PySem.setItem _ _ _) _ _ _)); first | ((with_reducible show wpAny _ _ (PySem.call (Value.ref _) _) _ _ _); (k_dflt (refine c_subst (by (exact ⟨Frag.In.keeps (by assumption) (Fr.keep (by assumption)), ⟨_, _, _, _, _, Top.keeps (by assumption) (Fr.keep (by assumption))⟩, rfl, by (simp only [Around.deeper, Around.in1]; omega), by (simp only [Around.deeper, Around.in1]; omega)⟩)) (by assumption) (by assumption) ?_; intro _ _ _ k9q; (rename Fr _ _ _ _ => F9q); (rename News _ _ _ _ => N9q); (have F8q := Fr.keepsK F9q k9q); (have N8q := News.keepsK N9q k9q); clear F9q N9q k9q))) | ((k_dflt ((with_reducible show wpAny _ _ (call (Value.type _) [Value.ref _]) _ _ _); (refine list_range _ (by rfl) (by assumption) (by assumption) (by assumption) (by exact small_mine (by omega) (by omega) (by omega)) (by assumption) (by omega) ?_; intro _ _ _ _ _ _ l1q _ _; (try k_lt l1q))))) | ((k_dflt ((with_reducible show wpAny _ _ (call (Value.builtin "len") [Value.str _ _]) _ _ _); (refine len_txt (by first | exact Nat.le_trans (by with_reducible assumption) (by decide) | ((try simp only [List.length_drop, List.length_take]); omega)) ?_)))) | ((k_dflt ((with_reducible show wpAny _ _ (compareOp _ (Value.str (one _) _) (Value.str (one _) _)) _ _ _); (refine eq_one ?_ ?_; all_goals intro _)))) | ((with_reducible show wpAny _ _ (truthy (Value.str _ _)) _ _ _); (k_dflt (refine tru_txt (by first | exact Nat.le_trans (by with_reducible assumption) (by decide) | ((try simp only [List.length_drop, List.length_take]); omega)) ?_ ?_; all_goals (intro hl9q; (try simp only [List.length_drop, List.length_take] at hl9q))))) | ((with_reducible show wpAny _ _ (subscriptTail (Expr.Name _ _) (Expr.BinOp _ _ _ _) (Value.str _ _) (Value.int _ _)) _ _ _); (k_dflt (refine at_neg (by rfl) (by ((try simp only [List.length_drop, List.length_take] at *); omega)) (by first | exact Nat.le_trans (by with_reducible assumption) (by decide) | ((try simp only [List.length_drop, List.length_take]); omega)) ?_))) | ((k_dflt ((with_reducible show wpAny _ _ (subscriptTail _ (Expr.Slice none (some _) none _) _ _) _ _ _); (refine cut_all (s := ⟨_, _, _, _, _⟩) (by assumption) (by assumption) (by first | exact Nat.le_trans (by with_reducible assumption) (by decide) | ((try simp only [List.length_drop, List.length_take]); omega)) ?_); intro _ _ _ _ _))) | ((k_dflt ((with_reducible show wpAny _ _ (subscriptTail _ (Expr.Slice none (some _) none _) _ _) _ _ _); (refine cut_to (s := ⟨_, _, _, _, _⟩) (by rfl) (by omega) (by assumption) (by assumption) (by ((try simp only [List.length_drop, List.length_take] at *); omega)) (by first | exact Nat.le_trans (by with_reducible assumption) (by decide) | ((try simp only [List.length_drop, List.length_take]); omega)) ?_); intro _ _ _ _ _))) | ((with_reducible show wpAny _ _ (subscriptTail (Expr.Name _ _) (Expr.Name _ _) (Value.str _ _) (Value.int _ _)) _ _ _); (k_dflt (refine at_txt (by rfl) (by ((try simp only [List.length_drop, List.length_take] at *); omega)) (by first | exact Nat.le_trans (by with_reducible assumption) (by decide) | ((try simp only [List.length_drop, List.length_take]); omega)) ?_))) | ((k_dflt ((with_reducible show wpAny _ _ (subscriptTail _ (Expr.Slice (some _) none none _) _ _) _ _ _); (refine cut_from (s := ⟨_, _, _, _, _⟩) (by rfl) (by assumption) (by assumption) (by ((try simp only [List.length_drop, List.length_take] at *); omega)) (by first | exact Nat.le_trans (by with_reducible assumption) (by decide) | ((try simp only [List.length_drop, List.length_take]); omega)) ?_); intro _ _ _ _ _))) | walk1 | (dsimp only; walk1) | (leave1; try dsimp only))))
    all_goals first
      | (exfalso; omega)
      | (rename Fr _ _ _ _ => F9
         rw [show (-(q : Int) - 1) = -((q + 1 : Nat) : Int) by omega] at F9
         refine' TurnW.next (q + 1, _, _, _) ?F ?N ?n ?hp ?P ?m
         case F => exact F9
         case N => assumption
         case n => exact fun _ h => nomatch h
         case hp => ((repeat' (first | exact List.forall_mem_nil _ | (refine List.forall_mem_cons.mpr ⟨by with_unfolding_all rfl, ?_⟩))))
         case m => (dsimp only; omega)
         case P => exact ⟨by omega, by omega, by (dsimp only; rw [drop_getD (by omega), drop_getD (by omega), hq3]; congr 1)⟩)
      | (refine' ExitW.here (q, t2, t3, t4) ?F ?N ?n ?hp ?P
         case F => assumption
         case N => assumption
         case n => exact fun _ h => nomatch h
         case hp => ((repeat' (first | exact List.forall_mem_nil _ | (refine List.forall_mem_cons.mpr ⟨by with_unfolding_all rfl, ?_⟩))))
         case P => exact ⟨hq1, hq2, cpl_rev _ _ _ hq1 hq2 hq3 (by first | exact .inr (.inr (by assumption)) | exact .inr (.inl (by omega)) | exact .inl (by omega))⟩)
  case done' =>
  clear F1 N1
  obtain ⟨q, t2, t3, t4⟩ := c
  dsimp only at hP F2 N2 ⊢
  obtain ⟨hq1, hq2, hq3⟩ := hP
  have hlv : strip1 a1 b1 mc = strip2 (a1.take (a1.length - q)) (b1.take (b1.length - q)) mc := by simp [strip1, hq3]
  rw [hlv] at h2
  refine execs_mid (σ := Nat × Nat × Nat) (L := L) s.heap (fun _ => []) (fun c => [(Str.ofString "post", .int (-(q : Int)) c.1), (Str.ofString "a", .str (txt (a1.take (a1.length - q))) c.2.1), (Str.ofString "b", .str (txt b1) c.2.2), (Str.ofString "max_cost", .int mc tm)]) (fun _ => True) ?_ (fun c u h tk hP F2 N2 => ?_)
  · (repeat' (first | (k_unfold; (try dsimp only)) | ((fail_if_success (with_reducible show wpAny _ _ (PySem.exec (PySem.Stmt.While _ _ _ _) _) _ _ _)); (fail_if_success (with_reducible show wpAny _ _ (PySem.exec (PySem.Stmt.For _ _ _ _ _) _) _ _ _)); (fail_if_success (with_reducible show wpAny _ _ (PySem.pyIter _) _ _ _)); (fail_if_success (with_reducible show wpAny _ _ (PySem.setItem _ _ _) _ _ _)); first | ((with_reducible show wpAny _ _ (PySem.call (Value.ref _) _) _ _ _); (k_dflt (refine c_subst (by (exact ⟨Frag.In.keeps (by assumption) (Fr.keep (by assumption)), ⟨_, _, _, _, _, Top.keeps (by assumption) (Fr.keep (by assumption))⟩, rfl, by (simp only [Around.deeper, Around.in1]; omega), by (simp only [Around.deeper, Around.in1]; omega)⟩)) (by assumption) (by assumption) ?_; intro _ _ _ k9q; (rename Fr _ _ _ _ => F9q); (rename News _ _ _ _ => N9q); (have F8q := Fr.keepsK F9q k9q); (have N8q := News.keepsK N9q k9q); clear F9q N9q k9q))) | ((k_dflt ((with_reducible show wpAny _ _ (call (Value.type _) [Value.ref _]) _ _ _); (refine list_range _ (by rfl) (by assumption) (by assumption) (by assumption) (by exact small_mine (by omega) (by omega) (by omega)) (by assumption) (by omega) ?_; intro _ _ _ _ _ _ l1q _ _; (try k_lt l1q))))) | ((k_dflt ((with_reducible show wpAny _ _ (call (Value.builtin "len") [Value.str _ _]) _ _ _); (refine len_txt (by first | exact Nat.le_trans (by with_reducible assumption) (by decide) | ((try simp only [List.length_drop, List.length_take]); omega)) ?_)))) | ((k_dflt ((with_reducible show wpAny _ _ (compareOp _ (Value.str (one _) _) (Value.str (one _) _)) _ _ _); (refine eq_one ?_ ?_; all_goals intro _)))) | ((with_reducible show wpAny _ _ (truthy (Value.str _ _)) _ _ _); (k_dflt (refine tru_txt (by first | exact Nat.le_trans (by with_reducible assumption) (by decide) | ((try simp only [List.length_drop, List.length_take]); omega)) ?_ ?_; all_goals (intro hl9q; (try simp only [List.length_drop, List.length_take] at hl9q))))) | ((with_reducible show wpAny _ _ (subscriptTail (Expr.Name _ _) (Expr.BinOp _ _ _ _) (Value.str _ _) (Value.int _ _)) _ _ _); (k_dflt (refine at_neg (by rfl) (by ((try simp only [List.length_drop, List.length_take] at *); omega)) (by first | exact Nat.le_trans (by with_reducible assumption) (by decide) | ((try simp only [List.length_drop, List.length_take]); omega)) ?_))) | ((k_dflt ((with_reducible show wpAny _ _ (subscriptTail _ (Expr.Slice none (some _) none _) _ _) _ _ _); (refine cut_all (s := ⟨_, _, _, _, _⟩) (by assumption) (by assumption) (by first | exact Nat.le_trans (by with_reducible assumption) (by decide) | ((try simp only [List.length_drop, List.length_take]); omega)) ?_); intro _ _ _ _ _))) | ((k_dflt ((with_reducible show wpAny _ _ (subscriptTail _ (Expr.Slice none (some _) none _) _ _) _ _ _); (refine cut_to (s := ⟨_, _, _, _, _⟩) (by rfl) (by omega) (by assumption) (by assumption) (by ((try simp only [List.length_drop, List.length_take] at *); omega)) (by first | exact Nat.le_trans (by with_reducible assumption) (by decide) | ((try simp only [List.length_drop, List.length_take]); omega)) ?_); intro _ _ _ _ _))) | ((with_reducible show wpAny _ _ (subscriptTail (Expr.Name _ _) (Expr.Name _ _) (Value.str _ _) (Value.int _ _)) _ _ _); (k_dflt (refine at_txt (by rfl) (by ((try simp only [List.length_drop, List.length_take] at *); omega)) (by first | exact Nat.le_trans (by with_reducible assumption) (by decide) | ((try simp only [List.length_drop, List.length_take]); omega)) ?_))) | ((k_dflt ((with_reducible show wpAny _ _ (subscriptTail _ (Expr.Slice (some _) none none _) _ _) _ _ _); (refine cut_from (s := ⟨_, _, _, _, _⟩) (by rfl) (by assumption) (by assumption) (by ((try simp only [List.length_drop, List.length_take] at *); omega)) (by first | exact Nat.le_trans (by with_reducible assumption) (by decide) | ((try simp only [List.length_drop, List.length_take]); omega)) ?_); intro _ _ _ _ _))) | walk1 | (dsimp only; walk1) | (leave1; try dsimp only))))
    · refine' ExitW.here (_, _, _) ?F ?N ?n ?hp trivial
      case F => assumption
      case N => assumption
      case n => exact fun _ h => nomatch h
      case hp => ((repeat' (first | exact List.forall_mem_nil _ | (refine List.forall_mem_cons.mpr ⟨by with_unfolding_all rfl, ?_⟩))))
    · have : q = 0 := by omega
      subst this
      rw [Nat.sub_zero, List.take_of_length_le (Nat.le_refl _)]
      refine' ExitW.here (_, _, _) ?F ?N ?n ?hp trivial
      case F => assumption
      case N => assumption
      case n => exact fun _ h => nomatch h
      case hp => ((repeat' (first | exact List.forall_mem_nil _ | (refine List.forall_mem_cons.mpr ⟨by with_unfolding_all rfl, ?_⟩))))
  obtain ⟨t2, t3, t4⟩ := c
  dsimp only at F2 N2 ⊢
  refine execs_mid (σ := Nat × Nat) (L := L) s.heap (fun _ => []) (fun c => [(Str.ofString "a", .str (txt (a1.take (a1.length - q))) c.1), (Str.ofString "b", .str (txt (b1.take (b1.length - q))) c.2), (Str.ofString "max_cost", .int mc tm)]) (fun _ => True) ?_ (fun c u h tk hP F2 N2 => ?_)
  · (repeat' (first | (k_unfold; (try dsimp only)) | ((fail_if_success (with_reducible show wpAny _ _ (PySem.exec (PySem.Stmt.While _ _ _ _) _) _ _ _)); (fail_if_success (with_reducible show wpAny _ _ (PySem.exec (PySem.Stmt.For _ _ _ _ _) _) _ _ _)); (fail_if_success (with_reducible show wpAny _ _ (PySem.pyIter _) _ _ _)); (fail_if_success (with_reducible show wpAny _ _ (PySem.setItem _ _ _) _ _ _)); first | ((with_reducible show wpAny _ _ (PySem.call (Value.ref _) _) _ _ _); (k_dflt (refine c_subst (by (exact ⟨Frag.In.keeps (by assumption) (Fr.keep (by assumption)), ⟨_, _, _, _, _, Top.keeps (by assumption) (Fr.keep (by assumption))⟩, rfl, by (simp only [Around.deeper, Around.in1]; omega), by (simp only [Around.deeper, Around.in1]; omega)⟩)) (by assumption) (by assumption) ?_; intro _ _ _ k9q; (rename Fr _ _ _ _ => F9q); (rename News _ _ _ _ => N9q); (have F8q := Fr.keepsK F9q k9q); (have N8q := News.keepsK N9q k9q); clear F9q N9q k9q))) | ((k_dflt ((with_reducible show wpAny _ _ (call (Value.type _) [Value.ref _]) _ _ _); (refine list_range _ (by rfl) (by assumption) (by assumption) (by assumption) (by exact small_mine (by omega) (by omega) (by omega)) (by assumption) (by omega) ?_; intro _ _ _ _ _ _ l1q _ _; (try k_lt l1q))))) | ((k_dflt ((with_reducible show wpAny _ _ (call (Value.builtin "len") [Value.str _ _]) _ _ _); (refine len_txt (by first | exact Nat.le_trans (by with_reducible assumption) (by decide) | ((try simp only [List.length_drop, List.length_take]); omega)) ?_)))) | ((k_dflt ((with_reducible show wpAny _ _ (compareOp _ (Value.str (one _) _) (Value.str (one _) _)) _ _ _); (refine eq_one ?_ ?_; all_goals intro _)))) | ((with_reducible show wpAny _ _ (truthy (Value.str _ _)) _ _ _); (k_dflt (refine tru_txt (by first | exact Nat.le_trans (by with_reducible assumption) (by decide) | ((try simp only [List.length_drop, List.length_take]); omega)) ?_ ?_; all_goals (intro hl9q; (try simp only [List.length_drop, List.length_take] at hl9q))))) | ((with_reducible show wpAny _ _ (subscriptTail (Expr.Name _ _) (Expr.BinOp _ _ _ _) (Value.str _ _) (Value.int _ _)) _ _ _); (k_dflt (refine at_neg (by rfl) (by ((try simp only [List.length_drop, List.length_take] at *); omega)) (by first | exact Nat.le_trans (by with_reducible assumption) (by decide) | ((try simp only [List.length_drop, List.length_take]); omega)) ?_))) | ((k_dflt ((with_reducible show wpAny _ _ (subscriptTail _ (Expr.Slice none (some _) none _) _ _) _ _ _); (refine cut_all (s := ⟨_, _, _, _, _⟩) (by assumption) (by assumption) (by first | exact Nat.le_trans (by with_reducible assumption) (by decide) | ((try simp only [List.length_drop, List.length_take]); omega)) ?_); intro _ _ _ _ _))) | ((k_dflt ((with_reducible show wpAny _ _ (subscriptTail _ (Expr.Slice none (some _) none _) _ _) _ _ _); (refine cut_to (s := ⟨_, _, _, _, _⟩) (by rfl) (by omega) (by assumption) (by assumption) (by ((try simp only [List.length_drop, List.length_take] at *); omega)) (by first | exact Nat.le_trans (by with_reducible assumption) (by decide) | ((try simp only [List.length_drop, List.length_take]); omega)) ?_); intro _ _ _ _ _))) | ((with_reducible show wpAny _ _ (subscriptTail (Expr.Name _ _) (Expr.Name _ _) (Value.str _ _) (Value.int _ _)) _ _ _); (k_dflt (refine at_txt (by rfl) (by ((try simp only [List.length_drop, List.length_take] at *); omega)) (by first | exact Nat.le_trans (by with_reducible assumption) (by decide) | ((try simp only [List.length_drop, List.length_take]); omega)) ?_))) | ((k_dflt ((with_reducible show wpAny _ _ (subscriptTail _ (Expr.Slice (some _) none none _) _ _) _ _ _); (refine cut_from (s := ⟨_, _, _, _, _⟩) (by rfl) (by assumption) (by assumption) (by ((try simp only [List.length_drop, List.length_take] at *); omega)) (by first | exact Nat.le_trans (by with_reducible assumption) (by decide) | ((try simp only [List.length_drop, List.length_take]); omega)) ?_); intro _ _ _ _ _))) | walk1 | (dsimp only; walk1) | (leave1; try dsimp only))))
    · refine' ExitW.here (_, _) ?F ?N ?n ?hp trivial
      case F => assumption
      case N => assumption
      case n => exact fun _ h => nomatch h
      case hp => ((repeat' (first | exact List.forall_mem_nil _ | (refine List.forall_mem_cons.mpr ⟨by with_unfolding_all rfl, ?_⟩))))
    · have : q = 0 := by omega
      subst this
      rw [show b1.take (b1.length - 0) = b1 from List.take_of_length_le (Nat.le_refl _)]
      refine' ExitW.here (_, _) ?F ?N ?n ?hp trivial
      case F => assumption
      case N => assumption
      case n => exact fun _ h => nomatch h
      case hp => ((repeat' (first | exact List.forall_mem_nil _ | (refine List.forall_mem_cons.mpr ⟨by with_unfolding_all rfl, ?_⟩))))
  obtain ⟨t2, t3⟩ := c
  dsimp only at F2 N2 ⊢
  have hla2 : (a1.take (a1.length - q)).length ≤ 8 := by rw [List.length_take]; omega
  have hlb2 : (b1.take (b1.length - q)).length ≤ 8 := by rw [List.length_take]; omega
  have ha2 : ∀ c ∈ a1.take (a1.length - q), 65 ≤ c ∧ c < 81 := fun c hc => ha1 c (List.mem_of_mem_take hc)
  have hb2 : ∀ c ∈ b1.take (b1.length - q), 65 ≤ c ∧ c < 81 := fun c hc => hb1 c (List.mem_of_mem_take hc)
  clear hlv
  generalize a1.take (a1.length - q) = a2 at *
  generalize b1.take (b1.length - q) = b2 at *
  (repeat' (first | (k_unfold; (try dsimp only)) | ((fail_if_success (with_reducible show wpAny _ _ (PySem.exec (PySem.Stmt.If _ [PySem.Stmt.Assign [PySem.Expr.Tuple _ _ _] _ _] _ _) _) _ _ _)); (fail_if_success (with_reducible show wpAny _ _ (PySem.exec (PySem.Stmt.For _ _ _ _ _) _) _ _ _)); (fail_if_success (with_reducible show wpAny _ _ (PySem.pyIter _) _ _ _)); (fail_if_success (with_reducible show wpAny _ _ (PySem.setItem _ _ _) _ _ _)); first | ((with_reducible show wpAny _ _ (PySem.call (Value.ref _) _) _ _ _); (k_dflt (refine c_subst (by (exact ⟨Frag.In.keeps (by assumption) (Fr.keep (by assumption)), ⟨_, _, _, _, _, Top.keeps (by assumption) (Fr.keep (by assumption))⟩, rfl, by (simp only [Around.deeper, Around.in1]; omega), by (simp only [Around.deeper, Around.in1]; omega)⟩)) (by assumption) (by assumption) ?_; intro _ _ _ k9q; (rename Fr _ _ _ _ => F9q); (rename News _ _ _ _ => N9q); (have F8q := Fr.keepsK F9q k9q); (have N8q := News.keepsK N9q k9q); clear F9q N9q k9q))) | ((k_dflt ((with_reducible show wpAny _ _ (call (Value.type _) [Value.ref _]) _ _ _); (refine list_range _ (by rfl) (by assumption) (by assumption) (by assumption) (by exact small_mine (by omega) (by omega) (by omega)) (by assumption) (by omega) ?_; intro _ _ _ _ _ _ l1q _ _; (try k_lt l1q))))) | ((k_dflt ((with_reducible show wpAny _ _ (call (Value.builtin "len") [Value.str _ _]) _ _ _); (refine len_txt (by first | exact Nat.le_trans (by with_reducible assumption) (by decide) | ((try simp only [List.length_drop, List.length_take]); omega)) ?_)))) | ((k_dflt ((with_reducible show wpAny _ _ (compareOp _ (Value.str (one _) _) (Value.str (one _) _)) _ _ _); (refine eq_one ?_ ?_; all_goals intro _)))) | ((with_reducible show wpAny _ _ (truthy (Value.str _ _)) _ _ _); (k_dflt (refine tru_txt (by first | exact Nat.le_trans (by with_reducible assumption) (by decide) | ((try simp only [List.length_drop, List.length_take]); omega)) ?_ ?_; all_goals (intro hl9q; (try simp only [List.length_drop, List.length_take] at hl9q))))) | ((with_reducible show wpAny _ _ (subscriptTail (Expr.Name _ _) (Expr.BinOp _ _ _ _) (Value.str _ _) (Value.int _ _)) _ _ _); (k_dflt (refine at_neg (by rfl) (by ((try simp only [List.length_drop, List.length_take] at *); omega)) (by first | exact Nat.le_trans (by with_reducible assumption) (by decide) | ((try simp only [List.length_drop, List.length_take]); omega)) ?_))) | ((k_dflt ((with_reducible show wpAny _ _ (subscriptTail _ (Expr.Slice none (some _) none _) _ _) _ _ _); (refine cut_all (s := ⟨_, _, _, _, _⟩) (by assumption) (by assumption) (by first | exact Nat.le_trans (by with_reducible assumption) (by decide) | ((try simp only [List.length_drop, List.length_take]); omega)) ?_); intro _ _ _ _ _))) | ((k_dflt ((with_reducible show wpAny _ _ (subscriptTail _ (Expr.Slice none (some _) none _) _ _) _ _ _); (refine cut_to (s := ⟨_, _, _, _, _⟩) (by rfl) (by omega) (by assumption) (by assumption) (by ((try simp only [List.length_drop, List.length_take] at *); omega)) (by first | exact Nat.le_trans (by with_reducible assumption) (by decide) | ((try simp only [List.length_drop, List.length_take]); omega)) ?_); intro _ _ _ _ _))) | ((with_reducible show wpAny _ _ (subscriptTail (Expr.Name _ _) (Expr.Name _ _) (Value.str _ _) (Value.int _ _)) _ _ _); (k_dflt (refine at_txt (by rfl) (by ((try simp only [List.length_drop, List.length_take] at *); omega)) (by first | exact Nat.le_trans (by with_reducible assumption) (by decide) | ((try simp only [List.length_drop, List.length_take]); omega)) ?_))) | ((k_dflt ((with_reducible show wpAny _ _ (subscriptTail _ (Expr.Slice (some _) none none _) _ _) _ _ _); (refine cut_from (s := ⟨_, _, _, _, _⟩) (by rfl) (by assumption) (by assumption) (by ((try simp only [List.length_drop, List.length_take] at *); omega)) (by first | exact Nat.le_trans (by with_reducible assumption) (by decide) | ((try simp only [List.length_drop, List.length_take]); omega)) ?_); intro _ _ _ _ _))) | walk1 | (dsimp only; walk1) | (leave1; try dsimp only))))
  rotate_left
  · exact h2 _ _ _ _ (strip2_zero (.inr (by omega))) (Fr.keep F2)
  · exact h2 _ _ _ _ (strip2_zero (.inl (by omega))) (Fr.keep F2)
  refine exec_mid (σ := List Nat × List Nat × Nat × Nat) (L := L) s.heap (fun _ => []) (fun c => [(Str.ofString "a", .str (txt c.1) c.2.2.1), (Str.ofString "b", .str (txt c.2.1) c.2.2.2), (Str.ofString "max_cost", .int mc tm)])
    (fun c => strip2 a2 b2 mc = core c.1 c.2.1 mc ∧ 0 < c.1.length ∧ c.1.length ≤ c.2.1.length ∧ c.2.1.length ≤ 8 ∧ (∀ x ∈ c.1, 65 ≤ x ∧ x < 81) ∧ (∀ x ∈ c.2.1, 65 ≤ x ∧ x < 81)) ?_ (fun c u h tk hP F2 N2 => ?_)
  · walk1
    (repeat' (first | (k_unfold; (try dsimp only)) | ((fail_if_success (with_reducible show wpAny _ _ (PySem.exec (PySem.Stmt.While _ _ _ _) _) _ _ _)); (fail_if_success (with_reducible show wpAny _ _ (PySem.exec (PySem.Stmt.For _ _ _ _ _) _) _ _ _)); (fail_if_success (with_reducible show wpAny _ _ (PySem.pyIter _) _ _ _)); (fail_if_success (with_reducible show wpAny _ _ (PySem.setItem _ _ _) _ _ _)); first | ((with_reducible show wpAny _ _ (PySem.call (Value.ref _) _) _ _ _); (k_dflt (refine c_subst (by (exact ⟨Frag.In.keeps (by assumption) (Fr.keep (by assumption)), ⟨_, _, _, _, _, Top.keeps (by assumption) (Fr.keep (by assumption))⟩, rfl, by (simp only [Around.deeper, Around.in1]; omega), by (simp only [Around.deeper, Around.in1]; omega)⟩)) (by assumption) (by assumption) ?_; intro _ _ _ k9q; (rename Fr _ _ _ _ => F9q); (rename News _ _ _ _ => N9q); (have F8q := Fr.keepsK F9q k9q); (have N8q := News.keepsK N9q k9q); clear F9q N9q k9q))) | ((k_dflt ((with_reducible show wpAny _ _ (call (Value.type _) [Value.ref _]) _ _ _); (refine list_range _ (by rfl) (by assumption) (by assumption) (by assumption) (by exact small_mine (by omega) (by omega) (by omega)) (by assumption) (by omega) ?_; intro _ _ _ _ _ _ l1q _ _; (try k_lt l1q))))) | ((k_dflt ((with_reducible show wpAny _ _ (call (Value.builtin "len") [Value.str _ _]) _ _ _); (refine len_txt (by first | exact Nat.le_trans (by with_reducible assumption) (by decide) | ((try simp only [List.length_drop, List.length_take]); omega)) ?_)))) | ((k_dflt ((with_reducible show wpAny _ _ (compareOp _ (Value.str (one _) _) (Value.str (one _) _)) _ _ _); (refine eq_one ?_ ?_; all_goals intro _)))) | ((with_reducible show wpAny _ _ (truthy (Value.str _ _)) _ _ _); (k_dflt (refine tru_txt (by first | exact Nat.le_trans (by with_reducible assumption) (by decide) | ((try simp only [List.length_drop, List.length_take]); omega)) ?_ ?_; all_goals (intro hl9q; (try simp only [List.length_drop, List.length_take] at hl9q))))) | ((with_reducible show wpAny _ _ (subscriptTail (Expr.Name _ _) (Expr.BinOp _ _ _ _) (Value.str _ _) (Value.int _ _)) _ _ _); (k_dflt (refine at_neg (by rfl) (by ((try simp only [List.length_drop, List.length_take] at *); omega)) (by first | exact Nat.le_trans (by with_reducible assumption) (by decide) | ((try simp only [List.length_drop, List.length_take]); omega)) ?_))) | ((k_dflt ((with_reducible show wpAny _ _ (subscriptTail _ (Expr.Slice none (some _) none _) _ _) _ _ _); (refine cut_all (s := ⟨_, _, _, _, _⟩) (by assumption) (by assumption) (by first | exact Nat.le_trans (by with_reducible assumption) (by decide) | ((try simp only [List.length_drop, List.length_take]); omega)) ?_); intro _ _ _ _ _))) | ((k_dflt ((with_reducible show wpAny _ _ (subscriptTail _ (Expr.Slice none (some _) none _) _ _) _ _ _); (refine cut_to (s := ⟨_, _, _, _, _⟩) (by rfl) (by omega) (by assumption) (by assumption) (by ((try simp only [List.length_drop, List.length_take] at *); omega)) (by first | exact Nat.le_trans (by with_reducible assumption) (by decide) | ((try simp only [List.length_drop, List.length_take]); omega)) ?_); intro _ _ _ _ _))) | ((with_reducible show wpAny _ _ (subscriptTail (Expr.Name _ _) (Expr.Name _ _) (Value.str _ _) (Value.int _ _)) _ _ _); (k_dflt (refine at_txt (by rfl) (by ((try simp only [List.length_drop, List.length_take] at *); omega)) (by first | exact Nat.le_trans (by with_reducible assumption) (by decide) | ((try simp only [List.length_drop, List.length_take]); omega)) ?_))) | ((k_dflt ((with_reducible show wpAny _ _ (subscriptTail _ (Expr.Slice (some _) none none _) _ _) _ _ _); (refine cut_from (s := ⟨_, _, _, _, _⟩) (by rfl) (by assumption) (by assumption) (by ((try simp only [List.length_drop, List.length_take] at *); omega)) (by first | exact Nat.le_trans (by with_reducible assumption) (by decide) | ((try simp only [List.length_drop, List.length_take]); omega)) ?_); intro _ _ _ _ _))) | walk1 | (dsimp only; walk1) | (leave1; try dsimp only))))
    · refine' ExitW.here (b2, a2, _, _) ?F ?N ?n ?hp ?P
      case F => assumption
      case N => assumption
      case n => exact fun _ h => nomatch h
      case hp => ((repeat' (first | exact List.forall_mem_nil _ | (refine List.forall_mem_cons.mpr ⟨by with_unfolding_all rfl, ?_⟩))))
      case P => exact ⟨strip2_swap (by omega) (by omega) (by omega), by dsimp only; omega, by dsimp only; omega, by dsimp only; omega, hb2, ha2⟩
    · refine' ExitW.here (a2, b2, _, _) ?F ?N ?n ?hp ?P
      case F => assumption
      case N => assumption
      case n => exact fun _ h => nomatch h
      case hp => ((repeat' (first | exact List.forall_mem_nil _ | (refine List.forall_mem_cons.mpr ⟨by with_unfolding_all rfl, ?_⟩))))
      case P => exact ⟨strip2_keep (by omega) (by omega) (by omega), by dsimp only; omega, by dsimp only; omega, by dsimp only; omega, ha2, hb2⟩
  obtain ⟨x, y, t2, t3⟩ := c
  dsimp only at hP F2 N2 ⊢
  obtain ⟨hst, hx0, hxy, hy8, hxc, hyc⟩ := hP
  rw [hst] at h2
  clear hst
  have hrs := rs2 x.length
  (repeat' (first | (k_unfold; (try dsimp only)) | ((fail_if_success (with_reducible show wpAny _ _ (PySem.exec (PySem.Stmt.While _ _ _ _) _) _ _ _)); (fail_if_success (with_reducible show wpAny _ _ (PySem.exec (PySem.Stmt.For _ _ _ _ _) _) _ _ _)); (fail_if_success (with_reducible show wpAny _ _ (PySem.pyIter _) _ _ _)); (fail_if_success (with_reducible show wpAny _ _ (PySem.setItem _ _ _) _ _ _)); first | ((with_reducible show wpAny _ _ (PySem.call (Value.ref _) _) _ _ _); (k_dflt (refine c_subst (by (exact ⟨Frag.In.keeps (by assumption) (Fr.keep (by assumption)), ⟨_, _, _, _, _, Top.keeps (by assumption) (Fr.keep (by assumption))⟩, rfl, by (simp only [Around.deeper, Around.in1]; omega), by (simp only [Around.deeper, Around.in1]; omega)⟩)) (by assumption) (by assumption) ?_; intro _ _ _ k9q; (rename Fr _ _ _ _ => F9q); (rename News _ _ _ _ => N9q); (have F8q := Fr.keepsK F9q k9q); (have N8q := News.keepsK N9q k9q); clear F9q N9q k9q))) | ((k_dflt ((with_reducible show wpAny _ _ (call (Value.type _) [Value.ref _]) _ _ _); (refine list_range _ (by rfl) (by assumption) (by assumption) (by assumption) (by exact small_mine (by omega) (by omega) (by omega)) (by assumption) (by omega) ?_; intro _ _ _ _ _ _ l1q _ _; (try k_lt l1q))))) | ((k_dflt ((with_reducible show wpAny _ _ (call (Value.builtin "len") [Value.str _ _]) _ _ _); (refine len_txt (by first | exact Nat.le_trans (by with_reducible assumption) (by decide) | ((try simp only [List.length_drop, List.length_take]); omega)) ?_)))) | ((k_dflt ((with_reducible show wpAny _ _ (compareOp _ (Value.str (one _) _) (Value.str (one _) _)) _ _ _); (refine eq_one ?_ ?_; all_goals intro _)))) | ((with_reducible show wpAny _ _ (truthy (Value.str _ _)) _ _ _); (k_dflt (refine tru_txt (by first | exact Nat.le_trans (by with_reducible assumption) (by decide) | ((try simp only [List.length_drop, List.length_take]); omega)) ?_ ?_; all_goals (intro hl9q; (try simp only [List.length_drop, List.length_take] at hl9q))))) | ((with_reducible show wpAny _ _ (subscriptTail (Expr.Name _ _) (Expr.BinOp _ _ _ _) (Value.str _ _) (Value.int _ _)) _ _ _); (k_dflt (refine at_neg (by rfl) (by ((try simp only [List.length_drop, List.length_take] at *); omega)) (by first | exact Nat.le_trans (by with_reducible assumption) (by decide) | ((try simp only [List.length_drop, List.length_take]); omega)) ?_))) | ((k_dflt ((with_reducible show wpAny _ _ (subscriptTail _ (Expr.Slice none (some _) none _) _ _) _ _ _); (refine cut_all (s := ⟨_, _, _, _, _⟩) (by assumption) (by assumption) (by first | exact Nat.le_trans (by with_reducible assumption) (by decide) | ((try simp only [List.length_drop, List.length_take]); omega)) ?_); intro _ _ _ _ _))) | ((k_dflt ((with_reducible show wpAny _ _ (subscriptTail _ (Expr.Slice none (some _) none _) _ _) _ _ _); (refine cut_to (s := ⟨_, _, _, _, _⟩) (by rfl) (by omega) (by assumption) (by assumption) (by ((try simp only [List.length_drop, List.length_take] at *); omega)) (by first | exact Nat.le_trans (by with_reducible assumption) (by decide) | ((try simp only [List.length_drop, List.length_take]); omega)) ?_); intro _ _ _ _ _))) | ((with_reducible show wpAny _ _ (subscriptTail (Expr.Name _ _) (Expr.Name _ _) (Value.str _ _) (Value.int _ _)) _ _ _); (k_dflt (refine at_txt (by rfl) (by ((try simp only [List.length_drop, List.length_take] at *); omega)) (by first | exact Nat.le_trans (by with_reducible assumption) (by decide) | ((try simp only [List.length_drop, List.length_take]); omega)) ?_))) | ((k_dflt ((with_reducible show wpAny _ _ (subscriptTail _ (Expr.Slice (some _) none none _) _ _) _ _ _); (refine cut_from (s := ⟨_, _, _, _, _⟩) (by rfl) (by assumption) (by assumption) (by ((try simp only [List.length_drop, List.length_take] at *); omega)) (by first | exact Nat.le_trans (by with_reducible assumption) (by decide) | ((try simp only [List.length_drop, List.length_take]); omega)) ?_); intro _ _ _ _ _))) | walk1 | (dsimp only; walk1) | (leave1; try dsimp only))))
  · exact h2 _ _ _ _ (core_out (by assumption)) (Fr.keep F2)
  rename IntsAre _ _ => hrow
  have hrs1 := rs1 y.length
  have hrs2 := rs1 x.length
  refine For_invV s.heap rfl rfl ?_
  (repeat' (first | (k_unfold; (try dsimp only)) | ((fail_if_success (with_reducible show wpAny _ _ (PySem.exec (PySem.Stmt.While _ _ _ _) _) _ _ _)); (fail_if_success (with_reducible show wpAny _ _ (PySem.exec (PySem.Stmt.For _ _ _ _ _) _) _ _ _)); (fail_if_success (with_reducible show wpAny _ _ (PySem.pyIter _) _ _ _)); (fail_if_success (with_reducible show wpAny _ _ (PySem.setItem _ _ _) _ _ _)); first | ((with_reducible show wpAny _ _ (PySem.call (Value.ref _) _) _ _ _); (k_dflt (refine c_subst (by (exact ⟨Frag.In.keeps (by assumption) (Fr.keep (by assumption)), ⟨_, _, _, _, _, Top.keeps (by assumption) (Fr.keep (by assumption))⟩, rfl, by (simp only [Around.deeper, Around.in1]; omega), by (simp only [Around.deeper, Around.in1]; omega)⟩)) (by assumption) (by assumption) ?_; intro _ _ _ k9q; (rename Fr _ _ _ _ => F9q); (rename News _ _ _ _ => N9q); (have F8q := Fr.keepsK F9q k9q); (have N8q := News.keepsK N9q k9q); clear F9q N9q k9q))) | ((k_dflt ((with_reducible show wpAny _ _ (call (Value.type _) [Value.ref _]) _ _ _); (refine list_range _ (by rfl) (by assumption) (by assumption) (by assumption) (by exact small_mine (by omega) (by omega) (by omega)) (by assumption) (by omega) ?_; intro _ _ _ _ _ _ l1q _ _; (try k_lt l1q))))) | ((k_dflt ((with_reducible show wpAny _ _ (call (Value.builtin "len") [Value.str _ _]) _ _ _); (refine len_txt (by first | exact Nat.le_trans (by with_reducible assumption) (by decide) | ((try simp only [List.length_drop, List.length_take]); omega)) ?_)))) | ((k_dflt ((with_reducible show wpAny _ _ (compareOp _ (Value.str (one _) _) (Value.str (one _) _)) _ _ _); (refine eq_one ?_ ?_; all_goals intro _)))) | ((with_reducible show wpAny _ _ (truthy (Value.str _ _)) _ _ _); (k_dflt (refine tru_txt (by first | exact Nat.le_trans (by with_reducible assumption) (by decide) | ((try simp only [List.length_drop, List.length_take]); omega)) ?_ ?_; all_goals (intro hl9q; (try simp only [List.length_drop, List.length_take] at hl9q))))) | ((with_reducible show wpAny _ _ (subscriptTail (Expr.Name _ _) (Expr.BinOp _ _ _ _) (Value.str _ _) (Value.int _ _)) _ _ _); (k_dflt (refine at_neg (by rfl) (by ((try simp only [List.length_drop, List.length_take] at *); omega)) (by first | exact Nat.le_trans (by with_reducible assumption) (by decide) | ((try simp only [List.length_drop, List.length_take]); omega)) ?_))) | ((k_dflt ((with_reducible show wpAny _ _ (subscriptTail _ (Expr.Slice none (some _) none _) _ _) _ _ _); (refine cut_all (s := ⟨_, _, _, _, _⟩) (by assumption) (by assumption) (by first | exact Nat.le_trans (by with_reducible assumption) (by decide) | ((try simp only [List.length_drop, List.length_take]); omega)) ?_); intro _ _ _ _ _))) | ((k_dflt ((with_reducible show wpAny _ _ (subscriptTail _ (Expr.Slice none (some _) none _) _ _) _ _ _); (refine cut_to (s := ⟨_, _, _, _, _⟩) (by rfl) (by omega) (by assumption) (by assumption) (by ((try simp only [List.length_drop, List.length_take] at *); omega)) (by first | exact Nat.le_trans (by with_reducible assumption) (by decide) | ((try simp only [List.length_drop, List.length_take]); omega)) ?_); intro _ _ _ _ _))) | ((with_reducible show wpAny _ _ (subscriptTail (Expr.Name _ _) (Expr.Name _ _) (Value.str _ _) (Value.int _ _)) _ _ _); (k_dflt (refine at_txt (by rfl) (by ((try simp only [List.length_drop, List.length_take] at *); omega)) (by first | exact Nat.le_trans (by with_reducible assumption) (by decide) | ((try simp only [List.length_drop, List.length_take]); omega)) ?_))) | ((k_dflt ((with_reducible show wpAny _ _ (subscriptTail _ (Expr.Slice (some _) none none _) _ _) _ _ _); (refine cut_from (s := ⟨_, _, _, _, _⟩) (by rfl) (by assumption) (by assumption) (by ((try simp only [List.length_drop, List.length_take] at *); omega)) (by first | exact Nat.le_trans (by with_reducible assumption) (by decide) | ((try simp only [List.length_drop, List.length_take]); omega)) ?_); intro _ _ _ _ _))) | walk1 | (dsimp only; walk1) | (leave1; try dsimp only))))
  rename Fr _ _ _ _ => F1
  rename News _ _ _ _ => N1
  rw [core_in (by assumption), ← row0] at h2
  refine' for_range (σ := LO) y.length (fun i => (i : Int)) [] (fun c => [(c.l, listOf c.vs.toArray c.k)]) (fun c => [(Str.ofString "result", .int c.res c.t), (Str.ofString "row", .ref c.l), (Str.ofString "a", .str (txt x) t2), (Str.ofString "b", .str (txt y) t3), (Str.ofString "max_cost", .int mc tm)])
    (fun i c => IntsAre c.vs c.ns ∧ c.ns.length = x.length ∧ rowsF mc x i (y.drop i) c.ns c.res = rowsF mc x 0 y (rangeL 2 2 x.length) 0) ⟨_, _, rangeL 2 2 x.length, _, 0, _⟩ ?hh ?hr ?hs ?hn ?hg F1 N1 ?hnews ?hp0 ?hj ?turn1 ?done1
  case hh => rfl
  case hr => assumption
  case hs => exact small_mine (by omega) (by omega) (by omega)
  case hn => assumption
  case hg => intro i; omega
  case hp0 => ((repeat' (first | exact List.forall_mem_nil _ | (refine List.forall_mem_cons.mpr ⟨by with_unfolding_all rfl, ?_⟩))))
  case hnews => ((repeat' (first | exact List.forall_mem_nil _ | (refine List.forall_mem_cons.mpr ⟨by k_memK, ?_⟩))))
  case hj => exact ⟨hrow, rangeL_length _ _ _, rfl⟩
  case done1 =>
    rintro c u h tk ⟨hc1, hc2, hc3⟩ F3 N3
    dsimp only at F3 N3 ⊢
    (repeat' (first | (k_unfold; (try dsimp only)) | ((fail_if_success (with_reducible show wpAny _ _ (PySem.exec (PySem.Stmt.While _ _ _ _) _) _ _ _)); (fail_if_success (with_reducible show wpAny _ _ (PySem.exec (PySem.Stmt.For _ _ _ _ _) _) _ _ _)); (fail_if_success (with_reducible show wpAny _ _ (PySem.pyIter _) _ _ _)); (fail_if_success (with_reducible show wpAny _ _ (PySem.setItem _ _ _) _ _ _)); first | ((with_reducible show wpAny _ _ (PySem.call (Value.ref _) _) _ _ _); (k_dflt (refine c_subst (by (exact ⟨Frag.In.keeps (by assumption) (Fr.keep (by assumption)), ⟨_, _, _, _, _, Top.keeps (by assumption) (Fr.keep (by assumption))⟩, rfl, by (simp only [Around.deeper, Around.in1]; omega), by (simp only [Around.deeper, Around.in1]; omega)⟩)) (by assumption) (by assumption) ?_; intro _ _ _ k9q; (rename Fr _ _ _ _ => F9q); (rename News _ _ _ _ => N9q); (have F8q := Fr.keepsK F9q k9q); (have N8q := News.keepsK N9q k9q); clear F9q N9q k9q))) | ((k_dflt ((with_reducible show wpAny _ _ (call (Value.type _) [Value.ref _]) _ _ _); (refine list_range _ (by rfl) (by assumption) (by assumption) (by assumption) (by exact small_mine (by omega) (by omega) (by omega)) (by assumption) (by omega) ?_; intro _ _ _ _ _ _ l1q _ _; (try k_lt l1q))))) | ((k_dflt ((with_reducible show wpAny _ _ (call (Value.builtin "len") [Value.str _ _]) _ _ _); (refine len_txt (by first | exact Nat.le_trans (by with_reducible assumption) (by decide) | ((try simp only [List.length_drop, List.length_take]); omega)) ?_)))) | ((k_dflt ((with_reducible show wpAny _ _ (compareOp _ (Value.str (one _) _) (Value.str (one _) _)) _ _ _); (refine eq_one ?_ ?_; all_goals intro _)))) | ((with_reducible show wpAny _ _ (truthy (Value.str _ _)) _ _ _); (k_dflt (refine tru_txt (by first | exact Nat.le_trans (by with_reducible assumption) (by decide) | ((try simp only [List.length_drop, List.length_take]); omega)) ?_ ?_; all_goals (intro hl9q; (try simp only [List.length_drop, List.length_take] at hl9q))))) | ((with_reducible show wpAny _ _ (subscriptTail (Expr.Name _ _) (Expr.BinOp _ _ _ _) (Value.str _ _) (Value.int _ _)) _ _ _); (k_dflt (refine at_neg (by rfl) (by ((try simp only [List.length_drop, List.length_take] at *); omega)) (by first | exact Nat.le_trans (by with_reducible assumption) (by decide) | ((try simp only [List.length_drop, List.length_take]); omega)) ?_))) | ((k_dflt ((with_reducible show wpAny _ _ (subscriptTail _ (Expr.Slice none (some _) none _) _ _) _ _ _); (refine cut_all (s := ⟨_, _, _, _, _⟩) (by assumption) (by assumption) (by first | exact Nat.le_trans (by with_reducible assumption) (by decide) | ((try simp only [List.length_drop, List.length_take]); omega)) ?_); intro _ _ _ _ _))) | ((k_dflt ((with_reducible show wpAny _ _ (subscriptTail _ (Expr.Slice none (some _) none _) _ _) _ _ _); (refine cut_to (s := ⟨_, _, _, _, _⟩) (by rfl) (by omega) (by assumption) (by assumption) (by ((try simp only [List.length_drop, List.length_take] at *); omega)) (by first | exact Nat.le_trans (by with_reducible assumption) (by decide) | ((try simp only [List.length_drop, List.length_take]); omega)) ?_); intro _ _ _ _ _))) | ((with_reducible show wpAny _ _ (subscriptTail (Expr.Name _ _) (Expr.Name _ _) (Value.str _ _) (Value.int _ _)) _ _ _); (k_dflt (refine at_txt (by rfl) (by ((try simp only [List.length_drop, List.length_take] at *); omega)) (by first | exact Nat.le_trans (by with_reducible assumption) (by decide) | ((try simp only [List.length_drop, List.length_take]); omega)) ?_))) | ((k_dflt ((with_reducible show wpAny _ _ (subscriptTail _ (Expr.Slice (some _) none none _) _ _) _ _ _); (refine cut_from (s := ⟨_, _, _, _, _⟩) (by rfl) (by assumption) (by assumption) (by ((try simp only [List.length_drop, List.length_take] at *); omega)) (by first | exact Nat.le_trans (by with_reducible assumption) (by decide) | ((try simp only [List.length_drop, List.length_take]); omega)) ?_); intro _ _ _ _ _))) | walk1 | (dsimp only; walk1) | (leave1; try dsimp only))))
    refine h2 _ _ _ _ ?_ (Fr.keep F3)
    rw [← hc3, List.drop_length]
    rfl
  case turn1 =>
  clear F1 N1 hrow
  rintro i t ⟨l, vs, ns, k, res, t1⟩ u h tk I io hi ⟨hc1, hc2, hc3⟩ hio F3 N3 hlI _
  have hlI2 : @Ne Nat l I := hlI _ (.head _)
  dsimp only at hc1 hc2 hc3 F3 N3 ⊢
  (repeat' (first | (k_unfold; (try dsimp only)) | ((fail_if_success (with_reducible show wpAny _ _ (PySem.exec (PySem.Stmt.While _ _ _ _) _) _ _ _)); (fail_if_success (with_reducible show wpAny _ _ (PySem.exec (PySem.Stmt.For _ _ _ _ _) _) _ _ _)); (fail_if_success (with_reducible show wpAny _ _ (PySem.pyIter _) _ _ _)); (fail_if_success (with_reducible show wpAny _ _ (PySem.setItem _ _ _) _ _ _)); first | ((with_reducible show wpAny _ _ (PySem.call (Value.ref _) _) _ _ _); (k_dflt (refine c_subst (by (exact ⟨Frag.In.keeps (by assumption) (Fr.keep (by assumption)), ⟨_, _, _, _, _, Top.keeps (by assumption) (Fr.keep (by assumption))⟩, rfl, by (simp only [Around.deeper, Around.in1]; omega), by (simp only [Around.deeper, Around.in1]; omega)⟩)) (by assumption) (by assumption) ?_; intro _ _ _ k9q; (rename Fr _ _ _ _ => F9q); (rename News _ _ _ _ => N9q); (have F8q := Fr.keepsK F9q k9q); (have N8q := News.keepsK N9q k9q); clear F9q N9q k9q))) | ((k_dflt ((with_reducible show wpAny _ _ (call (Value.type _) [Value.ref _]) _ _ _); (refine list_range _ (by rfl) (by assumption) (by assumption) (by assumption) (by exact small_mine (by omega) (by omega) (by omega)) (by assumption) (by omega) ?_; intro _ _ _ _ _ _ l1q _ _; (try k_lt l1q))))) | ((k_dflt ((with_reducible show wpAny _ _ (call (Value.builtin "len") [Value.str _ _]) _ _ _); (refine len_txt (by first | exact Nat.le_trans (by with_reducible assumption) (by decide) | ((try simp only [List.length_drop, List.length_take]); omega)) ?_)))) | ((k_dflt ((with_reducible show wpAny _ _ (compareOp _ (Value.str (one _) _) (Value.str (one _) _)) _ _ _); (refine eq_one ?_ ?_; all_goals intro _)))) | ((with_reducible show wpAny _ _ (truthy (Value.str _ _)) _ _ _); (k_dflt (refine tru_txt (by first | exact Nat.le_trans (by with_reducible assumption) (by decide) | ((try simp only [List.length_drop, List.length_take]); omega)) ?_ ?_; all_goals (intro hl9q; (try simp only [List.length_drop, List.length_take] at hl9q))))) | ((with_reducible show wpAny _ _ (subscriptTail (Expr.Name _ _) (Expr.BinOp _ _ _ _) (Value.str _ _) (Value.int _ _)) _ _ _); (k_dflt (refine at_neg (by rfl) (by ((try simp only [List.length_drop, List.length_take] at *); omega)) (by first | exact Nat.le_trans (by with_reducible assumption) (by decide) | ((try simp only [List.length_drop, List.length_take]); omega)) ?_))) | ((k_dflt ((with_reducible show wpAny _ _ (subscriptTail _ (Expr.Slice none (some _) none _) _ _) _ _ _); (refine cut_all (s := ⟨_, _, _, _, _⟩) (by assumption) (by assumption) (by first | exact Nat.le_trans (by with_reducible assumption) (by decide) | ((try simp only [List.length_drop, List.length_take]); omega)) ?_); intro _ _ _ _ _))) | ((k_dflt ((with_reducible show wpAny _ _ (subscriptTail _ (Expr.Slice none (some _) none _) _ _) _ _ _); (refine cut_to (s := ⟨_, _, _, _, _⟩) (by rfl) (by omega) (by assumption) (by assumption) (by ((try simp only [List.length_drop, List.length_take] at *); omega)) (by first | exact Nat.le_trans (by with_reducible assumption) (by decide) | ((try simp only [List.length_drop, List.length_take]); omega)) ?_); intro _ _ _ _ _))) | ((with_reducible show wpAny _ _ (subscriptTail (Expr.Name _ _) (Expr.Name _ _) (Value.str _ _) (Value.int _ _)) _ _ _); (k_dflt (refine at_txt (by rfl) (by ((try simp only [List.length_drop, List.length_take] at *); omega)) (by first | exact Nat.le_trans (by with_reducible assumption) (by decide) | ((try simp only [List.length_drop, List.length_take]); omega)) ?_))) | ((k_dflt ((with_reducible show wpAny _ _ (subscriptTail _ (Expr.Slice (some _) none none _) _ _) _ _ _); (refine cut_from (s := ⟨_, _, _, _, _⟩) (by rfl) (by assumption) (by assumption) (by ((try simp only [List.length_drop, List.length_take] at *); omega)) (by first | exact Nat.le_trans (by with_reducible assumption) (by decide) | ((try simp only [List.length_drop, List.length_take]); omega)) ?_); intro _ _ _ _ _))) | walk1 | (dsimp only; walk1) | (leave1; try dsimp only))))
  refine For_invV s.heap rfl rfl ?_
  (repeat' (first | (k_unfold; (try dsimp only)) | ((fail_if_success (with_reducible show wpAny _ _ (PySem.exec (PySem.Stmt.While _ _ _ _) _) _ _ _)); (fail_if_success (with_reducible show wpAny _ _ (PySem.exec (PySem.Stmt.For _ _ _ _ _) _) _ _ _)); (fail_if_success (with_reducible show wpAny _ _ (PySem.pyIter _) _ _ _)); (fail_if_success (with_reducible show wpAny _ _ (PySem.setItem _ _ _) _ _ _)); first | ((with_reducible show wpAny _ _ (PySem.call (Value.ref _) _) _ _ _); (k_dflt (refine c_subst (by (exact ⟨Frag.In.keeps (by assumption) (Fr.keep (by assumption)), ⟨_, _, _, _, _, Top.keeps (by assumption) (Fr.keep (by assumption))⟩, rfl, by (simp only [Around.deeper, Around.in1]; omega), by (simp only [Around.deeper, Around.in1]; omega)⟩)) (by assumption) (by assumption) ?_; intro _ _ _ k9q; (rename Fr _ _ _ _ => F9q); (rename News _ _ _ _ => N9q); (have F8q := Fr.keepsK F9q k9q); (have N8q := News.keepsK N9q k9q); clear F9q N9q k9q))) | ((k_dflt ((with_reducible show wpAny _ _ (call (Value.type _) [Value.ref _]) _ _ _); (refine list_range _ (by rfl) (by assumption) (by assumption) (by assumption) (by exact small_mine (by omega) (by omega) (by omega)) (by assumption) (by omega) ?_; intro _ _ _ _ _ _ l1q _ _; (try k_lt l1q))))) | ((k_dflt ((with_reducible show wpAny _ _ (call (Value.builtin "len") [Value.str _ _]) _ _ _); (refine len_txt (by first | exact Nat.le_trans (by with_reducible assumption) (by decide) | ((try simp only [List.length_drop, List.length_take]); omega)) ?_)))) | ((k_dflt ((with_reducible show wpAny _ _ (compareOp _ (Value.str (one _) _) (Value.str (one _) _)) _ _ _); (refine eq_one ?_ ?_; all_goals intro _)))) | ((with_reducible show wpAny _ _ (truthy (Value.str _ _)) _ _ _); (k_dflt (refine tru_txt (by first | exact Nat.le_trans (by with_reducible assumption) (by decide) | ((try simp only [List.length_drop, List.length_take]); omega)) ?_ ?_; all_goals (intro hl9q; (try simp only [List.length_drop, List.length_take] at hl9q))))) | ((with_reducible show wpAny _ _ (subscriptTail (Expr.Name _ _) (Expr.BinOp _ _ _ _) (Value.str _ _) (Value.int _ _)) _ _ _); (k_dflt (refine at_neg (by rfl) (by ((try simp only [List.length_drop, List.length_take] at *); omega)) (by first | exact Nat.le_trans (by with_reducible assumption) (by decide) | ((try simp only [List.length_drop, List.length_take]); omega)) ?_))) | ((k_dflt ((with_reducible show wpAny _ _ (subscriptTail _ (Expr.Slice none (some _) none _) _ _) _ _ _); (refine cut_all (s := ⟨_, _, _, _, _⟩) (by assumption) (by assumption) (by first | exact Nat.le_trans (by with_reducible assumption) (by decide) | ((try simp only [List.length_drop, List.length_take]); omega)) ?_); intro _ _ _ _ _))) | ((k_dflt ((with_reducible show wpAny _ _ (subscriptTail _ (Expr.Slice none (some _) none _) _ _) _ _ _); (refine cut_to (s := ⟨_, _, _, _, _⟩) (by rfl) (by omega) (by assumption) (by assumption) (by ((try simp only [List.length_drop, List.length_take] at *); omega)) (by first | exact Nat.le_trans (by with_reducible assumption) (by decide) | ((try simp only [List.length_drop, List.length_take]); omega)) ?_); intro _ _ _ _ _))) | ((with_reducible show wpAny _ _ (subscriptTail (Expr.Name _ _) (Expr.Name _ _) (Value.str _ _) (Value.int _ _)) _ _ _); (k_dflt (refine at_txt (by rfl) (by ((try simp only [List.length_drop, List.length_take] at *); omega)) (by first | exact Nat.le_trans (by with_reducible assumption) (by decide) | ((try simp only [List.length_drop, List.length_take]); omega)) ?_))) | ((k_dflt ((with_reducible show wpAny _ _ (subscriptTail _ (Expr.Slice (some _) none none _) _ _) _ _ _); (refine cut_from (s := ⟨_, _, _, _, _⟩) (by rfl) (by assumption) (by assumption) (by ((try simp only [List.length_drop, List.length_take] at *); omega)) (by first | exact Nat.le_trans (by with_reducible assumption) (by decide) | ((try simp only [List.length_drop, List.length_take]); omega)) ?_); intro _ _ _ _ _))) | walk1 | (dsimp only; walk1) | (leave1; try dsimp only))))
  rename Fr _ _ _ _ => F1
  rename News _ _ _ _ => N1
  have hbc : 65 ≤ y.getD i 0 ∧ y.getD i 0 < 81 := by
    rw [List.getD_eq_getElem?_getD, List.getElem?_eq_getElem hi]; exact hyc _ (List.getElem_mem _)
  generalize hfull : rowStep (y.getD i 0) ((i : Int) * 2) ((i : Int) * 2) bigM x ns = full
  have hc3' := rowsF_step (mc := mc) (a := x) (row := ns) (res := res) hi
  rw [hfull, hc3] at hc3'
  refine' for_range (σ := LI) x.length (fun i => (i : Int)) [(I, io)] (fun c => [(l, listOf c.vs.toArray c.k)]) (fun c => [(Str.ofString "distance", .int c.d c.td), (Str.ofString "result", .int c.r c.tr), (Str.ofString "minimum", .int c.m c.tm), (Str.ofString "bchar", .str (one (y.getD i 0)) _), (Str.ofString "row", .ref l), (Str.ofString "a", .str (txt x) t2), (Str.ofString "b", .str (txt y) t3), (Str.ofString "max_cost", .int mc tm)])
    (fun j c => IntsAre c.vs c.ns ∧ c.ns.length = x.length ∧ full = (c.ns.take j ++ (rowStep (y.getD i 0) c.d c.r c.m (x.drop j) (c.ns.drop j)).1, (rowStep (y.getD i 0) c.d c.r c.m (x.drop j) (c.ns.drop j)).2)) ⟨_, ns, _, (i : Int) * 2, (i : Int) * 2, bigM, _, _, _⟩ ?hh ?hr ?hs ?hn ?hg F1 N1 ?hnews ?hp0 ?hj ?turn2 ?done2
  case hh => rfl
  case hr => assumption
  case hs => exact small_mine (by omega) (by omega) (by omega)
  case hn => assumption
  case hg => intro i; omega
  case hnews => ((repeat' (first | exact List.forall_mem_nil _ | (refine List.forall_mem_cons.mpr ⟨by k_memK, ?_⟩))))
  case hp0 => ((repeat' (first | exact List.forall_mem_nil _ | (refine List.forall_mem_cons.mpr ⟨by with_unfolding_all rfl, ?_⟩))))
  case hj => exact ⟨hc1, hc2, by rw [← hfull]; rfl⟩
  case done2 =>
    rintro ⟨vs', ns', k', d, r, mn, td, tr, tmn⟩ u h tk ⟨hd1, hd2, hd3⟩ F3 N3
    dsimp only at hd1 hd2 hd3 F3 N3 ⊢
    have e : full = (ns', r, mn) := by
      rw [hd3, List.drop_length, ← hd2, List.take_length]; simp [rowStep]
    rw [e] at hc3'
    dsimp only at hc3'
    (repeat' (first | (k_unfold; (try dsimp only)) | ((fail_if_success (with_reducible show wpAny _ _ (PySem.exec (PySem.Stmt.While _ _ _ _) _) _ _ _)); (fail_if_success (with_reducible show wpAny _ _ (PySem.exec (PySem.Stmt.For _ _ _ _ _) _) _ _ _)); (fail_if_success (with_reducible show wpAny _ _ (PySem.pyIter _) _ _ _)); (fail_if_success (with_reducible show wpAny _ _ (PySem.setItem _ _ _) _ _ _)); first | ((with_reducible show wpAny _ _ (PySem.call (Value.ref _) _) _ _ _); (k_dflt (refine c_subst (by (exact ⟨Frag.In.keeps (by assumption) (Fr.keep (by assumption)), ⟨_, _, _, _, _, Top.keeps (by assumption) (Fr.keep (by assumption))⟩, rfl, by (simp only [Around.deeper, Around.in1]; omega), by (simp only [Around.deeper, Around.in1]; omega)⟩)) (by assumption) (by assumption) ?_; intro _ _ _ k9q; (rename Fr _ _ _ _ => F9q); (rename News _ _ _ _ => N9q); (have F8q := Fr.keepsK F9q k9q); (have N8q := News.keepsK N9q k9q); clear F9q N9q k9q))) | ((k_dflt ((with_reducible show wpAny _ _ (call (Value.type _) [Value.ref _]) _ _ _); (refine list_range _ (by rfl) (by assumption) (by assumption) (by assumption) (by exact small_mine (by omega) (by omega) (by omega)) (by assumption) (by omega) ?_; intro _ _ _ _ _ _ l1q _ _; (try k_lt l1q))))) | ((k_dflt ((with_reducible show wpAny _ _ (call (Value.builtin "len") [Value.str _ _]) _ _ _); (refine len_txt (by first | exact Nat.le_trans (by with_reducible assumption) (by decide) | ((try simp only [List.length_drop, List.length_take]); omega)) ?_)))) | ((k_dflt ((with_reducible show wpAny _ _ (compareOp _ (Value.str (one _) _) (Value.str (one _) _)) _ _ _); (refine eq_one ?_ ?_; all_goals intro _)))) | ((with_reducible show wpAny _ _ (truthy (Value.str _ _)) _ _ _); (k_dflt (refine tru_txt (by first | exact Nat.le_trans (by with_reducible assumption) (by decide) | ((try simp only [List.length_drop, List.length_take]); omega)) ?_ ?_; all_goals (intro hl9q; (try simp only [List.length_drop, List.length_take] at hl9q))))) | ((with_reducible show wpAny _ _ (subscriptTail (Expr.Name _ _) (Expr.BinOp _ _ _ _) (Value.str _ _) (Value.int _ _)) _ _ _); (k_dflt (refine at_neg (by rfl) (by ((try simp only [List.length_drop, List.length_take] at *); omega)) (by first | exact Nat.le_trans (by with_reducible assumption) (by decide) | ((try simp only [List.length_drop, List.length_take]); omega)) ?_))) | ((k_dflt ((with_reducible show wpAny _ _ (subscriptTail _ (Expr.Slice none (some _) none _) _ _) _ _ _); (refine cut_all (s := ⟨_, _, _, _, _⟩) (by assumption) (by assumption) (by first | exact Nat.le_trans (by with_reducible assumption) (by decide) | ((try simp only [List.length_drop, List.length_take]); omega)) ?_); intro _ _ _ _ _))) | ((k_dflt ((with_reducible show wpAny _ _ (subscriptTail _ (Expr.Slice none (some _) none _) _ _) _ _ _); (refine cut_to (s := ⟨_, _, _, _, _⟩) (by rfl) (by omega) (by assumption) (by assumption) (by ((try simp only [List.length_drop, List.length_take] at *); omega)) (by first | exact Nat.le_trans (by with_reducible assumption) (by decide) | ((try simp only [List.length_drop, List.length_take]); omega)) ?_); intro _ _ _ _ _))) | ((with_reducible show wpAny _ _ (subscriptTail (Expr.Name _ _) (Expr.Name _ _) (Value.str _ _) (Value.int _ _)) _ _ _); (k_dflt (refine at_txt (by rfl) (by ((try simp only [List.length_drop, List.length_take] at *); omega)) (by first | exact Nat.le_trans (by with_reducible assumption) (by decide) | ((try simp only [List.length_drop, List.length_take]); omega)) ?_))) | ((k_dflt ((with_reducible show wpAny _ _ (subscriptTail _ (Expr.Slice (some _) none none _) _ _) _ _ _); (refine cut_from (s := ⟨_, _, _, _, _⟩) (by rfl) (by assumption) (by assumption) (by ((try simp only [List.length_drop, List.length_take] at *); omega)) (by first | exact Nat.le_trans (by with_reducible assumption) (by decide) | ((try simp only [List.length_drop, List.length_take]); omega)) ?_); intro _ _ _ _ _))) | walk1 | (dsimp only; walk1) | (leave1; try dsimp only))))
    · rw [if_pos (by assumption)] at hc3'
      exact h2 _ _ _ _ hc3'.symm (Fr.keep F3)
    · rw [if_neg (by assumption)] at hc3'
      refine' TurnP.next ⟨l, vs', ns', k', r, tr⟩ ?F ?N ?n ?c ?hp ?P
      case F => exact F3
      case N => exact N3
      case n => ((repeat' (first | exact List.forall_mem_nil _ | (refine List.forall_mem_cons.mpr ⟨by k_memK, ?_⟩))))
      case c => rw [hio]; exact List.forall_mem_cons.mpr ⟨(show Value.type "list" ≠ Value.type "range_iterator" by decide), List.forall_mem_nil _⟩
      case hp => ((repeat' (first | exact List.forall_mem_nil _ | (refine List.forall_mem_cons.mpr ⟨by with_unfolding_all rfl, ?_⟩))))
      case P => exact ⟨hd1, hd2, hc3'.symm⟩
  case turn2 =>
  clear F1 N1
  rintro j tj ⟨vs', ns', k', d, r, mn, td, tr, tmn⟩ u h tk I2 io2 hj ⟨hd1, hd2, hd3⟩ hio2 F3 N3 hlI3 hlI4
  dsimp only at hd1 hd2 hd3 F3 N3 ⊢
  have hxj : 65 ≤ x.getD j 0 ∧ x.getD j 0 < 81 := by
    rw [List.getD_eq_getElem?_getD, List.getElem?_eq_getElem hj]; exact hxc _ (List.getElem_mem _)
  have hne1 : @Ne Nat l I2 := hlI3 _ (.head _)
  have hne2 : @Ne Nat I I2 := hlI4 _ (.head _)
  have hjn : j < ns'.length := by omega
  have hvl : vs'.length = ns'.length := hd1.length
  (repeat' (first | (k_unfold; (try dsimp only)) | ((fail_if_success (with_reducible show wpAny _ _ (PySem.exec (PySem.Stmt.While _ _ _ _) _) _ _ _)); (fail_if_success (with_reducible show wpAny _ _ (PySem.exec (PySem.Stmt.For _ _ _ _ _) _) _ _ _)); (fail_if_success (with_reducible show wpAny _ _ (PySem.pyIter _) _ _ _)); (fail_if_success (with_reducible show wpAny _ _ (PySem.setItem _ _ _) _ _ _)); first | ((with_reducible show wpAny _ _ (PySem.call (Value.ref _) _) _ _ _); (k_dflt (refine c_subst (by (exact ⟨Frag.In.keeps (by assumption) (Fr.keep (by assumption)), ⟨_, _, _, _, _, Top.keeps (by assumption) (Fr.keep (by assumption))⟩, rfl, by (simp only [Around.deeper, Around.in1]; omega), by (simp only [Around.deeper, Around.in1]; omega)⟩)) (by assumption) (by assumption) ?_; intro _ _ _ k9q; (rename Fr _ _ _ _ => F9q); (rename News _ _ _ _ => N9q); (have F8q := Fr.keepsK F9q k9q); (have N8q := News.keepsK N9q k9q); clear F9q N9q k9q))) | ((k_dflt ((with_reducible show wpAny _ _ (call (Value.type _) [Value.ref _]) _ _ _); (refine list_range _ (by rfl) (by assumption) (by assumption) (by assumption) (by exact small_mine (by omega) (by omega) (by omega)) (by assumption) (by omega) ?_; intro _ _ _ _ _ _ l1q _ _; (try k_lt l1q))))) | ((k_dflt ((with_reducible show wpAny _ _ (call (Value.builtin "len") [Value.str _ _]) _ _ _); (refine len_txt (by first | exact Nat.le_trans (by with_reducible assumption) (by decide) | ((try simp only [List.length_drop, List.length_take]); omega)) ?_)))) | ((k_dflt ((with_reducible show wpAny _ _ (compareOp _ (Value.str (one _) _) (Value.str (one _) _)) _ _ _); (refine eq_one ?_ ?_; all_goals intro _)))) | ((with_reducible show wpAny _ _ (truthy (Value.str _ _)) _ _ _); (k_dflt (refine tru_txt (by first | exact Nat.le_trans (by with_reducible assumption) (by decide) | ((try simp only [List.length_drop, List.length_take]); omega)) ?_ ?_; all_goals (intro hl9q; (try simp only [List.length_drop, List.length_take] at hl9q))))) | ((with_reducible show wpAny _ _ (subscriptTail (Expr.Name _ _) (Expr.BinOp _ _ _ _) (Value.str _ _) (Value.int _ _)) _ _ _); (k_dflt (refine at_neg (by rfl) (by ((try simp only [List.length_drop, List.length_take] at *); omega)) (by first | exact Nat.le_trans (by with_reducible assumption) (by decide) | ((try simp only [List.length_drop, List.length_take]); omega)) ?_))) | ((k_dflt ((with_reducible show wpAny _ _ (subscriptTail _ (Expr.Slice none (some _) none _) _ _) _ _ _); (refine cut_all (s := ⟨_, _, _, _, _⟩) (by assumption) (by assumption) (by first | exact Nat.le_trans (by with_reducible assumption) (by decide) | ((try simp only [List.length_drop, List.length_take]); omega)) ?_); intro _ _ _ _ _))) | ((k_dflt ((with_reducible show wpAny _ _ (subscriptTail _ (Expr.Slice none (some _) none _) _ _) _ _ _); (refine cut_to (s := ⟨_, _, _, _, _⟩) (by rfl) (by omega) (by assumption) (by assumption) (by ((try simp only [List.length_drop, List.length_take] at *); omega)) (by first | exact Nat.le_trans (by with_reducible assumption) (by decide) | ((try simp only [List.length_drop, List.length_take]); omega)) ?_); intro _ _ _ _ _))) | ((with_reducible show wpAny _ _ (subscriptTail (Expr.Name _ _) (Expr.Name _ _) (Value.str _ _) (Value.int _ _)) _ _ _); (k_dflt (refine at_txt (by rfl) (by ((try simp only [List.length_drop, List.length_take] at *); omega)) (by first | exact Nat.le_trans (by with_reducible assumption) (by decide) | ((try simp only [List.length_drop, List.length_take]); omega)) ?_))) | ((k_dflt ((with_reducible show wpAny _ _ (subscriptTail _ (Expr.Slice (some _) none none _) _ _) _ _ _); (refine cut_from (s := ⟨_, _, _, _, _⟩) (by rfl) (by assumption) (by assumption) (by ((try simp only [List.length_drop, List.length_take] at *); omega)) (by first | exact Nat.le_trans (by with_reducible assumption) (by decide) | ((try simp only [List.length_drop, List.length_take]); omega)) ?_); intro _ _ _ _ _))) | walk1 | (dsimp only; walk1) | (leave1; try dsimp only))))
  rename Fr _ _ _ _ => F9
  rename News _ _ _ _ => N9
  have hez : ns'.getD (Int.toNat (j : Int)) 0 = ns'.getD j 0 := by rw [Int.toNat_natCast]
  rw [hez] at F9 ⊢
  rw [step_is] at F9 ⊢
  obtain ⟨r', hr2⟩ : ∃ r', ∀ _ : Unit, min (min r (ns'.getD j 0) + 2) (d + cost (y.getD i 0) (x.getD j 0)) = r' := ⟨_, fun _ => rfl⟩
  rw [hr2 ()] at F9 ⊢
  simp only [List.cons_append, List.nil_append] at N9
  refine' put_list (vs := vs') (k := k') (p := j) F9 N9 ?hp ?hlt ?hz ?U ?_
  case hp => rfl
  case hlt => omega
  case hz => omega
  case U => k_upd
  intro h8 F8 N8
  (repeat' (first | (k_unfold; (try dsimp only)) | ((fail_if_success (with_reducible show wpAny _ _ (PySem.exec (PySem.Stmt.While _ _ _ _) _) _ _ _)); (fail_if_success (with_reducible show wpAny _ _ (PySem.exec (PySem.Stmt.For _ _ _ _ _) _) _ _ _)); (fail_if_success (with_reducible show wpAny _ _ (PySem.pyIter _) _ _ _)); (fail_if_success (with_reducible show wpAny _ _ (PySem.setItem _ _ _) _ _ _)); first | ((with_reducible show wpAny _ _ (PySem.call (Value.ref _) _) _ _ _); (k_dflt (refine c_subst (by (exact ⟨Frag.In.keeps (by assumption) (Fr.keep (by assumption)), ⟨_, _, _, _, _, Top.keeps (by assumption) (Fr.keep (by assumption))⟩, rfl, by (simp only [Around.deeper, Around.in1]; omega), by (simp only [Around.deeper, Around.in1]; omega)⟩)) (by assumption) (by assumption) ?_; intro _ _ _ k9q; (rename Fr _ _ _ _ => F9q); (rename News _ _ _ _ => N9q); (have F8q := Fr.keepsK F9q k9q); (have N8q := News.keepsK N9q k9q); clear F9q N9q k9q))) | ((k_dflt ((with_reducible show wpAny _ _ (call (Value.type _) [Value.ref _]) _ _ _); (refine list_range _ (by rfl) (by assumption) (by assumption) (by assumption) (by exact small_mine (by omega) (by omega) (by omega)) (by assumption) (by omega) ?_; intro _ _ _ _ _ _ l1q _ _; (try k_lt l1q))))) | ((k_dflt ((with_reducible show wpAny _ _ (call (Value.builtin "len") [Value.str _ _]) _ _ _); (refine len_txt (by first | exact Nat.le_trans (by with_reducible assumption) (by decide) | ((try simp only [List.length_drop, List.length_take]); omega)) ?_)))) | ((k_dflt ((with_reducible show wpAny _ _ (compareOp _ (Value.str (one _) _) (Value.str (one _) _)) _ _ _); (refine eq_one ?_ ?_; all_goals intro _)))) | ((with_reducible show wpAny _ _ (truthy (Value.str _ _)) _ _ _); (k_dflt (refine tru_txt (by first | exact Nat.le_trans (by with_reducible assumption) (by decide) | ((try simp only [List.length_drop, List.length_take]); omega)) ?_ ?_; all_goals (intro hl9q; (try simp only [List.length_drop, List.length_take] at hl9q))))) | ((with_reducible show wpAny _ _ (subscriptTail (Expr.Name _ _) (Expr.BinOp _ _ _ _) (Value.str _ _) (Value.int _ _)) _ _ _); (k_dflt (refine at_neg (by rfl) (by ((try simp only [List.length_drop, List.length_take] at *); omega)) (by first | exact Nat.le_trans (by with_reducible assumption) (by decide) | ((try simp only [List.length_drop, List.length_take]); omega)) ?_))) | ((k_dflt ((with_reducible show wpAny _ _ (subscriptTail _ (Expr.Slice none (some _) none _) _ _) _ _ _); (refine cut_all (s := ⟨_, _, _, _, _⟩) (by assumption) (by assumption) (by first | exact Nat.le_trans (by with_reducible assumption) (by decide) | ((try simp only [List.length_drop, List.length_take]); omega)) ?_); intro _ _ _ _ _))) | ((k_dflt ((with_reducible show wpAny _ _ (subscriptTail _ (Expr.Slice none (some _) none _) _ _) _ _ _); (refine cut_to (s := ⟨_, _, _, _, _⟩) (by rfl) (by omega) (by assumption) (by assumption) (by ((try simp only [List.length_drop, List.length_take] at *); omega)) (by first | exact Nat.le_trans (by with_reducible assumption) (by decide) | ((try simp only [List.length_drop, List.length_take]); omega)) ?_); intro _ _ _ _ _))) | ((with_reducible show wpAny _ _ (subscriptTail (Expr.Name _ _) (Expr.Name _ _) (Value.str _ _) (Value.int _ _)) _ _ _); (k_dflt (refine at_txt (by rfl) (by ((try simp only [List.length_drop, List.length_take] at *); omega)) (by first | exact Nat.le_trans (by with_reducible assumption) (by decide) | ((try simp only [List.length_drop, List.length_take]); omega)) ?_))) | ((k_dflt ((with_reducible show wpAny _ _ (subscriptTail _ (Expr.Slice (some _) none none _) _ _) _ _ _); (refine cut_from (s := ⟨_, _, _, _, _⟩) (by rfl) (by assumption) (by assumption) (by ((try simp only [List.length_drop, List.length_take] at *); omega)) (by first | exact Nat.le_trans (by with_reducible assumption) (by decide) | ((try simp only [List.length_drop, List.length_take]); omega)) ?_); intro _ _ _ _ _))) | walk1 | (dsimp only; walk1) | (leave1; try dsimp only))))
  all_goals
    refine' TurnP.next ⟨vs'.set j (.int r' _), ns'.set j r', k', ns'.getD j 0, r', _, _, _, _⟩ ?F ?N ?n ?c ?hp ?P
    case F => assumption
    case N => assumption
    case n => ((repeat' (first | exact List.forall_mem_nil _ | (refine List.forall_mem_cons.mpr ⟨by k_memK, ?_⟩))))
    case c => rw [hio2]; exact List.forall_mem_cons.mpr ⟨(show Value.type "list" ≠ Value.type "range_iterator" by decide), List.forall_mem_nil _⟩
    case hp => ((repeat' (first | exact List.forall_mem_nil _ | (refine List.forall_mem_cons.mpr ⟨by with_unfolding_all rfl, ?_⟩))))
    case P => exact ⟨intsAre_set hd1 _ _ _, by rw [List.length_set]; exact hd2, rowStep_inv hj hjn hd3 r' (hr2 ()).symm _ (by (dsimp only; split <;> omega))⟩
end Mine
end
section
open PySem PySem.W PyProof.Rows PySem.Calls PySem.Spec PySem.Flt
set_option maxRecDepth 100000
set_option maxHeartbeats 8000000
namespace Mine
def fmax2 (x y : UInt64) : UInt64 := if Float64.cmp x y == some .lt then y else x
def fmin2 (x y : UInt64) : UInt64 := if Float64.cmp y x == some .lt then y else x
section
variable {prog : Program} {w : World} {A : Around} {E : Value → Shared → Prop} {s : Shared} {h₀ : Heap} {L : Addr} {m : Str → Option Value} {news : List (Addr × Obj)} {Q : Value → Shared → Prop}
theorem three_old {h : Heap} {o o2 : Obj} {n : Nat} (hn : n = h.objs.size) : ∀ d ∈ [n + 1, n], d < ((h.push o).push o2).objs.size := by
  intro d hd
  rw [Heap.size_push, Heap.size_push]
  rcases List.mem_cons.mp hd with rfl | hd
  · subst hn; exact Nat.lt_succ_self _
  · rcases List.mem_cons.mp hd with rfl | hd
    · subst hn; exact Nat.lt_succ_of_lt (Nat.lt_succ_self _)
    · cases hd
theorem max_three_f {a b c : UInt64} {t u v : Tok} (hh : A.handled = none) (F : Fr h₀ L s.heap m) (N : News h₀ L s.heap news)
    (h1 : t ≠ 0) (h2 : u ≠ 0) (h3 : v ≠ 0) (h : ∀ h' tk x, x ≠ 0 → Fr h₀ L h' m → News h₀ L h' news → Q (.float (fmax2 (fmax2 a b) c) x) { s with heap := h', toks := tk }) :
    wpAny (model prog w) A (call (.builtin "max") [.float a t, .float b u, .float c v]) Q E s := by
  have hT : (s.heap.push { cls := .type "tuple", data := .seq #[.float a t, .float b u, .float c v] }).IsTuple s.heap.objs.size #[.float a t, .float b u, .float c v] := ⟨_, Heap.get?_push_size _ rfl, rfl, 0, rfl⟩
  refine call_max_three (wpAny_pyIter_tuple hT ?_)
  have hsz : (s.heap.push { cls := .type "tuple", data := .seq #[.float a t, .float b u, .float c v] }).objs.size = s.heap.objs.size + 1 := Heap.size_push ..
  refine ⟨_, [_, s.heap.objs.size], [_], _, _, _, _, rfl, Walks.tuple (A := A.in1) hh _ s.heap.objs.size (by rw [hsz]; exact Nat.ne_of_lt (Nat.lt_succ_self _)) #[.float a t, .float b u, .float c v],
    ⟨⟨_, Heap.get?_push_size _ rfl, rfl, rfl⟩, hT.push _⟩, (by rw [hsz]; exact three_old rfl), by simp, cmpOf_gt #[.float a t, .float b u, .float c v] (by simp [NumV.float]), fun r h' tk hP hk => ?_⟩
  have hold : ∀ d o, s.heap.get? d = some o → h'.get? d = some o := fun d o e => by
    refine hk d o (fun hm => ?_) (Heap.get?_push_of_some _ (Heap.get?_push_of_some _ e))
    rw [List.mem_singleton.mp hm, hsz] at e
    exact absurd (Heap.lt_size e) (Nat.not_lt.mpr (Nat.le_succ _))
  have hv : ∃ x, x ≠ 0 ∧ r = .float (fmax2 (fmax2 a b) c) x := by
    unfold fmax2
    cases g1 : Float64.cmp a b == some .lt <;> simp only [if_true, if_false, Bool.false_eq_true]
    · cases g2 : Float64.cmp a c == some .lt <;> simp [argBest, ltV, g1, g2] at hP <;> exact ⟨_, by assumption, hP.symm⟩
    · cases g2 : Float64.cmp b c == some .lt <;> simp [argBest, ltV, g1, g2] at hP <;> exact ⟨_, by assumption, hP.symm⟩
  obtain ⟨x, hx, rfl⟩ := hv
  exact h h' tk x hx (F.keeps hold) (News.keepsK N hold)
theorem min_three_f {a b c : UInt64} {t u v : Tok} (hh : A.handled = none) (F : Fr h₀ L s.heap m) (N : News h₀ L s.heap news)
    (h1 : t ≠ 0) (h2 : u ≠ 0) (h3 : v ≠ 0) (h : ∀ h' tk x, x ≠ 0 → Fr h₀ L h' m → News h₀ L h' news → Q (.float (fmin2 (fmin2 a b) c) x) { s with heap := h', toks := tk }) :
    wpAny (model prog w) A (call (.builtin "min") [.float a t, .float b u, .float c v]) Q E s := by
  have hT : (s.heap.push { cls := .type "tuple", data := .seq #[.float a t, .float b u, .float c v] }).IsTuple s.heap.objs.size #[.float a t, .float b u, .float c v] := ⟨_, Heap.get?_push_size _ rfl, rfl, 0, rfl⟩
  refine call_min_three (wpAny_pyIter_tuple hT ?_)
  have hsz : (s.heap.push { cls := .type "tuple", data := .seq #[.float a t, .float b u, .float c v] }).objs.size = s.heap.objs.size + 1 := Heap.size_push ..
  refine ⟨_, [_, s.heap.objs.size], [_], _, _, _, _, rfl, Walks.tuple (A := A.in1) hh _ s.heap.objs.size (by rw [hsz]; exact Nat.ne_of_lt (Nat.lt_succ_self _)) #[.float a t, .float b u, .float c v],
    ⟨⟨_, Heap.get?_push_size _ rfl, rfl, rfl⟩, hT.push _⟩, (by rw [hsz]; exact three_old rfl), by simp, cmpOf_lt #[.float a t, .float b u, .float c v] (by simp [NumV.float]), fun r h' tk hP hk => ?_⟩
  have hold : ∀ d o, s.heap.get? d = some o → h'.get? d = some o := fun d o e => by
    refine hk d o (fun hm => ?_) (Heap.get?_push_of_some _ (Heap.get?_push_of_some _ e))
    rw [List.mem_singleton.mp hm, hsz] at e
    exact absurd (Heap.lt_size e) (Nat.not_lt.mpr (Nat.le_succ _))
  have hv : ∃ x, x ≠ 0 ∧ r = .float (fmin2 (fmin2 a b) c) x := by
    unfold fmin2
    cases g1 : Float64.cmp b a == some .lt <;> simp only [if_true, if_false, Bool.false_eq_true]
    · cases g2 : Float64.cmp c a == some .lt <;> simp [argBest, ltV, g1, g2] at hP <;> exact ⟨_, by assumption, hP.symm⟩
    · cases g2 : Float64.cmp c b == some .lt <;> simp [argBest, ltV, g1, g2] at hP <;> exact ⟨_, by assumption, hP.symm⟩
  obtain ⟨x, hx, rfl⟩ := hv
  exact h h' tk x hx (F.keeps hold) (News.keepsK N hold)
end
end Mine
end
section
open PySem PySem.W PyProof.Rows PySem.Calls PySem.Spec PySem.Flt
set_option maxRecDepth 100000
set_option maxHeartbeats 8000000
namespace Mine
abbrev isEq (a b : UInt64) : Bool := Float64.cmp a b == some Ordering.eq
def rgbF (r g b : UInt64) : Option (UInt64 × UInt64 × UInt64) :=
  if isEq (fmin2 (fmin2 r g) b) (fmax2 (fmax2 r g) b) = true then some (0, 0, fmax2 (fmax2 r g) b)
  else if Float64.isZero (fmax2 (fmax2 r g) b) = true then none
  else if Float64.isZero (Float64.sub (fmax2 (fmax2 r g) b) (fmin2 (fmin2 r g) b)) = true then none
  else some ((Float64.divmod (Float64.div (
      if isEq r (fmax2 (fmax2 r g) b) = true then
        Float64.sub (Float64.div (Float64.sub (fmax2 (fmax2 r g) b) b) (Float64.sub (fmax2 (fmax2 r g) b) (fmin2 (fmin2 r g) b))) (Float64.div (Float64.sub (fmax2 (fmax2 r g) b) g) (Float64.sub (fmax2 (fmax2 r g) b) (fmin2 (fmin2 r g) b)))
      else if isEq g (fmax2 (fmax2 r g) b) = true then
        Float64.sub (Float64.add 4611686018427387904 (Float64.div (Float64.sub (fmax2 (fmax2 r g) b) r) (Float64.sub (fmax2 (fmax2 r g) b) (fmin2 (fmin2 r g) b)))) (Float64.div (Float64.sub (fmax2 (fmax2 r g) b) b) (Float64.sub (fmax2 (fmax2 r g) b) (fmin2 (fmin2 r g) b)))
      else Float64.sub (Float64.add 4616189618054758400 (Float64.div (Float64.sub (fmax2 (fmax2 r g) b) g) (Float64.sub (fmax2 (fmax2 r g) b) (fmin2 (fmin2 r g) b)))) (Float64.div (Float64.sub (fmax2 (fmax2 r g) b) r) (Float64.sub (fmax2 (fmax2 r g) b) (fmin2 (fmin2 r g) b)))
    ) 4618441417868443648) 4607182418800017408).2, Float64.div (Float64.sub (fmax2 (fmax2 r g) b) (fmin2 (fmin2 r g) b)) (fmax2 (fmax2 r g) b), fmax2 (fmax2 r g) b)
abbrev hsvI (h : UInt64) : Int := Flt.toInt Float64.truncOf (Float64.mul h 4618441417868443648)
def hsvT (h : UInt64) : UInt64 := Float64.sub (Float64.mul h 4618441417868443648) (Float64.ofInt (hsvI h))
def hsvP (s v : UInt64) : UInt64 := Float64.mul v (Float64.sub 4607182418800017408 s)
def hsvQ (h s v : UInt64) : UInt64 := Float64.mul v (Float64.sub 4607182418800017408 (Float64.mul s (hsvT h)))
def hsvU (h s v : UInt64) : UInt64 := Float64.mul v (Float64.sub 4607182418800017408 (Float64.mul s (Float64.sub 4607182418800017408 (hsvT h))))
def hsvF (h s v : UInt64) : Option (UInt64 × UInt64 × UInt64) :=
  if isEq s 0 = true then some (v, v, v)
  else if Float64.isFinite (Float64.mul h 4618441417868443648) = false then none
  else if 2 ^ 64 ≤ (hsvI h).natAbs then none
  else if (hsvI h).fmod 6 = 0 then some (v, hsvU h s v, hsvP s v)
  else if (hsvI h).fmod 6 = 1 then some (hsvQ h s v, v, hsvP s v)
  else if (hsvI h).fmod 6 = 2 then some (hsvP s v, v, hsvU h s v)
  else if (hsvI h).fmod 6 = 3 then some (hsvP s v, hsvQ h s v, v)
  else if (hsvI h).fmod 6 = 4 then some (hsvU h s v, hsvP s v, v)
  else if (hsvI h).fmod 6 = 5 then some (v, hsvP s v, hsvQ h s v)
  else none
abbrev tup3 (a b c : UInt64) (t u v : Tok) : Obj := { cls := .type "tuple", data := .seq #[.float a t, .float b u, .float c v] }
end Mine
end
section
open PySem PySem.W PyProof.Rows PySem.Calls PySem.Spec PySem.Flt
set_option maxRecDepth 100000
set_option maxHeartbeats 8000000
namespace Mine
section
variable {prog : Program} {w : World} {M : Model} {A : Around} {E : Value → Shared → Prop} {s : Shared} {h₀ : Heap} {L : Addr} {m : Str → Option Value} {news : List (Addr × Obj)}
theorem same_float {a b : UInt64} {t u : Tok} {Q : Bool → Shared → Prop} (h1 : t ≠ 0) (h2 : u ≠ 0) (hb : NoneBooked s.heap) (hq : ∀ b, Q b s) : wpAny M A (isSame (.float a t) (.float b u)) Q E s := by
  have h0 : (t == 0 || u == 0) = false := by simp [h1, h2]
  show wpAny M A (isSame.created (a == b && !Float64.isNaN a) t u) Q E s
  unfold isSame.created
  refine wpAny_ite ?_
  split
  · rename_i h; rw [h0] at h; exact absurd h Bool.false_ne_true
  refine wpAny_ite ?_
  split
  · exact wpAny_pure (hq _)
  refine wpAny_ite ?_
  split
  · exact wpAny_pure (hq _)
  refine wpAny_bind (wpAny_sharingNotTold_none hb ?_)
  first | rw [if_neg Bool.false_ne_true] | simp only [Bool.false_eq_true, if_false]
  refine wpAny_bind (wpAny_sharingNotTold_none hb ?_)
  first | rw [if_neg Bool.false_ne_true] | simp only [Bool.false_eq_true, if_false]
  exact wpAny_bind (wpAny_rule (wpAny_bind (wpAny_askSetting (wpAny_pure (hq _)))))
theorem eqAt_float {a b : UInt64} {t u : Tok} (h1 : t ≠ 0) (h2 : u ≠ 0) (hb : NoneBooked s.heap) (he : isEq a b = true) : SeqAt.EqAt A s (.float a t) (.float b u) true := fun prog w E Q h => by
  unfold eqBool
  refine wpAny_holding ?_
  refine wpAny_ite_split (fun hab => ?_) (fun _ => ?_)
  · exact wpAny_bind (wpAny_rule (wpAny_pure h))
  · refine wpAny_bind (same_float h1 h2 hb fun c => ?_)
    cases c
    · refine wpAny_bind (AutoFloatOps.eq_0 ?_)
      rw [show (Float64.cmp a b == some Ordering.eq) = true from he]
      exact wpAny_truthy_bool h
    · exact wpAny_pure h
theorem rcne_go {a b : Value} {k : Bool} {Q : Value → Shared → Prop} (h : SeqAt.RcNeAt A s a b k) (hq : Q (.bool k) s) : wpAny (model prog w) A (compareOp .NotEq a b) Q E s := h prog w E Q hq
abbrev tup2 (a b : UInt64) (t u : Tok) : Obj := { cls := .type "tuple", data := .seq #[.float a t, .float b u] }
theorem ne_tup2 {D1 D2 : Addr} {a b c d : UInt64} {t u v x : Tok} {Q : Value → Shared → Prop} (g1 : s.heap.get? D1 = some (tup2 a b t u)) (g2 : s.heap.get? D2 = some (tup2 c d v x)) (hac : isEq a c = true) (hbd : isEq b d = true)
    (ht : t ≠ 0) (hu : u ≠ 0) (hv : v ≠ 0) (hx : x ≠ 0) (hb : NoneBooked s.heap) (hun : A.units < cLine) (h : Q (.bool false) s) : wpAny (model prog w) A (compareOp .NotEq (.ref D1) (.ref D2)) Q E s := by
  refine rcne_go (SeqAt.RcNeAt.tuples (e := fun _ => true) ⟨_, g1, rfl, 0, rfl⟩ ⟨_, g2, rfl, 0, rfl⟩ hun ?_) h
  intro j h1 h2
  have hj : j = 0 ∨ j = 1 := by
    have : j < 2 := h1
    omega
  rcases hj with rfl | rfl
  · exact eqAt_float ht hv hb hac
  · exact eqAt_float hu hx hb hbd
/-- a statement, with the count of tokens above nought from here on -/
theorem execs_cons_t {st : Stmt} {rest : List Stmt} {env : Env} {Q : Flow → Shared → Prop} (ht : 1 ≤ s.toks)
    (h : wpAny M A (exec st env) (fun f s' => match f with | .next => ∀ tk, 1 ≤ tk → wpAny M A (execs rest env) Q E { s' with toks := tk } | f => Q f s') E s) : wpAny M A (execs (st :: rest) env) Q E s := by
  refine wpAny_execs_cons (wpAny_with_toks ht (wpAny_mono h (fun f s' q ht' => ?_) fun _ _ x _ => x))
  cases f with
  | next => exact q s'.toks ht'
  | _ => exact q
end
theorem tok_ne {t : Tok} (h : @LE.le Nat instLENat 1 t) : t ≠ 0 := fun (e : @Eq Nat t 0) => by omega
theorem noneBooked_of {w : World} {h : Heap} (X : Frag.In (hd.heap_39 w.params) h) : NoneBooked h := by
  have ho := X cStatics _ rfl
  exact ⟨fun _ => none, ⟨_, #[], _, ho, rfl, fun e he => by simp at he, fun _ => rfl⟩, rfl⟩
theorem noneBooked_keeps {h h' : Heap} (x : NoneBooked h) (k : ∀ b o, h.get? b = some o → h'.get? b = some o) : NoneBooked h' := by
  obtain ⟨mc, h1, h2⟩ := x
  exact ⟨mc, h1.keeps k, h2⟩
end Mine
end
section
open PySem PySem.W PyProof.Rows PySem.Calls PySem.Spec
set_option maxRecDepth 100000
set_option maxHeartbeats 8000000
namespace Mine
theorem fill_C1rgb : PySem.Challenge.rw_sc0035_02.foot = 6 ∧ hd.heap_39 = hd.heap_39 := by
  w_top off
  k_fill
  exact ⟨rfl, rfl⟩

theorem c_rgb {w : World} {A : Around} {s : Shared} {Q E : Value → Shared → Prop} (C : Cx 1 w A s.heap)
    {r g b : UInt64} {tr tg tb : Tok} {H S V : UInt64} (htr : tr ≠ 0) (htg : tg ≠ 0) (htb : tb ≠ 0) (hF : rgbF r g b = some (H, S, V))
    (h : ∀ D t u v h' tk, Keeps s.heap h' → s.heap.get? D = none → h'.get? D = some (tup3 H S V t u v) → u ≠ 0 → v ≠ 0 → Q (.ref D) { s with heap := h', toks := tk }) :
    wpAny (model PR w) A (call (.ref 28) [.float r tr, .float g tg, .float b tb]) Q E s := by
  obtain ⟨X, ⟨prg, loose, mean, mg, mb, T⟩, hh, hroom, hun⟩ := C
  obtain ⟨_, dp, fr, gd, un⟩ := A
  cases hh
  replace hroom : dp + 1 < recursionLimit := hroom
  replace hun : un + 40 < cLine := hun
  refine own_call [(Str.ofString "r", .float r tr), (Str.ofString "g", .float g tg), (Str.ofString "b", .float b tb)] X T (by k_is) (by k_is) (by (show dp < _); omega) (BindsTo.of_eq rfl) (locs rfl) (fun L h₁ tk F N => ?_) (by decide) rfl rfl rfl
  k_fold
  have hz1 : Float64.isZero 4618441417868443648 = false := by decide +kernel
  (repeat' (first | (k_unfold; (try dsimp only)) | ((fail_if_success (with_reducible show wpAny _ _ (PySem.exec (PySem.Stmt.While _ _ _ _) _) _ _ _)); (fail_if_success (with_reducible show wpAny _ _ (PySem.exec (PySem.Stmt.For _ _ _ _ _) _) _ _ _)); (fail_if_success (with_reducible show wpAny _ _ (PySem.pyIter _) _ _ _)); (fail_if_success (with_reducible show wpAny _ _ (PySem.setItem _ _ _) _ _ _)); first | ((with_reducible show wpAny _ _ (PySem.execs (_ :: _) _) _ _ _); (k_dflt (refine execs_cons_t (by first | assumption | ((try dsimp only); omega)) ?_))) | ((k_dflt ((with_reducible show wpAny _ _ (call _ [Value.float _ _, Value.float _ _, Value.float _ _]) _ _ _); (refine min_three_f (by rfl) (by assumption) (by assumption) (by assumption) (by assumption) (by assumption) ?_); intro _ _ _ _ _ _))) | ((k_dflt ((with_reducible show wpAny _ _ (call _ [Value.float _ _, Value.float _ _, Value.float _ _]) _ _ _); (refine max_three_f (by rfl) (by assumption) (by assumption) (by assumption) (by assumption) (by assumption) ?_); intro _ _ _ _ _ _))) | walk1 | (dsimp only; walk1) | (leave1; try dsimp only))))
  all_goals unfold rgbF at hF
  · rename (_ == some Ordering.eq) = true => e
    rw [if_pos e] at hF
    simp only [Option.some.injEq, Prod.mk.injEq] at hF
    obtain ⟨rfl, rfl, rfl⟩ := hF
    rename Fr _ _ _ _ => F9
    rename News _ _ _ _ => N9
    exact h _ _ _ _ _ _ (Fr.keep F9) (N9 _ (.head _)).2.2 (N9 _ (.head _)).1 (by first | assumption | exact tok_ne (by (try dsimp only); omega)) (by first | assumption | exact tok_ne (by (try dsimp only); omega))
  · rename (Float64.cmp (fmin2 (fmin2 r g) b) _ == some Ordering.eq) = false => e1
    rename Float64.isZero (fmax2 (fmax2 r g) b) = true => e2
    rw [if_neg (by simp [e1]), if_pos e2] at hF
    cases hF
  · rename (Float64.cmp (fmin2 (fmin2 r g) b) _ == some Ordering.eq) = false => e1
    rename ¬ Float64.isZero (fmax2 (fmax2 r g) b) = true => e2
    rename Float64.isZero (Float64.sub (fmax2 (fmax2 r g) b) _) = true => e3
    rw [if_neg (by simp [e1]), if_neg e2, if_pos e3] at hF
    cases hF
  all_goals
    rename (Float64.cmp (fmin2 (fmin2 r g) b) _ == some Ordering.eq) = false => e1
    rename ¬ Float64.isZero (fmax2 (fmax2 r g) b) = true => e2
    rename ¬ Float64.isZero (Float64.sub (fmax2 (fmax2 r g) b) _) = true => e3
    rename Fr _ _ _ _ => F9
    rename News _ _ _ _ => N9
    rw [if_neg (by simp [e1]), if_neg e2, if_neg e3] at hF
    simp only [Option.some.injEq, Prod.mk.injEq] at hF
    obtain ⟨hH, hS, hV⟩ := hF
  · rename (Float64.cmp r _ == some Ordering.eq) = true => e4
    rw [if_pos e4] at hH
    subst hH; subst hS; subst hV
    exact h _ _ _ _ _ _ (Fr.keep F9) (N9 _ (.head _)).2.2 (N9 _ (.head _)).1 (by first | assumption | exact tok_ne (by (try dsimp only); omega)) (by first | assumption | exact tok_ne (by (try dsimp only); omega))
  · rename (Float64.cmp r _ == some Ordering.eq) = false => e4
    rename (Float64.cmp g _ == some Ordering.eq) = true => e5
    rw [if_neg (by simp [e4]), if_pos e5] at hH
    subst hH; subst hS; subst hV
    exact h _ _ _ _ _ _ (Fr.keep F9) (N9 _ (.head _)).2.2 (N9 _ (.head _)).1 (by first | assumption | exact tok_ne (by (try dsimp only); omega)) (by first | assumption | exact tok_ne (by (try dsimp only); omega))
  · rename (Float64.cmp r _ == some Ordering.eq) = false => e4
    rename (Float64.cmp g _ == some Ordering.eq) = false => e5
    rw [if_neg (by simp [e4]), if_neg (by simp [e5])] at hH
    subst hH; subst hS; subst hV
    exact h _ _ _ _ _ _ (Fr.keep F9) (N9 _ (.head _)).2.2 (N9 _ (.head _)).1 (by first | assumption | exact tok_ne (by (try dsimp only); omega)) (by first | assumption | exact tok_ne (by (try dsimp only); omega))
end Mine
end
section
open PySem PySem.W PyProof.Rows PySem.Calls PySem.Spec
set_option maxRecDepth 100000
set_option maxHeartbeats 8000000
namespace Mine
theorem fill_C1hsv : PySem.Challenge.rw_sc0035_02.foot = 6 ∧ hd.heap_39 = hd.heap_39 := by
  w_top off
  k_fill
  exact ⟨rfl, rfl⟩

theorem c_hsv {w : World} {A : Around} {s : Shared} {Q E : Value → Shared → Prop} (C : Cx 1 w A s.heap)
    {hu sa va : UInt64} {th ts tv : Tok} {R G B : UInt64} (htv : tv ≠ 0) (hF : hsvF hu sa va = some (R, G, B))
    (h : ∀ D t u v h' tk, Keeps s.heap h' → s.heap.get? D = none → h'.get? D = some (tup3 R G B t u v) → t ≠ 0 → u ≠ 0 → v ≠ 0 → Q (.ref D) { s with heap := h', toks := tk }) :
    wpAny (model PR w) A (call (.ref 35) [.float hu th, .float sa ts, .float va tv]) Q E s := by
  obtain ⟨X, ⟨prg, loose, mean, mg, mb, T⟩, hh, hroom, hun⟩ := C
  obtain ⟨_, dp, fr, gd, un⟩ := A
  cases hh
  replace hroom : dp + 1 < recursionLimit := hroom
  replace hun : un + 40 < cLine := hun
  refine own_call [(Str.ofString "h", .float hu th), (Str.ofString "s", .float sa ts), (Str.ofString "v", .float va tv)] X T (by k_is) (by k_is) (by (show dp < _); omega) (BindsTo.of_eq rfl) (locs rfl) (fun L h₁ tk F N => ?_) (by decide) rfl rfl rfl
  k_fold
  (repeat' (first | (k_unfold; (try dsimp only)) | ((fail_if_success (with_reducible show wpAny _ _ (PySem.exec (PySem.Stmt.While _ _ _ _) _) _ _ _)); (fail_if_success (with_reducible show wpAny _ _ (PySem.exec (PySem.Stmt.For _ _ _ _ _) _) _ _ _)); (fail_if_success (with_reducible show wpAny _ _ (PySem.pyIter _) _ _ _)); (fail_if_success (with_reducible show wpAny _ _ (PySem.setItem _ _ _) _ _ _)); first | walk1 | (dsimp only; walk1) | (leave1; try dsimp only))))
  all_goals unfold hsvF at hF
  · rename (Float64.cmp sa 0 == some Ordering.eq) = true => e1
    rw [if_pos e1] at hF
    simp only [Option.some.injEq, Prod.mk.injEq] at hF
    obtain ⟨rfl, rfl, rfl⟩ := hF
    rename Fr _ _ _ _ => F9
    rename News _ _ _ _ => N9
    exact h _ _ _ _ _ _ (Fr.keep F9) (N9 _ (.head _)).2.2 (N9 _ (.head _)).1 (by first | assumption | exact tok_ne (by (try dsimp only); omega)) (by first | assumption | exact tok_ne (by (try dsimp only); omega)) (by first | assumption | exact tok_ne (by (try dsimp only); omega))
  all_goals
    rename (Float64.cmp sa 0 == some Ordering.eq) = false => e1
    rw [if_neg (by simp [e1])] at hF
  · rename Float64.isNaN _ = true => e2
    rw [if_pos (Flt.not_finite_of_nan e2)] at hF
    cases hF
  · rename Float64.isInf _ = true => e2
    rw [if_pos (Flt.not_finite_of_inf e2)] at hF
    cases hF
  all_goals
    rename Float64.isFinite _ = true => e2
    rw [if_neg (by simp [e2])] at hF
  · rename 2 ^ 1024 - 2 ^ 970 ≤ _ => e3
    rw [if_pos (show 2 ^ 64 ≤ (hsvI hu).natAbs from Nat.le_trans (show 2 ^ 64 ≤ 2 ^ 1024 - 2 ^ 970 by decide) e3)] at hF
    cases hF
  all_goals
    by_cases e3 : 2 ^ 64 ≤ (hsvI hu).natAbs
    · rw [if_pos e3] at hF; cases hF
    rw [if_neg e3] at hF
  all_goals
    rename Fr _ _ _ _ => F9
    rename News _ _ _ _ => N9
    (repeat rw [if_neg (by assumption)] at hF)
    first
    | (cases hF; done)
    | (rw [if_pos (by assumption)] at hF
       simp only [Option.some.injEq, Prod.mk.injEq] at hF
       obtain ⟨hH, hS, hV⟩ := hF
       subst hH; subst hS; subst hV
       exact h _ _ _ _ _ _ (Fr.keep F9) (N9 _ (.head _)).2.2 (N9 _ (.head _)).1 (by first | assumption | exact tok_ne (by (try dsimp only); omega)) (by first | assumption | exact tok_ne (by (try dsimp only); omega)) (by first | assumption | exact tok_ne (by (try dsimp only); omega)))
end Mine
end
section
open PySem PySem.W PyProof.Rows PySem.Calls PySem.Spec PySem.Flt
set_option maxRecDepth 100000
set_option maxHeartbeats 8000000
namespace Mine
theorem rsz (a n : Nat) : PySem.Builtin.Range.rangeSize (a : Int) ((n : Int) + 1) 1 = ((n + 1 - a : Nat) : Int) := by
  unfold PySem.Builtin.Range.rangeSize
  simp only [show (1 : Int) > 0 by decide, if_true]
  split <;> omega
structure Row where
  (l : Addr) (vs : List Value) (k : Nat)
structure LD where
  (d : Addr) (o : Obj) (rows : List Row)
structure LR where
  (l : Addr) (vs : List Value) (k : Nat)
def rowsLed (rows : List Row) : List (Addr × Obj) := rows.map fun r => (r.l, listOf r.vs.toArray r.k)
def kvsOf (rows : List Row) : List (Int × Value) := (List.range rows.length).map fun (j : Nat) => (((j : Int) + 2), (match rows[j]? with | some r => Value.ref r.l | none => .none))
def rowL (n wh : Nat) : List Int := (List.range n).map fun (c : Nat) => (((c + 1) % wh : Nat) : Int)
def RowsOk (n : Nat) (rows : List Row) : Prop := ∀ j r, rows[j]? = some r → IntsAre r.vs (rowL n (j + 2))
theorem kvsOf_snoc (rows : List Row) (r : Row) : kvsOf (rows ++ [r]) = kvsOf rows ++ [((rows.length : Int) + 2, .ref r.l)] := by
  unfold kvsOf
  rw [List.length_append, List.length_singleton, List.range_succ, List.map_append]
  congr 1
  · refine List.map_congr_left fun j hj => ?_
    rw [List.getElem?_append_left (List.mem_range.mp hj)]
  · simp
theorem kvs_stored (rows : List Row) (r : Row) : stored (kvsOf rows) ((rows.length : Int) + 2) (.ref r.l) = kvsOf (rows ++ [r]) := by
  rw [kvsOf_snoc]
  unfold stored
  rw [if_neg]
  simp only [kvsOf, List.any_map, List.any_eq_true, not_exists, not_and, List.mem_range, Function.comp_apply, decide_eq_true_eq]
  intro j hj e
  omega
theorem kvs_at {rows : List Row} {j : Nat} {r : Row} (h : rows[j]? = some r) : valueAt (kvsOf rows) ((j : Int) + 2) = some (.ref r.l) := by
  have hj : j < rows.length := (List.getElem?_eq_some_iff.mp h).1
  unfold valueAt kvsOf
  rw [List.find?_map]
  have e : (List.range rows.length).find? ((fun kv : Int × Value => decide (kv.1 = (j : Int) + 2)) ∘ fun (j : Nat) => (((j : Int) + 2), (match rows[j]? with | some r => Value.ref r.l | none => .none))) = some j := by
    rw [List.find?_range_eq_some]
    refine ⟨by simp, by simpa using hj, fun i hi => ?_⟩
    simp only [Function.comp_apply, Bool.not_eq_true', decide_eq_false_iff_not]
    omega
  rw [e]
  simp [h]
theorem rowL_at {n wh c : Nat} (h : c < n) : (rowL n wh).getD c 0 = (((c + 1) % wh : Nat) : Int) := by
  simp [rowL, List.getD_eq_getElem?_getD, h]
theorem upd_of {d : Addr} {o o' : Obj} {post : List (Addr × Obj)} : ∀ {pre : List (Addr × Obj)}, (∀ p ∈ pre, p.1 ≠ d) → (∀ p ∈ post, p.1 ≠ d) → Upd d o o' (pre ++ (d, o) :: post) (pre ++ (d, o') :: post)
  | [], _, h2 => .head h2
  | p :: _, h1, h2 => .tail (h1 p (.head _)) (upd_of (fun q hq => h1 q (.tail _ hq)) h2)
theorem updF_of {d : Addr} {o : Obj} {post : List (Addr × Obj)} : ∀ {pre : List (Addr × Obj)}, (∀ p ∈ pre, p.1 ≠ d) → (∀ p ∈ post, p.1 ≠ d) → UpdF d o (pre ++ (d, o) :: post) (fun o' => pre ++ (d, o') :: post)
  | [], _, h2 => .head h2
  | p :: _, h1, h2 => .tail (h1 p (.head _)) (updF_of (fun q hq => h1 q (.tail _ hq)) h2)
def hueI (H : UInt64) (wh : Int) : UInt64 := Float64.add (Float64.mul H (Float64.ofInt wh)) 4602678819172646912
/-- a card's colour is told as it was painted -/
def PaintOk (sa va : UInt64) (wh ca : Nat) (x : UInt64) : Prop := ∃ R G B H S V, hsvF x sa va = some (R, G, B) ∧ rgbF R G B = some (H, S, V) ∧ isEq S sa = true ∧ isEq V va = true ∧
  Float64.isFinite (hueI H wh) = true ∧ (Flt.toInt Float64.truncOf (hueI H wh)).natAbs < 2 ^ 64 ∧ (Flt.toInt Float64.truncOf (hueI H wh)).fmod wh = ((ca % wh : Nat) : Int)
def fq (a b : Nat) : UInt64 := Float64.ofFrac false a b
theorem fq_of {a b : Int} {p q : Nat} (ha : a = (p : Int)) (hb : b = (q : Int)) : Float64.ofFrac (decide (a < 0) != decide (b < 0)) a.natAbs b.natAbs = fq p q := by
  subst ha; subst hb
  have h1 : decide ((p : Int) < 0) = false := decide_eq_false (by omega)
  have h2 : decide ((q : Int) < 0) = false := decide_eq_false (by omega)
  rw [h1, h2, Int.natAbs_natCast, Int.natAbs_natCast]; rfl
theorem rowL_succ (j wh : Nat) : rowL (j + 1) wh = rowL j wh ++ [(((j + 1) % wh : Nat) : Int)] := by
  unfold rowL; rw [List.range_succ, List.map_append]; rfl
theorem rowL_length (n wh : Nat) : (rowL n wh).length = n := by simp [rowL]
theorem rowsOk_snoc {n : Nat} {rows : List Row} {r : Row} (h : RowsOk n rows) (hr : IntsAre r.vs (rowL n (rows.length + 2))) : RowsOk n (rows ++ [r]) := by
  intro j q hj
  by_cases hlt : j < rows.length
  · rw [List.getElem?_append_left hlt] at hj; exact h j q hj
  · rw [List.getElem?_append_right (by omega)] at hj
    have hj0 : j - rows.length = 0 := by
      have := (List.getElem?_eq_some_iff.mp hj).1
      simp only [List.length_singleton] at this
      omega
    rw [hj0] at hj
    cases hj
    have e : j = rows.length := by omega
    rw [e]; exact hr
theorem rowsLed_snoc (rows : List Row) (r : Row) : rowsLed (rows ++ [r]) = rowsLed rows ++ [(r.l, listOf r.vs.toArray r.k)] := by simp [rowsLed]
theorem dict_cls {prog : Program} {w : World} {o : Obj} {kvs : List (Int × Value)} (h : Obj.IsDictOf (intKind prog w) o kvs) : o.cls = .type "dict" := by
  obtain ⟨_, _, h1, _⟩ := h; exact h1.1
theorem rowsLed_cls {rows : List Row} : ∀ p ∈ rowsLed rows, p.2.cls = .type "list" := by
  intro p hp
  obtain ⟨r, _, rfl⟩ := List.mem_map.mp hp
  rfl
section
variable {prog : Program} {w : World} {A : Around} {E : Value → Shared → Prop} {s : Shared} {h₀ : Heap} {L : Addr} {m : Str → Option Value}
theorem append_mid {l : Addr} {vs : List Value} {k : Nat} {v : Value} {pre post : List (Addr × Obj)} {Q : Value → Shared → Prop} (F : Fr h₀ L s.heap m) (N : News h₀ L s.heap (pre ++ (l, listOf vs.toArray k) :: post)) (h1 : ∀ p ∈ pre, p.1 ≠ l) (h2 : ∀ p ∈ post, p.1 ≠ l) (hz : vs.length ≤ 1000)
    (h : ∀ h', Fr h₀ L h' m → News h₀ L h' (pre ++ (l, listOf (vs ++ [v]).toArray (k + 1)) :: post) → Q .none { s with heap := h' }) : wpAny (model prog w) A (call (.builtin "list.append") [.ref l, v]) Q E s := by
  refine append_K (hsz := by rw [List.size_toArray, sizeLine_eq]; omega) F N (upd_of h1 h2) fun h' F' N' => h h' F' ?_
  rw [List.push_toArray] at N'
  exact N'
end
end Mine
end
section
open PySem PySem.W PyProof.Rows PySem.Calls PySem.Spec
set_option maxRecDepth 100000
set_option maxHeartbeats 8000000
namespace Mine
section
variable {prog : Program} {w : World} {A : Around} {E : Value → Shared → Prop} {s : Shared} {h₀ : Heap} {L : Addr} {m : Str → Option Value} {news news' : List (Addr × Obj)}
theorem pop0 {l : Addr} {y : Value} {vs : List Value} {k : Nat} {u : Tok} {Q : Value → Shared → Prop} (F : Fr h₀ L s.heap m) (N : News h₀ L s.heap news)
    (U : Upd l (listOf (y :: vs).toArray k) (listOf vs.toArray (k + 1)) news news') (hz : vs.length ≤ 1000) (h : ∀ h', Fr h₀ L h' m → News h₀ L h' news' → Q y { s with heap := h' }) : wpAny (model prog w) A (call (.builtin "list.pop") [.ref l, .int 0 u]) Q E s := by
  refine kl_popAt (p := []) (y := y) (q := vs) (k := 0) F N (by decide) ?_ rfl U (by rw [sizeLine_eq]; simp only [List.length_cons]; omega) h
  unfold seqIndex?
  simp
theorem kl_cut_at : ∀ {l : List Value} {i : Nat} {y : Value}, l[i]? = some y → kl_cut l i = some (l.take i, y, l.drop (i + 1))
  | [], _, _, h => by cases h
  | x :: r, 0, y, h => by cases h; rfl
  | x :: r, i + 1, y, h => by
    have := kl_cut_at (l := r) (i := i) (y := y) (by simpa using h)
    simp [kl_cut, this]
theorem popAt {l : Addr} {vs : List Value} {k : Nat} {i : Int} {p : Nat} {u : Tok} {y : Value} {Q : Value → Shared → Prop} (F : Fr h₀ L s.heap m) (N : News h₀ L s.heap news) (hp : i = (p : Int)) (hlt : vs[p]? = some y) (hz : vs.length ≤ 1000)
    (U : Upd l (listOf vs.toArray k) (listOf (vs.take p ++ vs.drop (p + 1)).toArray (k + 1)) news news') (h : ∀ h', Fr h₀ L h' m → News h₀ L h' news' → Q y { s with heap := h' }) : wpAny (model prog w) A (call (.builtin "list.pop") [.ref l, .int i u]) Q E s := by
  have hl : p < vs.length := (List.getElem?_eq_some_iff.mp hlt).1
  refine kl_popAt (p := vs.take p) (y := y) (q := vs.drop (p + 1)) (k := p) F N ?_ ?_ (kl_cut_at hlt) U (by rw [sizeLine_eq]; show vs.length ≤ _; omega) h
  · simp [PySem.Builtin.List.listFitsIndex]; omega
  · simp [seqIndex?, hp, hl, show ¬ (p : Int) < 0 by omega]
theorem len_news {l : Addr} {vs : List Value} {k : Nat} {ns : List Int} {Q : Value → Shared → Prop} (N : News h₀ L s.heap news) (hm : (l, listOf vs.toArray k) ∈ news) (hi : IntsAre vs ns) (hz : ns.length ≤ 1000)
    (h : Q (.int (ns.length : Int) (s.toks + 1)) { s with toks := s.toks + 1 + 1 }) : wpAny (model prog w) A (call (.builtin "len") [.ref l]) Q E s := by
  have hl : s.heap.IsList l vs.toArray := ⟨_, (N _ hm).1, rfl, k, rfl⟩
  have e2 : vs.toArray.size = ns.length := by rw [List.size_toArray, hi.length]
  exact len_list hl (by rw [e2]; omega) (by rw [e2]; exact h)
theorem eq_nil {l l9 : Addr} {vs : List Value} {k k9 : Nat} {ns : List Int} {Q : Value → Shared → Prop} (N : News h₀ L s.heap news) (hm : (l, listOf vs.toArray k) ∈ news) (hm9 : (l9, listOf #[] k9) ∈ news) (hi : IntsAre vs ns) (hu : A.units < cLine)
    (h1 : ns = [] → Q (.bool true) s) (h2 : ns ≠ [] → Q (.bool false) s) : wpAny (model prog w) A (compareOp .Eq (.ref l) (.ref l9)) Q E s := by
  have hl : s.heap.IsList l vs.toArray := ⟨_, (N _ hm).1, rfl, k, rfl⟩
  have hl9 : s.heap.IsList l9 #[] := ⟨_, (N _ hm9).1, rfl, k9, rfl⟩
  cases hi with
  | nil => exact SeqAt.RcAt.lists (e := fun _ => true) hl hl9 rfl hu (fun j h1 h2 => absurd h2 (Nat.not_lt_zero _)) prog w E Q (h1 rfl)
  | cons n t hi => exact SeqAt.RcAt.lists_lengths hl hl9 (by simp) hu prog w E Q (h2 (fun e => nomatch e))
theorem ne_nil {l l9 : Addr} {vs : List Value} {k k9 : Nat} {ns : List Int} {Q : Value → Shared → Prop} (N : News h₀ L s.heap news) (hm : (l, listOf vs.toArray k) ∈ news) (hm9 : (l9, listOf #[] k9) ∈ news) (hi : IntsAre vs ns) (hu : A.units < cLine)
    (h1 : ns = [] → Q (.bool false) s) (h2 : ns ≠ [] → Q (.bool true) s) : wpAny (model prog w) A (compareOp .NotEq (.ref l) (.ref l9)) Q E s := by
  have hl : s.heap.IsList l vs.toArray := ⟨_, (N _ hm).1, rfl, k, rfl⟩
  have hl9 : s.heap.IsList l9 #[] := ⟨_, (N _ hm9).1, rfl, k9, rfl⟩
  cases hi with
  | nil => exact SeqAt.RcNeAt.lists (e := fun _ => true) hl hl9 rfl hu (fun j h1 h2 => absurd h2 (Nat.not_lt_zero _)) prog w E Q (h1 rfl)
  | cons n t hi => exact SeqAt.RcNeAt.lists_lengths hl hl9 (by simp) hu prog w E Q (h2 (fun e => nomatch e))
theorem rng3 {a b c : Int} {t u v : Tok} {Q : Value → Shared → Prop} (F : Fr h₀ L s.heap m) (N : News h₀ L s.heap news) (hc : c ≠ 0) (hab : (b - a).natAbs ≤ 1000 ∧ c.natAbs ≤ 1000)
    (h : ∀ r h' tk t₁ u₁ v₁, IsRange h' r a b c t₁ u₁ v₁ → Fr h₀ L h' m → News h₀ L h' news → Q (.ref r) { s with heap := h', toks := tk }) :
    wpAny (model prog w) A (call (.type "range") [.int a t, .int b u, .int c v]) Q E s :=
  range3_rows F N hc (fun h' tk t₁ u₁ v₁ hr F' N' _ => h _ h' tk t₁ u₁ v₁ hr F' N') (.inl (PyProof.noPylong_small (by omega)))
/-- a step's ledger: one list turned -/
theorem newList_K' {vs : List Value} {Q : Value → Shared → Prop} (hz : vs.length ≤ 1000) (F : Fr h₀ L s.heap m) (N : News h₀ L s.heap news)
    (h : ∀ l h', Fr h₀ L h' m → News h₀ L h' ((l, listOf vs.toArray 0) :: news) → (∀ p ∈ news, p.1 < l) → Q (.ref l) { s with heap := h' }) : wpAny (model prog w) A (newList vs) Q E s :=
  newList_K (hsz := by rw [sizeLine_eq]; omega) F N h
end
end Mine
end
section
open PySem PySem.W PyProof.Rows PySem.Calls PySem.Spec
set_option maxRecDepth 100000
set_option maxHeartbeats 8000000
namespace Mine
structure RF where
  (lp lr lf : Addr) (vp vr vf : List Value) (np nr nf : List Int) (kp kr kf y ty : Nat)
def riffF : Nat → List Int → List Int → Nat → List Int
  | 0, _, _, _ => []
  | f + 1, p, [], y => match p with
    | a :: p' => a :: riffF f p' [] (y / 2)
    | [] => []
  | f + 1, [], b :: r', y => b :: riffF f [] r' (y / 2)
  | f + 1, a :: p', b :: r', y => if y % 2 = 1 then a :: riffF f p' (b :: r') (y / 2) else b :: riffF f (a :: p') r' (y / 2)
theorem rsD (d : Nat) : PySem.Builtin.Range.rangeSize (d : Int) 0 (-1) = (d : Int) := by
  unfold PySem.Builtin.Range.rangeSize
  simp only [show ¬ (-1 : Int) > 0 by decide, if_false, show (-(-1 : Int)) = 1 by decide, Int.ediv_one]
  split <;> omega
theorem rsU (d n : Nat) : PySem.Builtin.Range.rangeSize ((d : Int) + 1) ((n : Int) + 1) 1 = ((n - d : Nat) : Int) := by
  unfold PySem.Builtin.Range.rangeSize
  simp only [show (1 : Int) > 0 by decide, if_true]
  split <;> omega
theorem app0 {prog : Program} {w : World} {A : Around} {E : Value → Shared → Prop} {s : Shared} {h₀ : Heap} {L : Addr} {m : Str → Option Value} {news news' : List (Addr × Obj)} {l : Addr} {vs : List Value} {k : Nat} {v : Value} {Q : Value → Shared → Prop} (F : Fr h₀ L s.heap m) (N : News h₀ L s.heap news) (U : Upd l (listOf vs.toArray k) (listOf (vs ++ [v]).toArray (k + 1)) news news') (hz : vs.length ≤ 1000)
    (h : ∀ h', Fr h₀ L h' m → News h₀ L h' news' → Q .none { s with heap := h' }) : wpAny (model prog w) A (call (.builtin "list.append") [.ref l, v]) Q E s := by
  refine append_K (its := vs.toArray) F N (by simpa using U) h (hsz := by rw [sizeLine_eq, List.size_toArray]; omega)
theorem fdiv2 (y : Nat) : (y : Int).fdiv 2 = ((y / 2 : Nat) : Int) := by
  rw [Int.fdiv_eq_ediv_of_nonneg _ (by decide)]; omega
theorem fmod2 (y : Nat) : (y : Int).fmod 2 = ((y % 2 : Nat) : Int) := by
  rw [Int.fmod_eq_emod_of_nonneg _ (by decide)]; omega
theorem riff1 {n y : Nat} {nf r R : List Int} {b : Int} (h : nf ++ riffF (n - nf.length) [] (b :: r) y = R) (hn : nf.length < n) :
    (nf ++ [b]) ++ riffF (n - (nf ++ [b]).length) [] r (y / 2) = R := by
  obtain ⟨f, hf⟩ : ∃ f, n - nf.length = f + 1 := ⟨n - nf.length - 1, by omega⟩
  rw [← h, hf, show n - (nf ++ [b]).length = f by simp; omega]; simp [riffF]
theorem riff2 {n y : Nat} {nf r R : List Int} {b : Int} (h : nf ++ riffF (n - nf.length) (b :: r) [] y = R) (hn : nf.length < n) :
    (nf ++ [b]) ++ riffF (n - (nf ++ [b]).length) r [] (y / 2) = R := by
  obtain ⟨f, hf⟩ : ∃ f, n - nf.length = f + 1 := ⟨n - nf.length - 1, by omega⟩
  rw [← h, hf, show n - (nf ++ [b]).length = f by simp; omega]; simp [riffF]
theorem riff3 {n y : Nat} {nf r p R : List Int} {a b : Int} (h : nf ++ riffF (n - nf.length) (a :: p) (b :: r) y = R) (hn : nf.length < n) (hy : y % 2 = 1) :
    (nf ++ [a]) ++ riffF (n - (nf ++ [a]).length) p (b :: r) (y / 2) = R := by
  obtain ⟨f, hf⟩ : ∃ f, n - nf.length = f + 1 := ⟨n - nf.length - 1, by omega⟩
  rw [← h, hf, show n - (nf ++ [a]).length = f by simp; omega]; simp [riffF, hy]
theorem riff4 {n y : Nat} {nf r p R : List Int} {a b : Int} (h : nf ++ riffF (n - nf.length) (a :: p) (b :: r) y = R) (hn : nf.length < n) (hy : ¬ y % 2 = 1) :
    (nf ++ [b]) ++ riffF (n - (nf ++ [b]).length) (a :: p) r (y / 2) = R := by
  obtain ⟨f, hf⟩ : ∃ f, n - nf.length = f + 1 := ⟨n - nf.length - 1, by omega⟩
  rw [← h, hf, show n - (nf ++ [b]).length = f by simp; omega]; simp [riffF, hy]
structure LE where
  (l : Addr) (vs : List Value) (k : Nat)
theorem ints_at {vs : List Value} {ns : List Int} (hi : IntsAre vs ns) : ∀ (i : Nat) (v : Value), vs[i]? = some v → ∃ (q : Int) (t : Tok), v = .int q t := by
  induction hi with
  | nil => intro i v h; simp at h
  | cons n t hi ih =>
    intro i v h
    cases i with
    | zero => simp at h; exact ⟨n, t, h.symm⟩
    | succ i => exact ih i v (by simpa using h)
theorem swap_perm {l : List Int} {a b : Nat} (ha : a < l.length) (hb : b < l.length) : ((l.set a (l.getD b 0)).set b (l.getD a 0)).Perm l := by
  rw [List.getD_eq_getElem?_getD, List.getElem?_eq_getElem hb, List.getD_eq_getElem?_getD, List.getElem?_eq_getElem ha]
  exact List.set_set_perm ha hb
theorem fmodB (q : Int) (n : Nat) (hn : 0 < n) : ∃ a : Nat, a < n ∧ q.fmod (n : Int) = (a : Int) := by
  have h1 := Int.fmod_nonneg_of_pos q (show (0 : Int) < n by omega)
  have h2 := Int.fmod_lt_of_pos q (show (0 : Int) < n by omega)
  exact ⟨(q.fmod n).toNat, by omega, by omega⟩
def maxL : List Int → Int
  | [] => 0
  | [a] => a
  | a :: b :: r => max a (maxL (b :: r))
def minL : List Int → Int
  | [] => 0
  | [a] => a
  | a :: b :: r => min a (minL (b :: r))
theorem maxL_spec : ∀ {l : List Int}, l ≠ [] → maxL l ∈ l ∧ ∀ a ∈ l, a ≤ maxL l
  | [], h => absurd rfl h
  | [a], _ => ⟨.head _, fun b hb => by rw [List.mem_singleton.mp hb]; exact Int.le_refl _⟩
  | a :: b :: r, _ => by
    have ih := maxL_spec (l := b :: r) (by simp)
    simp only [maxL]
    refine ⟨?_, fun c hc => ?_⟩
    · rcases Int.le_total a (maxL (b :: r)) with h | h
      · rw [Int.max_eq_right h]; exact .tail _ ih.1
      · rw [Int.max_eq_left h]; exact .head _
    · rcases List.mem_cons.mp hc with rfl | hc
      · omega
      · have := ih.2 c hc; omega
theorem minL_spec : ∀ {l : List Int}, l ≠ [] → minL l ∈ l ∧ ∀ a ∈ l, minL l ≤ a
  | [], h => absurd rfl h
  | [a], _ => ⟨.head _, fun b hb => by rw [List.mem_singleton.mp hb]; exact Int.le_refl _⟩
  | a :: b :: r, _ => by
    have ih := minL_spec (l := b :: r) (by simp)
    simp only [minL]
    refine ⟨?_, fun c hc => ?_⟩
    · rcases Int.le_total a (minL (b :: r)) with h | h
      · rw [Int.min_eq_left h]; exact .head _
      · rw [Int.min_eq_right h]; exact .tail _ ih.1
    · rcases List.mem_cons.mp hc with rfl | hc
      · omega
      · have := ih.2 c hc; omega
theorem maxL_of {l : List Int} {M : Int} (h1 : M ∈ l) (h2 : ∀ a ∈ l, a ≤ M) : M = maxL l := by
  have h := maxL_spec (List.ne_nil_of_mem h1)
  exact Int.le_antisymm (h.2 _ h1) (h2 _ h.1)
theorem minL_of {l : List Int} {M : Int} (h1 : M ∈ l) (h2 : ∀ a ∈ l, M ≤ a) : M = minL l := by
  have h := minL_spec (List.ne_nil_of_mem h1)
  exact Int.le_antisymm (h2 _ h.1) (h.2 _ h1)
def neighAt (ns : List Int) (j : Nat) : Bool := decide (maxL (ns.take (j + 1)) - minL (ns.take (j + 1)) = (j : Int))
def neighF (ns : List Int) : Bool := (List.range ns.length).all (neighAt ns)
theorem neigh_no {ns : List Int} {j : Nat} {M m : Int} (hj : j < ns.length) (b : ∀ a ∈ ns.take (((j : Int) + 1).toNat), a ≤ M) (d : ∀ a ∈ ns.take (((j : Int) + 1).toNat), m ≤ a) (a : M ∈ ns.take (((j : Int) + 1).toNat)) (c : m ∈ ns.take (((j : Int) + 1).toNat)) (e : M - m ≠ (j : Int) + 1 - 1) : false = neighF ns := by
  symm
  rw [show ((j : Int) + 1).toNat = j + 1 by omega] at a b c d
  rw [neighF, List.all_eq_false]
  refine ⟨j, List.mem_range.mpr hj, ?_⟩
  rw [neighAt, ← maxL_of a b, ← minL_of c d]
  simp; omega
theorem neigh_yes {ns : List Int} {j : Nat} {M m : Int} (b : ∀ a ∈ ns.take (((j : Int) + 1).toNat), a ≤ M) (d : ∀ a ∈ ns.take (((j : Int) + 1).toNat), m ≤ a) (a : M ∈ ns.take (((j : Int) + 1).toNat)) (c : m ∈ ns.take (((j : Int) + 1).toNat)) (e : M - m = (j : Int) + 1 - 1) (hp : ∀ i < j, neighAt ns i = true) : ∀ i < j + 1, neighAt ns i = true := by
  rw [show ((j : Int) + 1).toNat = j + 1 by omega] at a b c d
  intro i hi
  by_cases h : i < j
  · exact hp i h
  · obtain rfl : i = j := by omega
    rw [neighAt, ← maxL_of a b, ← minL_of c d]
    simp; omega
theorem neigh_all {ns : List Int} (hp : ∀ i < ns.length, neighAt ns i = true) : true = neighF ns := by
  symm
  rw [neighF, List.all_eq_true]
  exact fun i hi => hp i (List.mem_range.mp hi)
end Mine
end
section
open PySem PySem.W PyProof.Rows PySem.Calls PySem.Spec
set_option maxRecDepth 100000
set_option maxHeartbeats 8000000
namespace Mine
theorem paired_ints {pz : Int → Bool} {p : Value → Bool} {R : Int → Value → Prop} (hp : ∀ n t, p (.int n t) = pz n) : ∀ {vs : List Value} {ns : List Int}, IntsAre vs ns → ∀ {ys : List Value},
    Paired (fun v y => ∃ n t, v = Value.int n t ∧ R n y) (vs.filter p) ys → Paired R (ns.filter pz) ys
  | _, _, .nil, _, .nil => .nil
  | _, _, .cons n t h, ys, q => by
    rw [List.filter_cons, hp] at q
    rw [List.filter_cons]
    by_cases e : pz n = true
    · rw [if_pos e] at q ⊢
      cases q with
      | cons a b =>
        obtain ⟨n', t', e', r⟩ := a
        cases e'
        exact .cons r (paired_ints hp h b)
    · rw [if_neg e] at q ⊢
      exact paired_ints hp h q
def intTest (pz : Int → Bool) : Value → Bool
  | .int n _ => pz n
  | _ => false
section
variable {prog : Program} {w : World} {A : Around} {E : Value → Shared → Prop} {s₁ : Shared} {h₀ : Heap} {L : Addr} {m : Str → Option Value} {news : List (Addr × Obj)}
theorem comp_core {env : Env} {elt : PySem.Expr} {x : Str} {ifs : List PySem.Expr} {scope : Scope} {Q : Value → Shared → Prop} {o : Obj} {fp : List Addr} {P : Nat → Value → Prop} {St : Nat → Heap → Prop} {ns : List Int}
    (R : Int → Value → Prop) (pz : Int → Bool)
    (W : Walks prog w A s₁.heap.objs.size fp [s₁.heap.objs.size] ns.length P St) (hP : ∀ i v, P i v → ∃ (n : Int) (t : Tok), ns[i]? = some n ∧ v = .int n t)
    (hst : St 0 (s₁.heap.push o)) (hfp : ∀ b ∈ fp, b ≤ s₁.heap.objs.size) (hsz : ns.length ≤ 1000) (F : Fr h₀ L s₁.heap m) (N : News h₀ L s₁.heap news)
    (g1 : ∀ C n t s₂ m₂ E', n ∈ ns → s₂.heap.Ns C m₂ → m₂ x = some (.int n t) → (∀ b o, s₁.heap.get? b = some o → s₂.heap.get? b = some o) →
      wpAny (model prog w) A (forIn ifs true fun c r => if r = true then do let ok ← isTrue c (compEnv scope C env) (eval c (compEnv scope C env)); pure (ForInStep.yield ok) else pure (ForInStep.yield r))
        (fun ok s₃ => ok = pz n ∧ PySem.Keeps s₂ s₃) E' s₂)
    (g2 : ∀ C n t s₂ m₂ E', n ∈ ns → pz n = true → s₂.heap.Ns C m₂ → m₂ x = some (.int n t) → (∀ b o, s₁.heap.get? b = some o → s₂.heap.get? b = some o) →
      wpAny (model prog w) A (eval elt (compEnv scope C env)) (fun r s₃ => R n r ∧ PySem.Keeps s₂ s₃) E' s₂)
    (g3 : ∀ D ys k h' tk, Paired R (ns.filter pz) ys → (∀ p ∈ news, p.1 ≠ D) → Fr h₀ L h' m → News h₀ L h' ((D, listOf ys.toArray k) :: news) → Q (.ref D) { s₁ with heap := h', toks := tk }) :
    CompPost prog w A env scope x ifs elt Q (.ref s₁.heap.objs.size) { s₁ with heap := s₁.heap.push o } := by
  have up : ∀ (h' : Heap), (∀ b o', b ∉ [s₁.heap.objs.size] → (s₁.heap.push o).get? b = some o' → h'.get? b = some o') → ∀ b o', s₁.heap.get? b = some o' → h'.get? b = some o' :=
    fun h' hk b o' e => hk b o' (not_iter_of_old e) (Heap.get?_push_of_some _ e)
  refine ⟨intTest pz, fun v y => ∃ n t, v = Value.int n t ∧ R n y, s₁.heap.objs.size, fp, [s₁.heap.objs.size], ns.length, P, St, rfl, W, by rw [sizeLine_eq]; omega, hst, ?_, ⟨?_, ?_⟩, ?_⟩
  · intro b hb
    show b < (s₁.heap.push o).objs.size
    rw [Heap.size_push]
    exact Nat.lt_succ_of_le (hfp b hb)
  · intro C i v s₃ m₃ E' hPv hn hm hk _
    obtain ⟨n, t, e, rfl⟩ := hP i v hPv
    exact g1 C n t s₃ m₃ E' (List.mem_of_getElem? e) hn hm (up _ hk)
  · intro C i v s₃ m₃ E' hPv hp hn hm hk _
    obtain ⟨n, t, e, rfl⟩ := hP i v hPv
    exact wpAny_mono (g2 C n t s₃ m₃ E' (List.mem_of_getElem? e) hp hn hm (up _ hk)) (fun r s₄ h₄ => ⟨⟨n, t, rfl, h₄.1⟩, h₄.2⟩) fun _ _ e => e
  · intro D h' tk ys vs hnew hlD hplD hlen hPs hF hk
    have hi : IntsAre vs ns := intsAre_of hlen fun i v hv => by
      obtain ⟨n, t, e, rfl⟩ := hP i v (hPs i v hv)
      exact ⟨t, by rw [List.getD_eq_getElem?_getD, e]; rfl⟩
    have hnew1 : s₁.heap.get? D = none := by
      cases e : s₁.heap.get? D with
      | none => rfl
      | some o' => rw [Heap.get?_push_of_some _ e] at hnew; cases hnew
    obtain ⟨k, hk2⟩ := hplD
    refine g3 D ys.toList k h' tk (paired_ints (fun _ _ => rfl) hi hF) (fun p hp e => ?_) (F.keeps (up h' hk)) (News.addK F N (up h' hk) hnew1 hk2)
    have := (N p hp).1
    rw [e, hnew1] at this
    cases this
theorem comp_bytes {env : Env} {elt : PySem.Expr} {x : Str} {scope : Scope} {Q : Value → Shared → Prop} {b : Array UInt8} {tb : Tok} {ns : List Int}
    (R : Int → Value → Prop) (hh : A.handled = none) (hb : KBw.bInts b = ns) (hsz : ns.length ≤ 1000) (F : Fr h₀ L s₁.heap m) (N : News h₀ L s₁.heap news)
    (g2 : ∀ C n t s₂ m₂ E', n ∈ ns → s₂.heap.Ns C m₂ → m₂ x = some (.int n t) → (∀ b o, s₁.heap.get? b = some o → s₂.heap.get? b = some o) →
      wpAny (model prog w) A (eval elt (compEnv scope C env)) (fun r s₃ => R n r ∧ PySem.Keeps s₂ s₃) E' s₂)
    (g3 : ∀ D ys k h' tk, Paired R ns ys → (∀ p ∈ news, p.1 ≠ D) → Fr h₀ L h' m → News h₀ L h' ((D, listOf ys.toArray k) :: news) → Q (.ref D) { s₁ with heap := h', toks := tk }) :
    wpAny (model prog w) A (pyIter (.bytes b tb)) (CompPost prog w A env scope x [] elt Q) E s₁ := by
  refine KBw.pyIter_bytes ?_
  have W := KBw.walks (prog := prog) (w := w) hh s₁.heap.objs.size b tb
  rw [← KBw.ints_length, hb] at W
  refine comp_core R (fun _ => true) W ?_ ⟨_, Heap.get?_push_size _ rfl, rfl, rfl⟩ (fun b hb => by rw [List.mem_singleton.mp hb]; exact Nat.le_refl _) hsz F N ?_ (fun C n t s₂ m₂ E' a _ => g2 C n t s₂ m₂ E' a) ?_
  · rintro i v ⟨c, u, e, rfl⟩
    exact ⟨_, u, by rw [← hb]; exact KBw.ints_get e, rfl⟩
  · intro C n t s₂ m₂ E' _ _ _ _
    exact wpAny_pure ⟨rfl, s₂.heap, s₂.toks, rfl, fun _ _ e => e⟩
  · intro D ys k h' tk q
    rw [List.filter_eq_self.mpr (fun _ _ => rfl)] at q
    exact g3 D ys k h' tk q
theorem comp_list {env : Env} {elt : PySem.Expr} {x : Str} {scope : Scope} {Q : Value → Shared → Prop} {l : Addr} {vs : List Value} {ns : List Int}
    (R : Int → Value → Prop) (hh : A.handled = none) (hl : s₁.heap.IsList l vs.toArray) (hi : IntsAre vs ns) (hsz : ns.length ≤ 1000) (F : Fr h₀ L s₁.heap m) (N : News h₀ L s₁.heap news)
    (g2 : ∀ C n t s₂ m₂ E', n ∈ ns → s₂.heap.Ns C m₂ → m₂ x = some (.int n t) → (∀ b o, s₁.heap.get? b = some o → s₂.heap.get? b = some o) →
      wpAny (model prog w) A (eval elt (compEnv scope C env)) (fun r s₃ => R n r ∧ PySem.Keeps s₂ s₃) E' s₂)
    (g3 : ∀ D ys k h' tk, Paired R ns ys → (∀ p ∈ news, p.1 ≠ D) → Fr h₀ L h' m → News h₀ L h' ((D, listOf ys.toArray k) :: news) → Q (.ref D) { s₁ with heap := h', toks := tk }) :
    wpAny (model prog w) A (pyIter (.ref l)) (CompPost prog w A env scope x [] elt Q) E s₁ := by
  have hlt : l < s₁.heap.objs.size := by obtain ⟨_, e, _⟩ := hl; exact Heap.lt_size e
  refine wpAny_pyIter_list hl ?_
  have W := Walks.list (prog := prog) (w := w) hh s₁.heap.objs.size l (Nat.ne_of_lt hlt) vs.toArray
  rw [show vs.toArray.size = ns.length by rw [List.size_toArray, hi.length]] at W
  refine comp_core R (fun _ => true) W ?_ ⟨⟨_, Heap.get?_push_size _ rfl, rfl, rfl⟩, hl.at fun o e => Heap.get?_push_of_some _ e⟩ (fun b hb => ?_) hsz F N ?_ (fun C n t s₂ m₂ E' a _ => g2 C n t s₂ m₂ E' a) ?_
  · intro i v hv
    have hv' : vs[i]? = some v := by simpa using hv
    have hi' : i < ns.length := by rw [← hi.length]; exact (List.getElem?_eq_some_iff.mp hv').1
    obtain ⟨t, ht⟩ := intsAre_at hi hi'
    rw [hv'] at ht
    cases ht
    exact ⟨_, t, by rw [List.getD_eq_getElem?_getD, List.getElem?_eq_getElem hi']; rfl, rfl⟩
  · rcases List.mem_cons.mp hb with rfl | hb
    · exact Nat.le_refl _
    · rw [List.mem_singleton.mp hb]; exact Nat.le_of_lt hlt
  · intro C n t s₂ m₂ E' _ _ _ _
    exact wpAny_pure ⟨rfl, s₂.heap, s₂.toks, rfl, fun _ _ e => e⟩
  · intro D ys k h' tk q
    rw [List.filter_eq_self.mpr (fun _ _ => rfl)] at q
    exact g3 D ys k h' tk q
end
theorem blk_B {M : Model} {A : Around} {E : Value → Shared → Prop} {s : Shared} {h₀ : Heap} {L : Addr} {m : Str → Option Value} {K : Frag} {mg mb : Str → Option Value} {p : Program} {loose : List Str} {x : Str} {pos : Pos} {v : Value} {env : Env} {Q : Value → Shared → Prop} (F : Fr h₀ L s.heap m) (X : K.In h₀) (T : TopRead p loose mg mb h₀)
    (e : nsIn K mainGlobals x = some none) (hv : bootBuiltins x = some v) (hn : x ≠ "__name__") (h : Q v s) (hg : env.globals = mainGlobals) (hb : env.builtins = builtinsNs) (hk : env.scope.kind = .function) (hx : env.kindOf x = some .globalImplicit) (hd : (x == ("__debug__" : Str)) = false) :
    wpAny M A (eval (.Name x pos) env) Q E s :=
  Name_function_global hk hx (loadGlobal_builtin (env := env) (by rw [hg]; exact T.g.keeps F.keep) (mg_none_of X T.g e) (by rw [hb]; exact T.b.keeps F.keep) ((T.builtins x hn).trans hv) h) hd
theorem blk_L {M : Model} {A : Around} {E : Value → Shared → Prop} {s : Shared} {C : Addr} {m : Str → Option Value} {x : Str} {pos : Pos} {v : Value} {env : Env} {Q : Value → Shared → Prop} (n : s.heap.Ns C m) (hC : env.locals = C) (hv : m x = some v) (h : Q v s)
    (hk : env.scope.kind = .function) (hx : env.kindOf x = some .local) (hd : (x == ("__debug__" : Str)) = false) :
    wpAny M A (eval (.Name x pos) env) Q E s := wpAny_Name (wpAny_loadName_local hk hx (hC ▸ n) hv h) hd
end Mine
end
section
open PySem PySem.W PyProof.Rows PySem.Calls PySem.Spec
set_option maxRecDepth 100000
set_option maxHeartbeats 8000000
namespace Mine
theorem own_callC {prog : Program} {w : World} {A : Around} {s : Shared} {K : Frag} {p : Program} {loose : List Str} {mean : ExcName → Option Value} {mg mb : Str → Option Value} {Q E : Value → Shared → Prop}
    {f : Addr} {oc : Value} {od : Option Addr} {osl : Array (Option Value)} {name qual : Str} {params : Arguments} {body : List Stmt} {scope : Scope} {dV kV doc pm cdv ct : Value} {an : Option Addr} {vals : List Value} (binds : List (Str × Value))
    (X : Frag.In K s.heap) (T : Top p loose mean mg mb s.heap) (ho : K.lookup f = some ⟨oc, od, .func (fnOf name qual params body scope dV kV doc pm an cdv ct), osl⟩) (hcd : codeIn K cdv qual = true) (hroom : A.depth < recursionLimit)
    (hbind : BindsTo s (fnOf name qual params body scope dV kV doc pm an cdv ct) ⟨vals, []⟩ binds)
    (hkind : ∀ n, ∀ x ∈ binds, scope.names.lookup x.1 = some .local ∨ (scope.names.lookup x.1 = some .cell ∧ ((cellsFrom n scope.names []).lookup x.1).isSome = true))
    (hnd : ((cellsFrom 0 scope.names []).map (·.1)).Nodup)
    (h : ∀ L h₁ tk cells, Fr s.heap L h₁ (bindL (envOfC qual scope L f cdv).kindOf binds fun _ => none) → News s.heap L h₁ cells →
      CellsAre (bindC (envOfC qual scope L f cdv).kindOf binds fun _ => none) (cellsFrom (L + 1) scope.names []) cells →
      wpAny (model prog w) (A.deeper (envOfC qual scope L f cdv)) (execs body (envOfC qual scope L f cdv)) (fun fl s' => Q (match fl with | .ret v => v | _ => .none) s') (fun _ _ => False) { s with heap := h₁, toks := tk })
    (hco : scope.isCoroutine = false) (hgen : scope.isGenerator = false) (hk : scope.kind = .function) :
    wpAny (model prog w) A (call (.ref f) vals) Q E s := by
  refine wpAny_call (codeAny_call_function (fd := fnOf name qual params body scope dV kV doc pm an cdv ct) hroom (X _ _ ho) rfl hco hgen rfl (codeRec_of X hcd) (hbind _ _ _ _ ?_))
  refine wpAny_newFunctionEnv_cells hk (hkind _) fun env' he s' x => ?_
  subst he
  refine ⟨T.nolimit.keeps x.toInCall.keep, codeAny_func ?_⟩
  obtain ⟨h₁, tk, rfl, _⟩ := x.done
  have hk₁ := x.toInCall.keep
  obtain ⟨cells, NC, Y⟩ := Cl.news (h₀ := s.heap) (Nat.le_refl _) fun n c hm => ⟨x.cell n c (lookup_of_mem_nodup (cellsFrom_names scope.names 0 (s.heap.objs.size + 1) [] [] rfl ▸ hnd) hm), x.above n c hm⟩
  exact wpAny_mono (h s.heap.objs.size h₁ tk cells ⟨x.toInCall.ns, fun b o e => hk₁ b o e, Nat.le_refl _⟩ (fun p hp => ⟨(NC p hp).1, (NC p hp).2.1, (NC p hp).2.2⟩) Y) (fun fl s' q => q) fun _ _ x => x.elim
section
variable {prog : Program} {w : World} {A : Around} {E : Value → Shared → Prop} {s₁ : Shared} {h₀ : Heap} {L : Addr} {m : Str → Option Value} {news : List (Addr × Obj)}
def PostC (prog : Program) (w : World) (A : Around) (env : Env) (scope : Scope) (cl : List (Str × Addr)) (x : Str) (ifs : List PySem.Expr) (elt : PySem.Expr) (p : Value → Bool) (F : Value → Value → Prop) (Q : Value → Shared → Prop) (it : Value) (s₂ : Shared) : Prop :=
  ∃ I fp wr n P St, it = .ref I ∧ Walks prog w A I fp wr n P St ∧ n ≤ sizeLine ∧ St 0 s₂.heap ∧ (∀ b ∈ fp, b < s₂.heap.objs.size) ∧
      QuietOnC prog w A env scope cl x ifs elt wr P p F s₂ ∧
      (∀ D h' tk ys (vs : List Value), s₂.heap.get? D = none → h'.IsList D ys → h'.PlainList D ys → vs.length = n → (∀ j v, vs[j]? = some v → P j v) → Paired F (vs.filter p) ys.toList →
        (∀ b o, b ∉ wr → s₂.heap.get? b = some o → h'.get? b = some o) → Q (.ref D) { s₂ with heap := h', toks := tk })
theorem comp_coreC {env : Env} {elt : PySem.Expr} {x : Str} {ifs : List PySem.Expr} {scope : Scope} {cl : List (Str × Addr)} {Q : Value → Shared → Prop} {o : Obj} {fp : List Addr} {P : Nat → Value → Prop} {St : Nat → Heap → Prop} {ns : List Int}
    (R : Int → Value → Prop) (pz : Int → Bool)
    (W : Walks prog w A s₁.heap.objs.size fp [s₁.heap.objs.size] ns.length P St) (hP : ∀ i v, P i v → ∃ (n : Int) (t : Tok), ns[i]? = some n ∧ v = .int n t)
    (hst : St 0 (s₁.heap.push o)) (hfp : ∀ b ∈ fp, b ≤ s₁.heap.objs.size) (hsz : ns.length ≤ 1000) (F : Fr h₀ L s₁.heap m) (N : News h₀ L s₁.heap news)
    (g1 : ∀ C n t s₂ m₂ E', n ∈ ns → s₂.heap.Ns C m₂ → m₂ x = some (.int n t) → Fr h₀ L s₂.heap m → News h₀ L s₂.heap news →
      wpAny (model prog w) A (forIn ifs true fun c r => if r = true then do let ok ← isTrue c (compEnvC scope cl C env) (eval c (compEnvC scope cl C env)); pure (ForInStep.yield ok) else pure (ForInStep.yield r))
        (fun ok s₃ => ok = pz n ∧ PySem.Keeps s₂ s₃) E' s₂)
    (g2 : ∀ C n t s₂ m₂ E', n ∈ ns → pz n = true → s₂.heap.Ns C m₂ → m₂ x = some (.int n t) → Fr h₀ L s₂.heap m → News h₀ L s₂.heap news →
      wpAny (model prog w) A (eval elt (compEnvC scope cl C env)) (fun r s₃ => R n r ∧ PySem.Keeps s₂ s₃) E' s₂)
    (g3 : ∀ D ys k h' tk, Paired R (ns.filter pz) ys → (∀ p ∈ news, p.1 ≠ D) → Fr h₀ L h' m → News h₀ L h' ((D, listOf ys.toArray k) :: news) → Q (.ref D) { s₁ with heap := h', toks := tk }) :
    PostC prog w A env scope cl x ifs elt (intTest pz) (fun v y => ∃ n t, v = Value.int n t ∧ R n y) Q (.ref s₁.heap.objs.size) { s₁ with heap := s₁.heap.push o } := by
  have up : ∀ (h' : Heap), (∀ b o', b ∉ [s₁.heap.objs.size] → (s₁.heap.push o).get? b = some o' → h'.get? b = some o') → ∀ b o', s₁.heap.get? b = some o' → h'.get? b = some o' :=
    fun h' hk b o' e => hk b o' (not_iter_of_old e) (Heap.get?_push_of_some _ e)
  refine ⟨s₁.heap.objs.size, fp, [s₁.heap.objs.size], ns.length, P, St, rfl, W, by rw [sizeLine_eq]; omega, hst, ?_, ⟨?_, ?_⟩, ?_⟩
  · intro b hb
    show b < (s₁.heap.push o).objs.size
    rw [Heap.size_push]
    exact Nat.lt_succ_of_le (hfp b hb)
  · intro C i v s₃ m₃ E' _ hPv hn hm hk _
    obtain ⟨n, t, e, rfl⟩ := hP i v hPv
    exact g1 C n t s₃ m₃ E' (List.mem_of_getElem? e) hn hm (F.keeps (up _ hk)) (N.grown (up _ hk))
  · intro C i v s₃ m₃ E' _ hPv hp hn hm hk _
    obtain ⟨n, t, e, rfl⟩ := hP i v hPv
    exact wpAny_mono (g2 C n t s₃ m₃ E' (List.mem_of_getElem? e) hp hn hm (F.keeps (up _ hk)) (N.grown (up _ hk))) (fun r s₄ h₄ => ⟨⟨n, t, rfl, h₄.1⟩, h₄.2⟩) fun _ _ e => e
  · intro D h' tk ys vs hnew hlD hplD hlen hPs hF hk
    have hi : IntsAre vs ns := intsAre_of hlen fun i v hv => by
      obtain ⟨n, t, e, rfl⟩ := hP i v (hPs i v hv)
      exact ⟨t, by rw [List.getD_eq_getElem?_getD, e]; rfl⟩
    have hnew1 : s₁.heap.get? D = none := by
      cases e : s₁.heap.get? D with
      | none => rfl
      | some o' => rw [Heap.get?_push_of_some _ e] at hnew; cases hnew
    obtain ⟨k, hk2⟩ := hplD
    refine g3 D ys.toList k h' tk (paired_ints (fun _ _ => rfl) hi hF) (fun p hp e => ?_) (F.keeps (up h' hk)) (News.addK F N (up h' hk) hnew1 hk2)
    have := (N p hp).1
    rw [e, hnew1] at this
    cases this
theorem comp_listC {env : Env} {elt : PySem.Expr} {x : Str} {scope : Scope} {cl : List (Str × Addr)} {Q : Value → Shared → Prop} {l : Addr} {vs : List Value} {ns : List Int}
    (R : Int → Value → Prop) (hh : A.handled = none) (hl : s₁.heap.IsList l vs.toArray) (hi : IntsAre vs ns) (hsz : ns.length ≤ 1000) (F : Fr h₀ L s₁.heap m) (N : News h₀ L s₁.heap news)
    (g2 : ∀ C n t s₂ m₂ E', n ∈ ns → s₂.heap.Ns C m₂ → m₂ x = some (.int n t) → Fr h₀ L s₂.heap m → News h₀ L s₂.heap news →
      wpAny (model prog w) A (eval elt (compEnvC scope cl C env)) (fun r s₃ => R n r ∧ PySem.Keeps s₂ s₃) E' s₂)
    (g3 : ∀ D ys k h' tk, Paired R ns ys → (∀ p ∈ news, p.1 ≠ D) → Fr h₀ L h' m → News h₀ L h' ((D, listOf ys.toArray k) :: news) → Q (.ref D) { s₁ with heap := h', toks := tk }) :
    wpAny (model prog w) A (pyIter (.ref l)) (PostC prog w A env scope cl x [] elt (intTest fun _ => true) (fun v y => ∃ n t, v = Value.int n t ∧ R n y) Q) E s₁ := by
  have hlt : l < s₁.heap.objs.size := by obtain ⟨_, e, _⟩ := hl; exact Heap.lt_size e
  refine wpAny_pyIter_list hl ?_
  have W := Walks.list (prog := prog) (w := w) hh s₁.heap.objs.size l (Nat.ne_of_lt hlt) vs.toArray
  rw [show vs.toArray.size = ns.length by rw [List.size_toArray, hi.length]] at W
  refine comp_coreC R (fun _ => true) W ?_ ⟨⟨_, Heap.get?_push_size _ rfl, rfl, rfl⟩, hl.at fun o e => Heap.get?_push_of_some _ e⟩ (fun b hb => ?_) hsz F N ?_ (fun C n t s₂ m₂ E' a _ => g2 C n t s₂ m₂ E' a) ?_
  · intro i v hv
    have hv' : vs[i]? = some v := by simpa using hv
    have hi' : i < ns.length := by rw [← hi.length]; exact (List.getElem?_eq_some_iff.mp hv').1
    obtain ⟨t, ht⟩ := intsAre_at hi hi'
    rw [hv'] at ht
    cases ht
    exact ⟨_, t, by rw [List.getD_eq_getElem?_getD, List.getElem?_eq_getElem hi']; rfl, rfl⟩
  · rcases List.mem_cons.mp hb with rfl | hb
    · exact Nat.le_refl _
    · rw [List.mem_singleton.mp hb]; exact Nat.le_of_lt hlt
  · intro C n t s₂ m₂ E' _ _ _ _ _
    exact wpAny_pure ⟨rfl, s₂.heap, s₂.toks, rfl, fun _ _ e => e⟩
  · intro D ys k h' tk q
    rw [List.filter_eq_self.mpr (fun _ _ => rfl)] at q
    exact g3 D ys k h' tk q
theorem LC_C {s : Shared} {env : Env} {elt iter : PySem.Expr} {x : Str} {px : Pos} {ifs : List PySem.Expr} {scope : Scope} {cl : List (Str × Addr)} {pos : Pos} {Q : Value → Shared → Prop} (R : Int → Value → Prop) (pz : Int → Bool)
    (hclos : closureFor scope env = pure cl) (hcell : ∀ y ∈ scope.names, y.2 ≠ .cell) (hkind : scope.kind = .function)
    (hnames : ∀ y ∈ scope.names, y.2 = .local → scope.names.lookup y.1 = some .local) (hx : scope.names.lookup x = some .local)
    (hs : ∀ x, foldedSetIterable iter env x = pure x)
    (h : wpAny (model prog w) A (eval iter env) (fun xv s₁ => wpAny (model prog w) A (pyIter xv) (PostC prog w A env scope cl x ifs elt (intTest pz) (fun v y => ∃ n t, v = Value.int n t ∧ R n y) Q) E s₁) E s) :
    wpAny (model prog w) A (eval (.ListComp elt [⟨.Name x px, iter, ifs, 0⟩] scope pos) env) Q E s :=
  wpAny_ListComp_free _ _ hclos hcell hkind hnames hx h hs
theorem blk_C {M : Model} {A : Around} {E : Value → Shared → Prop} {s : Shared} {env : Env} {c : Addr} {o : Obj} {y : Str} {pos : Pos} {v : Value} {Q : Value → Shared → Prop} (N : News h₀ L s.heap news) (hc : env.cells.lookup y = some c) (hm : (c, o) ∈ news) (hd : o.data = .cell (some v)) (h : Q v s)
    (hk : env.scope.kind = .function) (hx : env.kindOf y = some .cell) (hb : (y == ("__debug__" : Str)) = false) :
    wpAny M A (eval (.Name y pos) env) Q E s := wpAny_Name (wpAny_loadName_cell hk hx hc ⟨o, N.get hm, hd⟩ h) hb
end
end Mine
end
section
open PySem PySem.W PyProof.Rows PySem.Calls PySem.Spec
set_option maxRecDepth 100000
set_option maxHeartbeats 8000000
namespace Mine
theorem all_eq {a b : List Int} (h : a.length = b.length) : ((List.range a.length).all fun j => a.getD j 0 == b.getD j 0) = decide (a = b) := by
  rw [Bool.eq_iff_iff, List.all_eq_true, decide_eq_true_iff]
  constructor
  · intro hh
    apply List.ext_getElem h
    intro i h1 h2
    have := hh i (List.mem_range.mpr h1)
    rw [List.getD_eq_getElem?_getD, List.getElem?_eq_getElem h1, List.getD_eq_getElem?_getD, List.getElem?_eq_getElem h2] at this
    simpa using this
  · rintro rfl i _
    exact beq_self_eq_true _
theorem ints_elt {vs : List Value} {ns : List Int} (hi : IntsAre vs ns) {j : Nat} (h1 : j < vs.toArray.size) : ∃ t : Tok, vs.toArray[j] = .int (ns.getD j 0) t := by
  have h2 : j < vs.length := by simpa using h1
  obtain ⟨t, ht⟩ := intsAre_at hi (p := j) (by rw [← hi.length]; exact h2)
  refine ⟨t, ?_⟩
  rw [List.getElem?_eq_getElem h2] at ht
  simpa using ht
section
variable {prog : Program} {w : World} {A : Around} {E : Value → Shared → Prop} {s : Shared}
theorem eq_ints {l l9 : Addr} {vs vs9 : List Value} {ns ns9 : List Int} {Q : Value → Shared → Prop} (hl : s.heap.IsList l vs.toArray) (hi : IntsAre vs ns) (hl9 : s.heap.IsList l9 vs9.toArray) (hi9 : IntsAre vs9 ns9) (hu : A.units < cLine)
    (h : Q (.bool (decide (ns = ns9))) s) : wpAny (model prog w) A (compareOp .Eq (.ref l) (.ref l9)) Q E s := by
  have e1 := hi.length
  have e2 := hi9.length
  by_cases hz : ns.length = ns9.length
  · refine SeqAt.RcAt.lists (e := fun j => ns.getD j 0 == ns9.getD j 0) hl hl9 (by simp; omega) hu (fun j h1 h2 => ?_) prog w E Q ?_
    · obtain ⟨t, ht⟩ := ints_elt hi h1
      obtain ⟨u, hu'⟩ := ints_elt hi9 h2
      rw [ht, hu']
      exact SeqAt.EqAt.int_int _ _ _ _
    · rw [List.size_toArray, e1, all_eq hz]; exact h
  · refine SeqAt.RcAt.lists_lengths hl hl9 (by simp; omega) hu prog w E Q ?_
    rw [decide_eq_false (fun e => hz (by rw [e]))] at h
    exact h
end
theorem paired_map {g : Int → Int} : ∀ {ns : List Int} {ys : List Value}, Paired (fun n y => ∃ t : Tok, y = Value.int (g n) t) ns ys → IntsAre ys (ns.map g)
  | _, _, .nil => .nil
  | _, _, .cons ⟨t, e⟩ r => by subst e; exact .cons _ t (paired_map r)
theorem rangeL_sorted (j : Nat) : (rangeL 0 1 j).Pairwise (· ≤ ·) := by
  unfold rangeL
  rw [List.pairwise_map]
  exact List.Pairwise.imp (fun {a b} h => by omega) List.pairwise_lt_range
theorem sorted_is {a b c : List Int} (p : a.Perm b) (o : a.Pairwise (· ≤ ·)) (oc : c.Pairwise (· ≤ ·)) : decide (a = c) = decide (b.Perm c) := by
  rw [decide_eq_decide]
  constructor
  · rintro rfl; exact p.symm
  · intro q
    exact List.Perm.eq_of_pairwise (le := (· ≤ ·)) (fun a b _ _ h1 h2 => Int.le_antisymm h1 h2) o oc (p.trans q)
/-- each hue once -/
def onceF (ns2 ns : List Int) (j : Nat) : Bool := decide ((ns.map fun n => ns2.getD (n - 1).toNat 0).Perm (rangeL 0 1 j))
end Mine
end
section
open PySem PySem.W PyProof.Rows PySem.Calls PySem.Spec
set_option maxRecDepth 100000
set_option maxHeartbeats 8000000
namespace Mine
section
variable {prog : Program} {w : World} {A : Around} {E : Value → Shared → Prop} {s : Shared} {h₀ : Heap} {L : Addr} {m : Str → Option Value} {news news' : List (Addr × Obj)}
theorem ext0 {l b : Addr} {vs vs2 : List Value} {k k2 : Nat} {Q : Value → Shared → Prop} (F : Fr h₀ L s.heap m) (N : News h₀ L s.heap news) (hb : (b, listOf vs2.toArray k2) ∈ news)
    (U : Upd l (listOf vs.toArray k) (listOf (vs ++ vs2).toArray (k + 1)) news news') (hne : vs2.length ≠ 0) (hz : vs.length + vs2.length ≤ 1000)
    (h : ∀ h', Fr h₀ L h' m → News h₀ L h' news' → Q .none { s with heap := h' }) : wpAny (model prog w) A (call (.builtin "list.extend") [.ref l, .ref b]) Q E s := by
  refine kl_extend (its := vs.toArray) (its2 := vs2.toArray) (l := vs ++ vs2) F N hb (by simp) (by simpa using hne) U ?_ ?_ ?_ h
  · have := sizeLine_eq; simp [Builtin.List.listTooLong]; omega
  · rw [sizeLine_eq]; simp; omega
  · rw [sizeLine_eq]; simp; omega
theorem for_text {env : Env} {x : Str} {body : List Stmt} {Q : Flow → Shared → Prop} {σ : Type} {l : List Nat} {t₀ : Tok} {m₀ : Str → Option Value} (const : List (Addr × Obj)) (led : σ → List (Addr × Obj)) (ps : σ → List (Str × Value)) (P : Nat → σ → Prop) (c₀ : σ)
    (hh : A.handled = none) (ha : ∀ c ∈ l, c < 128) (F : Fr h₀ env.locals s.heap m₀) (N : News h₀ env.locals s.heap news) (hnews : ∀ p ∈ const ++ led c₀, p ∈ news) (hp₀ : ∀ p ∈ ps c₀, m₀ p.1 = some p.2) (hj : P 0 c₀)
    (turn : ∀ i t c u h tk I io, i < l.length → P i c → io.cls = .type "str_ascii_iterator" → Fr h₀ env.locals h (fun y => if y = x then some (.str (one (l.getD i 0)) t) else kstB u (ps c) y) → News h₀ env.locals h ((I, io) :: (const ++ led c)) → (∀ p ∈ led c, p.1 ≠ I) → (∀ p ∈ const, p.1 ≠ I) →
      wpAny (model prog w) A (execs body env) (TurnP h₀ env.locals I io const led ps (P (i + 1)) { s with heap := h, toks := tk } Q) E { s with heap := h, toks := tk })
    (done : ∀ c u h tk, P l.length c → Fr h₀ env.locals h (kstB u (ps c)) → News h₀ env.locals h (const ++ led c) → Q .next { s with heap := h, toks := tk }) :
    wpAny (model prog w) A (pyIter (.str (txt l) t₀)) (fun it s₂ => LoopAtV prog w A h₀ env x body Q E it s₂) E s := by
  have hall : (txt l).cps.all (· < 128) = true := by
    show l.toArray.all (· < 128) = true
    rw [Array.all_eq_true_iff_forall_mem]
    intro c hc
    exact decide_eq_true (ha c (by simpa using hc))
  refine wpAny_pyIter_ascii hall ?_
  have W := Walks.strAscii (prog := prog) (w := w) hh s.heap.objs.size (txt l) t₀
  rw [show (txt l).cps.size = l.length from by show l.toArray.size = _; simp] at W
  have hlt : ∀ p ∈ const ++ led c₀, p.1 ≠ s.heap.objs.size := fun p hp => Nat.ne_of_lt (Heap.lt_size (N p (hnews p hp)).1)
  refine loop_mine (ic := .type "str_ascii_iterator") led ps P c₀ W ?_ (fun p hp => hlt p (List.mem_append_left _ hp)) (next_is_new F) ?_ ?_ (.head _) (F.push _) (fun p hp => ⟨Heap.get?_push_of_some _ (N p (hnews p hp)).1, (N p (hnews p hp)).2⟩) (fun p hp => hlt p (List.mem_append_right _ hp)) hp₀ hj (Nat.ne_of_lt F.ns.lt) ?_ ?_
  · intro b hb; exact .inl (List.mem_singleton.mp hb)
  · exact ⟨_, Heap.get?_push_size _ rfl, rfl, rfl⟩
  · rintro i h ⟨o, ho, hc, _⟩; exact ⟨o, ho, hc⟩
  · rintro i v c u h tk io hi ⟨k, t, hk, rfl⟩ hP hc F₁ N₁ h1 h2
    have e : l.getD i 0 = k := by
      have hk' : l[i]? = some k := by simpa using hk
      rw [List.getD_eq_getElem?_getD, hk']; rfl
    subst e
    exact turn i t c u h tk _ io hi hP hc F₁ N₁ h1 h2
  · exact done
theorem mul_A : ∀ k : Nat, k ≤ 3 → Txt.mul (PySem.Str.ofString "A") (k : Int) = txt (List.replicate k 65) := by decide +kernel
theorem mul_line {z : Int} {k : Nat} {t u : Tok} {Q : Value → Shared → Prop} (hz : z = (k : Int)) (hk : k ≤ 3) (h : ∀ t' k', Q (.str (txt (List.replicate k 65)) t') { s with toks := k' }) : wpAny (model prog w) A (binaryOp .Mult (.str (PySem.Str.ofString "A") t) (.int z u)) Q E s := by
  subst hz
  refine SB.mul (mulOk_of 16 16 (by decide) (by omega) (by omega) (by decide) (by decide)) fun t' k' => ?_
  rw [mul_A k hk]; exact h t' k'
theorem mul_lineZ {z : Int} {t u : Tok} {Q : Value → Shared → Prop} (h0 : 0 ≤ z) (h3 : z ≤ 3) (h : ∀ t' k', Q (.str (txt (List.replicate z.toNat 65)) t') { s with toks := k' }) : wpAny (model prog w) A (binaryOp .Mult (.str (PySem.Str.ofString "A") t) (.int z u)) Q E s :=
  mul_line (k := z.toNat) (by omega) (by omega) h
theorem add_txt {a b : List Nat} {t u : Tok} {Q : Value → Shared → Prop} (hz : a.length + b.length ≤ 1000) (h : ∀ t' k', Q (.str (txt (a ++ b)) t') { s with toks := k' }) : wpAny (model prog w) A (binaryOp .Add (.str (txt a) t) (.str (txt b) u)) Q E s := by
  refine SB.add (fun t' k' => ?_) (by rw [txt_len, txt_len, sizeLine_eq]; omega)
  rw [show (txt a ++ txt b : Str) = txt (a ++ b) from by show (⟨a.toArray ++ b.toArray⟩ : Str) = ⟨(a ++ b).toArray⟩; simp]
  exact h t' k'
end
end Mine
end
section
open PySem PySem.W PyProof.Rows PySem.Calls PySem.Spec
set_option maxRecDepth 100000
set_option maxHeartbeats 8000000
namespace Mine
theorem fill_C2word : PySem.Challenge.rw_sc0035_02.foot = 6 ∧ hd.heap_39 = hd.heap_39 := by
  w_top off
  k_fill
  exact ⟨rfl, rfl⟩
theorem str_app (a : Nat) (l : List Nat) : (one a ++ txt [] ++ txt l : Str) = txt (a :: l) := by
  show (⟨(#[a] ++ #[]) ++ l.toArray⟩ : Str) = ⟨(a :: l).toArray⟩
  simp
theorem join_txt : ∀ l : List Nat, PySem.Txt.join (PySem.Str.ofString "") (l.map one) = txt l := by
  intro l
  show Builtin.Str.glued (PySem.Str.ofString "") (l.map one) = _
  rw [StrLaws.glued_eq_join]
  have g : ∀ (r : List Nat) (a : Nat), PySem.Str.join (PySem.Str.ofString "") ((a :: r).map one) = txt (a :: r) := by
    intro r
    induction r with
    | nil => intro a; rfl
    | cons b r ih =>
      intro a
      show (one a ++ PySem.Str.ofString "" ++ PySem.Str.join (PySem.Str.ofString "") ((b :: r).map one) : Str) = _
      rw [ih b]
      exact str_app a (b :: r)
  cases l with
  | nil => rfl
  | cons a r => exact g r a
theorem carried_ones : ∀ {ds : List Nat} {ys : List Value}, Paired (fun n v => Carried v (.str (one (Int.toNat n)))) (ds.map fun (d : Nat) => ((65 + d : Nat) : Int)) ys → CarriedAll ys (ds.map fun d => PyData.str (one (65 + d)))
  | [], _, .nil => .nil
  | d :: r, _, .cons a b => .cons a (carried_ones b)
theorem bInts_ap {ds : List Nat} (h : ∀ d ∈ ds, d < 16) : KBw.bInts (ap ds) = ds.map fun (d : Nat) => ((65 + d : Nat) : Int) := by
  unfold ap KBw.bInts
  simp only [List.map_map]
  refine List.map_congr_left fun d hd => ?_
  have := h d hd
  simp only [Function.comp]
  rw [UInt8.toNat_ofNat']; omega
theorem val16_fold (ds : List Nat) : (ds.map fun (d : Nat) => (d : Int)).foldl (fun a n => 16 * a + n) 0 = ((val16 ds : Nat) : Int) := by
  have g : ∀ (ds : List Nat) (a : Nat), (ds.map fun (d : Nat) => (d : Int)).foldl (fun a n => 16 * a + n) (a : Int) = ((ds.foldl (fun a d => 16 * a + d) a : Nat) : Int) := by
    intro ds
    induction ds with
    | nil => intro a; rfl
    | cons d r ih =>
      intro a
      simp only [List.map_cons, List.foldl_cons]
      rw [← ih]; congr 1
  exact g ds 0
theorem c_word {w : World} {A : Around} {s : Shared} {Q E : Value → Shared → Prop} (C : Cx 2 w A s.heap)
    {z : Int} {tz : Tok} {ds : List Nat} (hnum : (-z).natAbs = val16 ds) (hlen : ds.length ≤ 8) (hd : ∀ d ∈ ds, d < 16) (h0 : ds.head? ≠ some 0)
    (h : ∀ t h' tk, Keeps s.heap h' → Q (.str (txt (ds.map fun n => 65 + n)) t) { s with heap := h', toks := tk }) :
    wpAny (model PR w) A (call (.ref 61) [.int z tz]) Q E s := by
  obtain ⟨X, ⟨prg, loose, mean, mg, mb, T⟩, hh, hroom, hun⟩ := C
  obtain ⟨_, dp, fr, gd, un⟩ := A
  cases hh
  replace hroom : dp + 2 < recursionLimit := hroom
  replace hun : un + 60 < cLine := hun
  refine own_call [(Str.ofString "count", .int z tz)] X T (by k_is) (by k_is) (by (show dp < _); omega) (BindsTo.of_eq rfl) (locs rfl) (fun L h₁ tk F N => ?_) (by decide) rfl rfl rfl
  k_fold
  (repeat' (first | (k_unfold; (try dsimp only)) | ((fail_if_success (with_reducible show wpAny _ _ (PySem.exec (PySem.Stmt.While _ _ _ _) _) _ _ _)); (fail_if_success (with_reducible show wpAny _ _ (PySem.exec (PySem.Stmt.For _ _ _ _ _) _) _ _ _)); (fail_if_success (with_reducible show wpAny _ _ (PySem.pyIter _) _ _ _)); (fail_if_success (with_reducible show wpAny _ _ (PySem.setItem _ _ _) _ _ _)); first | (((with_reducible show wpAny _ _ (eval (Expr.Name _ _) (compEnv _ _ _)) _ _ _); k_dflt (refine blk_B (by assumption) (by assumption) (by k_asm) (by k_is) (by boot_fast) (by decide) ?_ (by rfl) (by rfl) (by rfl) (by rfl) (by decide); k_whole))) | ((k_dflt ((with_reducible show wpAny _ _ (call (Value.ref 21) _) _ _ _); (refine c_ap (by (exact ⟨Frag.In.keeps (by assumption) (Fr.keep (by assumption)), ⟨_, _, _, _, _, Top.keeps (by assumption) (Fr.keep (by assumption))⟩, rfl, by (simp only [Around.deeper, Around.in1]; omega), by (simp only [Around.deeper, Around.in1]; omega)⟩)) (by assumption) (by assumption) (by assumption) (by assumption) ?_; intro _ _ _ k9q; (rename Fr _ _ _ _ => F9q); (rename News _ _ _ _ => N9q); (have F8q := Fr.keepsK F9q k9q); (have N8q := News.keepsK N9q k9q); clear F9q N9q k9q)))) | ((k_dflt ((with_reducible show wpAny _ _ (call (Value.ref 56) _) _ _ _); (refine c_number (by (exact ⟨Frag.In.keeps (by assumption) (Fr.keep (by assumption)), ⟨_, _, _, _, _, Top.keeps (by assumption) (Fr.keep (by assumption))⟩, rfl, by (simp only [Around.deeper, Around.in1]; omega), by (simp only [Around.deeper, Around.in1]; omega)⟩)) (by exact Heap.IsList.at (by assumption) (fun o e => (Fr.keep (by assumption)) _ _ e)) (by assumption) ?_; intro _ _ _ k9q; (rename Fr _ _ _ _ => F9q); (rename News _ _ _ _ => N9q); (have F8q := Fr.keepsK F9q k9q); (have N8q := News.keepsK N9q k9q); clear F9q N9q k9q)))) | ((k_dflt ((with_reducible show wpAny _ _ (call (Value.type _) [Value.int _ _, Value.int _ _]) _ _ _); (refine rng2 (by assumption) (by assumption) ?_); intro _ _ _ _ _ _ _ _ _))) | walk1 | (dsimp only; walk1) | (leave1; try dsimp only))))
  rename Fr _ _ _ _ => F9
  rename News _ _ _ _ => N9
  refine comp_bytes (fun n v => Carried v (.str (one (Int.toNat n)))) rfl (bInts_ap hd) (by simp; omega) F9 N9 ?_ ?_
  · intro C n t s₂ m₂ E' hn hns hm hk
    obtain ⟨d, hd1, rfl⟩ := List.mem_map.mp hn
    have hd2 := hd d hd1
    (repeat' (first | (k_unfold; (try dsimp only)) | ((fail_if_success (with_reducible show wpAny _ _ (PySem.exec (PySem.Stmt.While _ _ _ _) _) _ _ _)); (fail_if_success (with_reducible show wpAny _ _ (PySem.exec (PySem.Stmt.For _ _ _ _ _) _) _ _ _)); (fail_if_success (with_reducible show wpAny _ _ (PySem.pyIter _) _ _ _)); (fail_if_success (with_reducible show wpAny _ _ (PySem.setItem _ _ _) _ _ _)); first | (((with_reducible show wpAny _ _ (eval (Expr.Name _ _) (compEnv _ _ _)) _ _ _); k_dflt (refine blk_B (by assumption) (by assumption) (by k_asm) (by k_is) (by boot_fast) (by decide) ?_ (by rfl) (by rfl) (by rfl) (by rfl) (by decide); k_whole))) | ((k_dflt ((with_reducible show wpAny _ _ (call (Value.ref 21) _) _ _ _); (refine c_ap (by (exact ⟨Frag.In.keeps (by assumption) (Fr.keep (by assumption)), ⟨_, _, _, _, _, Top.keeps (by assumption) (Fr.keep (by assumption))⟩, rfl, by (simp only [Around.deeper, Around.in1]; omega), by (simp only [Around.deeper, Around.in1]; omega)⟩)) (by assumption) (by assumption) (by assumption) (by assumption) ?_; intro _ _ _ k9q; (rename Fr _ _ _ _ => F9q); (rename News _ _ _ _ => N9q); (have F8q := Fr.keepsK F9q k9q); (have N8q := News.keepsK N9q k9q); clear F9q N9q k9q)))) | ((k_dflt ((with_reducible show wpAny _ _ (call (Value.ref 56) _) _ _ _); (refine c_number (by (exact ⟨Frag.In.keeps (by assumption) (Fr.keep (by assumption)), ⟨_, _, _, _, _, Top.keeps (by assumption) (Fr.keep (by assumption))⟩, rfl, by (simp only [Around.deeper, Around.in1]; omega), by (simp only [Around.deeper, Around.in1]; omega)⟩)) (by exact Heap.IsList.at (by assumption) (fun o e => (Fr.keep (by assumption)) _ _ e)) (by assumption) ?_; intro _ _ _ k9q; (rename Fr _ _ _ _ => F9q); (rename News _ _ _ _ => N9q); (have F8q := Fr.keepsK F9q k9q); (have N8q := News.keepsK N9q k9q); clear F9q N9q k9q)))) | ((k_dflt ((with_reducible show wpAny _ _ (call (Value.type _) [Value.int _ _, Value.int _ _]) _ _ _); (refine rng2 (by assumption) (by assumption) ?_); intro _ _ _ _ _ _ _ _ _))) | walk1 | (dsimp only; walk1) | (leave1; try dsimp only))))
    all_goals first | exact .str _ _ | exact ⟨s₂.heap, _, rfl, fun _ _ e => e⟩ | exact ⟨.str _ _, s₂.heap, _, rfl, fun _ _ e => e⟩
  · intro D ys k h' tk hy hne F7 N7
    (repeat' (first | (k_unfold; (try dsimp only)) | ((fail_if_success (with_reducible show wpAny _ _ (PySem.exec (PySem.Stmt.While _ _ _ _) _) _ _ _)); (fail_if_success (with_reducible show wpAny _ _ (PySem.exec (PySem.Stmt.For _ _ _ _ _) _) _ _ _)); (fail_if_success (with_reducible show wpAny _ _ (PySem.pyIter _) _ _ _)); (fail_if_success (with_reducible show wpAny _ _ (PySem.setItem _ _ _) _ _ _)); first | (((with_reducible show wpAny _ _ (eval (Expr.Name _ _) (compEnv _ _ _)) _ _ _); k_dflt (refine blk_B (by assumption) (by assumption) (by k_asm) (by k_is) (by boot_fast) (by decide) ?_ (by rfl) (by rfl) (by rfl) (by rfl) (by decide); k_whole))) | ((k_dflt ((with_reducible show wpAny _ _ (call (Value.ref 21) _) _ _ _); (refine c_ap (by (exact ⟨Frag.In.keeps (by assumption) (Fr.keep (by assumption)), ⟨_, _, _, _, _, Top.keeps (by assumption) (Fr.keep (by assumption))⟩, rfl, by (simp only [Around.deeper, Around.in1]; omega), by (simp only [Around.deeper, Around.in1]; omega)⟩)) (by assumption) (by assumption) (by assumption) (by assumption) ?_; intro _ _ _ k9q; (rename Fr _ _ _ _ => F9q); (rename News _ _ _ _ => N9q); (have F8q := Fr.keepsK F9q k9q); (have N8q := News.keepsK N9q k9q); clear F9q N9q k9q)))) | ((k_dflt ((with_reducible show wpAny _ _ (call (Value.ref 56) _) _ _ _); (refine c_number (by (exact ⟨Frag.In.keeps (by assumption) (Fr.keep (by assumption)), ⟨_, _, _, _, _, Top.keeps (by assumption) (Fr.keep (by assumption))⟩, rfl, by (simp only [Around.deeper, Around.in1]; omega), by (simp only [Around.deeper, Around.in1]; omega)⟩)) (by exact Heap.IsList.at (by assumption) (fun o e => (Fr.keep (by assumption)) _ _ e)) (by assumption) ?_; intro _ _ _ k9q; (rename Fr _ _ _ _ => F9q); (rename News _ _ _ _ => N9q); (have F8q := Fr.keepsK F9q k9q); (have N8q := News.keepsK N9q k9q); clear F9q N9q k9q)))) | ((k_dflt ((with_reducible show wpAny _ _ (call (Value.type _) [Value.int _ _, Value.int _ _]) _ _ _); (refine rng2 (by assumption) (by assumption) ?_); intro _ _ _ _ _ _ _ _ _))) | walk1 | (dsimp only; walk1) | (leave1; try dsimp only))))
    refine KT.join_1 (l := ds) (g := fun d => one (65 + d)) ⟨_, (N7 _ (.head _)).1, rfl, k, rfl⟩ (carried_ones hy) (fun _ _ => rfl) (by omega) ?_
    intro t' k' _
    rw [show (ds.map fun d => one (65 + d)) = (ds.map fun d => 65 + d).map one by rw [List.map_map]; rfl, join_txt]
    exact h _ _ _ (Fr.keep F7)
end Mine
end
section
open PySem PySem.W PyProof.Rows PySem.Calls PySem.Spec PySem.Flt
set_option maxRecDepth 100000
set_option maxHeartbeats 8000000
namespace Mine
theorem fill_C2told : PySem.Challenge.rw_sc0035_02.foot = 6 ∧ hd.heap_39 = hd.heap_39 := by
  w_top off
  k_fill
  exact ⟨rfl, rfl⟩

theorem c_told {w : World} {A : Around} {s : Shared} {Q E : Value → Shared → Prop} (C : Cx 2 w A s.heap)
    {x sa va : UInt64} {tx ts tv : Tok} {R G B H S V : UInt64} (htv : tv ≠ 0) (hF1 : hsvF x sa va = some (R, G, B)) (hF2 : rgbF R G B = some (H, S, V))
    (h : ∀ D t u v h' tk, Keeps s.heap h' → s.heap.get? D = none → h'.get? D = some (tup3 H S V t u v) → u ≠ 0 → v ≠ 0 → Q (.ref D) { s with heap := h', toks := tk }) :
    wpAny (model PR w) A (call (.ref 82) [.float x tx, .float sa ts, .float va tv]) Q E s := by
  obtain ⟨X, ⟨prg, loose, mean, mg, mb, T⟩, hh, hroom, hun⟩ := C
  obtain ⟨_, dp, fr, gd, un⟩ := A
  cases hh
  replace hroom : dp + 2 < recursionLimit := hroom
  replace hun : un + 60 < cLine := hun
  refine own_call [(Str.ofString "part", .float x tx), (Str.ofString "share", .float sa ts), (Str.ofString "level", .float va tv)] X T (by k_is) (by k_is) (by (show dp < _); omega) (BindsTo.of_eq rfl) (locs rfl) (fun L h₁ tk F N => ?_) (by decide) rfl rfl rfl
  k_fold
  (repeat' (first | (k_unfold; (try dsimp only)) | ((fail_if_success (with_reducible show wpAny _ _ (PySem.exec (PySem.Stmt.While _ _ _ _) _) _ _ _)); (fail_if_success (with_reducible show wpAny _ _ (PySem.exec (PySem.Stmt.For _ _ _ _ _) _) _ _ _)); (fail_if_success (with_reducible show wpAny _ _ (PySem.pyIter _) _ _ _)); (fail_if_success (with_reducible show wpAny _ _ (PySem.setItem _ _ _) _ _ _)); first | ((k_dflt ((with_reducible show wpAny _ _ (assign (Expr.Tuple _ _ _) _ (Value.ref _)) _ _ _); (rename News _ _ _ _ => N9q); (refine unpackN_ (by with_reducible assumption) N9q (News.isTup N9q (by exact List.Mem.head _)) (by rfl) (by rfl) (by rfl) ?_); intro _ _ _; clear N9q))) | ((with_reducible show wpAny _ _ (PySem.call (Value.ref _) _) _ _ _); (k_dflt ((first | (refine c_hsv (by (exact ⟨Frag.In.keeps (by assumption) (Fr.keep (by assumption)), ⟨_, _, _, _, _, Top.keeps (by assumption) (Fr.keep (by assumption))⟩, rfl, by (simp only [Around.deeper, Around.in1]; omega), by (simp only [Around.deeper, Around.in1]; omega)⟩)) (by with_reducible assumption) (by with_reducible assumption) ?_) | (refine c_rgb (by (exact ⟨Frag.In.keeps (by assumption) (Fr.keep (by assumption)), ⟨_, _, _, _, _, Top.keeps (by assumption) (Fr.keep (by assumption))⟩, rfl, by (simp only [Around.deeper, Around.in1]; omega), by (simp only [Around.deeper, Around.in1]; omega)⟩)) (by with_reducible assumption) (by with_reducible assumption) (by with_reducible assumption) (by with_reducible assumption) ?_)); intro _ _ _ _ _ _ k9q n9q a9q; intros; (rename Fr _ _ _ _ => F9q); (rename News _ _ _ _ => N9q); (have N8q := News.addK F9q N9q k9q n9q a9q); (have F8q := Fr.keepsK F9q k9q); clear F9q N9q k9q n9q a9q))) | ((k_dflt ((with_reducible show wpAny _ _ (call (Value.type _) [Value.int _ _, Value.int _ _]) _ _ _); (refine rng2 (by assumption) (by assumption) ?_); intro _ _ _ _ _ _ _ _ _))) | walk1 | (dsimp only; walk1) | (leave1; try dsimp only))))
  rename Fr _ _ _ _ => F9
  rename News _ _ _ _ => N9
  exact h _ _ _ _ _ _ (Fr.keep F9) (N9 _ (.head _)).2.2 (N9 _ (.head _)).1 (by assumption) (by assumption)
end Mine
end
section
open PySem PySem.W PyProof.Rows PySem.Calls PySem.Spec
set_option maxRecDepth 100000
set_option maxHeartbeats 8000000
namespace Mine
theorem fill_C2steps : PySem.Challenge.rw_sc0035_02.foot = 6 ∧ hd.heap_39 = hd.heap_39 := by
  w_top off
  k_fill
  exact ⟨rfl, rfl⟩
def hexD (n : Nat) : List Nat := if n = 0 then [] else if n < 16 then [n] else if n < 256 then [n / 16, n % 16] else [n / 256, n / 16 % 16, n % 16]
theorem hexD_facts {n : Nat} (h : n < 4096) : val16 (hexD n) = n ∧ (hexD n).length ≤ 3 ∧ (∀ d ∈ hexD n, d < 16) ∧ (hexD n).head? ≠ some 0 ∧ List.replicate (3 - (hexD n).length) 65 ++ (hexD n).map (fun d => 65 + d) = [65 + n / 256, 65 + n / 16 % 16, 65 + n % 16] := by
  unfold hexD
  split
  · subst_vars; decide
  split
  · refine ⟨by simp [val16], by simp, by simp; omega, by simp; omega, ?_⟩
    simp [List.replicate]; try omega
  split
  · refine ⟨by simp [val16]; omega, by simp, by simp; omega, by simp; omega, ?_⟩
    simp [List.replicate]; try omega
  · refine ⟨by simp [val16]; omega, by simp, by simp; omega, by simp; omega, ?_⟩
    simp
def bitsOf (d : Nat) : List Int := [((d / 8 : Nat) : Int), ((d / 4 % 2 : Nat) : Int), ((d / 2 % 2 : Nat) : Int), ((d % 2 : Nat) : Int)]
def bitsN (ds : List Nat) : List Int := ds.flatMap bitsOf
/-- the row of twelve shuffles -/
def stepsL (n : Nat) : List Int := bitsN [n / 256, n / 16 % 16, n % 16]
theorem bits_is (x : Nat) : [(((65 + x : Nat) : Int) - 65).fdiv 8, ((((65 + x : Nat) : Int) - 65).fdiv 4).fmod 2, ((((65 + x : Nat) : Int) - 65).fdiv 2).fmod 2, (((65 + x : Nat) : Int) - 65).fmod 2] = bitsOf x := by
  rw [show (((65 + x : Nat) : Int) - 65) = (x : Int) by omega]
  rw [Int.fdiv_eq_ediv_of_nonneg _ (by decide), Int.fdiv_eq_ediv_of_nonneg _ (by decide), Int.fdiv_eq_ediv_of_nonneg _ (by decide), Int.fmod_eq_emod_of_nonneg _ (by decide), Int.fmod_eq_emod_of_nonneg _ (by decide), Int.fmod_eq_emod_of_nonneg _ (by decide)]
  unfold bitsOf
  simp
theorem letter_at {a b c i : Nat} (hi : i < 3) : [65 + a, 65 + b, 65 + c].getD i 0 = 65 + [a, b, c].getD i 0 := by
  match i, hi with
  | 0, _ => rfl
  | 1, _ => rfl
  | 2, _ => rfl
theorem bitsN_snoc {ds : List Nat} {i : Nat} (hi : i < ds.length) : bitsN (ds.take (i + 1)) = bitsN (ds.take i) ++ bitsOf (ds.getD i 0) := by
  rw [take_getD hi]; simp [bitsN]
theorem bitsN_length (ds : List Nat) : (bitsN ds).length = 4 * ds.length := by
  induction ds with
  | nil => rfl
  | cons d r ih => simp only [bitsN, List.flatMap_cons, List.length_append, List.length_cons] at ih ⊢; rw [ih]; simp [bitsOf]; omega
theorem c_steps {w : World} {A : Around} {s : Shared} {Q E : Value → Shared → Prop} (C : Cx 3 w A s.heap)
    {n : Nat} {tn : Tok} (hn : n < 4096)
    (h : ∀ lo vs3 k h' tk, Keeps s.heap h' → IntsAre vs3 (stepsL n) → s.heap.get? lo = none → h'.get? lo = some (listOf vs3.toArray k) → Q (.ref lo) { s with heap := h', toks := tk }) :
    wpAny (model PR w) A (call (.ref 68) [.int (n : Int) tn]) Q E s := by
  obtain ⟨X, ⟨prg, loose, mean, mg, mb, T⟩, hh, hroom, hun⟩ := C
  obtain ⟨_, dp, fr, gd, un⟩ := A
  cases hh
  replace hroom : dp + 3 < recursionLimit := hroom
  replace hun : un + 80 < cLine := hun
  refine own_call [(Str.ofString "number", .int (n : Int) tn)] X T (by k_is) (by k_is) (by (show dp < _); omega) (BindsTo.of_eq rfl) (locs rfl) (fun L h₁ tk F N => ?_) (by decide) rfl rfl rfl
  k_fold
  obtain ⟨hv, hl3, h16, h0, hcat⟩ := hexD_facts hn
  have hnum : (-(n : Int)).natAbs = val16 (hexD n) := by rw [hv]; omega
  (repeat' (first | (k_unfold; (try dsimp only)) | ((fail_if_success (with_reducible show wpAny _ _ (PySem.exec (PySem.Stmt.For _ _ _ _ _) _) _ _ _)); (fail_if_success (with_reducible show wpAny _ _ (PySem.call (PySem.Value.builtin "list.extend") _) _ _ _)); (fail_if_success (with_reducible show wpAny _ _ (PySem.pyIter _) _ _ _)); first | ((with_reducible show wpAny _ _ (binaryOp Operator.Add (Value.str _ _) (Value.str _ _)) _ _ _); (k_dflt (refine add_txt (by (rw [List.length_map, List.length_replicate]; omega)) ?_; intro _ _))) | ((with_reducible show wpAny _ _ (binaryOp Operator.Mult (Value.str _ _) (Value.int _ _)) _ _ _); (k_dflt (refine mul_lineZ (by (rw [List.length_map]; omega)) (by (rw [List.length_map]; omega)) ?_; intro _ _))) | ((k_dflt ((with_reducible show wpAny _ _ (call (Value.builtin "len") [Value.str _ _]) _ _ _); (refine len_txt (by (rw [List.length_map]; omega)) ?_)))) | ((k_dflt ((with_reducible show wpAny _ _ (call (Value.ref 61) _) _ _ _); (refine c_word (by (exact ⟨Frag.In.keeps (by assumption) (Fr.keep (by assumption)), ⟨_, _, _, _, _, Top.keeps (by assumption) (Fr.keep (by assumption))⟩, rfl, by (simp only [Around.deeper, Around.in1]; omega), by (simp only [Around.deeper, Around.in1]; omega)⟩)) (by with_reducible assumption) (by omega) (by with_reducible assumption) (by with_reducible assumption) ?_; intro _ _ _ k9q; (rename Fr _ _ _ _ => F9q); (rename News _ _ _ _ => N9q); (have F8q := Fr.keepsK F9q k9q); (have N8q := News.keepsK N9q k9q); clear F9q N9q k9q)))) | walk1 | (dsimp only; walk1) | (leave1; try dsimp only))))
  refine For_invV s.heap rfl rfl ?_
  (repeat' (first | (k_unfold; (try dsimp only)) | ((fail_if_success (with_reducible show wpAny _ _ (PySem.exec (PySem.Stmt.For _ _ _ _ _) _) _ _ _)); (fail_if_success (with_reducible show wpAny _ _ (PySem.call (PySem.Value.builtin "list.extend") _) _ _ _)); (fail_if_success (with_reducible show wpAny _ _ (PySem.pyIter _) _ _ _)); first | ((with_reducible show wpAny _ _ (binaryOp Operator.Add (Value.str _ _) (Value.str _ _)) _ _ _); (k_dflt (refine add_txt (by (rw [List.length_map, List.length_replicate]; omega)) ?_; intro _ _))) | ((with_reducible show wpAny _ _ (binaryOp Operator.Mult (Value.str _ _) (Value.int _ _)) _ _ _); (k_dflt (refine mul_lineZ (by (rw [List.length_map]; omega)) (by (rw [List.length_map]; omega)) ?_; intro _ _))) | ((k_dflt ((with_reducible show wpAny _ _ (call (Value.builtin "len") [Value.str _ _]) _ _ _); (refine len_txt (by (rw [List.length_map]; omega)) ?_)))) | ((k_dflt ((with_reducible show wpAny _ _ (call (Value.ref 61) _) _ _ _); (refine c_word (by (exact ⟨Frag.In.keeps (by assumption) (Fr.keep (by assumption)), ⟨_, _, _, _, _, Top.keeps (by assumption) (Fr.keep (by assumption))⟩, rfl, by (simp only [Around.deeper, Around.in1]; omega), by (simp only [Around.deeper, Around.in1]; omega)⟩)) (by with_reducible assumption) (by omega) (by with_reducible assumption) (by with_reducible assumption) ?_; intro _ _ _ k9q; (rename Fr _ _ _ _ => F9q); (rename News _ _ _ _ => N9q); (have F8q := Fr.keepsK F9q k9q); (have N8q := News.keepsK N9q k9q); clear F9q N9q k9q)))) | walk1 | (dsimp only; walk1) | (leave1; try dsimp only))))
  rename Fr _ _ _ _ => F1
  rename News _ _ _ _ => N1
  have hcat2 : List.replicate (3 - (((hexD n).map (fun n => 65 + n)).length : Int)).toNat 65 ++ (hexD n).map (fun n => 65 + n) = [65 + n / 256, 65 + n / 16 % 16, 65 + n % 16] := by
    rw [List.length_map, show (3 - ((hexD n).length : Int)).toNat = 3 - (hexD n).length by omega]; exact hcat
  rw [hcat2]
  refine' for_text (σ := Row) [] (fun c => [(c.l, listOf c.vs.toArray c.k)]) (fun c => [(Str.ofString "steps", .ref c.l)])
    (fun i c => IntsAre c.vs (bitsN ([n / 256, n / 16 % 16, n % 16].take i))) ⟨_, [], 0⟩ ?hh ?ha F1 N1 ?hnews ?hp0 ?hj ?turn ?done
  case hh => rfl
  case ha => simp; omega
  case hp0 => ((repeat' (first | exact List.forall_mem_nil _ | (refine List.forall_mem_cons.mpr ⟨by with_unfolding_all rfl, ?_⟩))))
  case hnews => ((repeat' (first | exact List.forall_mem_nil _ | (refine List.forall_mem_cons.mpr ⟨by k_memK, ?_⟩))))
  case hj => exact .nil
  case done =>
    clear F1 N1
    rintro ⟨lm, vm, km⟩ u6 h6 tk6 him F6 N6
    dsimp only at him F6 N6
    (repeat' (first | (k_unfold; (try dsimp only)) | ((fail_if_success (with_reducible show wpAny _ _ (PySem.exec (PySem.Stmt.For _ _ _ _ _) _) _ _ _)); (fail_if_success (with_reducible show wpAny _ _ (PySem.call (PySem.Value.builtin "list.extend") _) _ _ _)); (fail_if_success (with_reducible show wpAny _ _ (PySem.pyIter _) _ _ _)); first | ((with_reducible show wpAny _ _ (binaryOp Operator.Add (Value.str _ _) (Value.str _ _)) _ _ _); (k_dflt (refine add_txt (by (rw [List.length_map, List.length_replicate]; omega)) ?_; intro _ _))) | ((with_reducible show wpAny _ _ (binaryOp Operator.Mult (Value.str _ _) (Value.int _ _)) _ _ _); (k_dflt (refine mul_lineZ (by (rw [List.length_map]; omega)) (by (rw [List.length_map]; omega)) ?_; intro _ _))) | ((k_dflt ((with_reducible show wpAny _ _ (call (Value.builtin "len") [Value.str _ _]) _ _ _); (refine len_txt (by (rw [List.length_map]; omega)) ?_)))) | ((k_dflt ((with_reducible show wpAny _ _ (call (Value.ref 61) _) _ _ _); (refine c_word (by (exact ⟨Frag.In.keeps (by assumption) (Fr.keep (by assumption)), ⟨_, _, _, _, _, Top.keeps (by assumption) (Fr.keep (by assumption))⟩, rfl, by (simp only [Around.deeper, Around.in1]; omega), by (simp only [Around.deeper, Around.in1]; omega)⟩)) (by with_reducible assumption) (by omega) (by with_reducible assumption) (by with_reducible assumption) ?_; intro _ _ _ k9q; (rename Fr _ _ _ _ => F9q); (rename News _ _ _ _ => N9q); (have F8q := Fr.keepsK F9q k9q); (have N8q := News.keepsK N9q k9q); clear F9q N9q k9q)))) | walk1 | (dsimp only; walk1) | (leave1; try dsimp only))))
    exact h _ _ _ _ _ (Fr.keep F6) him (N6 _ (.head _)).2.2 (N6 _ (.head _)).1
  case turn =>
  clear F1 N1
  rintro i ti ⟨lm, vm, km⟩ u6 h6 tk6 I io hi him hio F6 N6 hI1 hI2
  dsimp only at him F6 N6 hI1
  have hmI : @Ne Nat lm I := hI1 _ (.head _)
  simp only [List.nil_append] at N6
  try k_fold
  (repeat' (first | (k_unfold; (try dsimp only)) | ((fail_if_success (with_reducible show wpAny _ _ (PySem.exec (PySem.Stmt.For _ _ _ _ _) _) _ _ _)); (fail_if_success (with_reducible show wpAny _ _ (PySem.call (PySem.Value.builtin "list.extend") _) _ _ _)); (fail_if_success (with_reducible show wpAny _ _ (PySem.pyIter _) _ _ _)); first | ((with_reducible show wpAny _ _ (binaryOp Operator.Add (Value.str _ _) (Value.str _ _)) _ _ _); (k_dflt (refine add_txt (by (rw [List.length_map, List.length_replicate]; omega)) ?_; intro _ _))) | ((with_reducible show wpAny _ _ (binaryOp Operator.Mult (Value.str _ _) (Value.int _ _)) _ _ _); (k_dflt (refine mul_lineZ (by (rw [List.length_map]; omega)) (by (rw [List.length_map]; omega)) ?_; intro _ _))) | ((k_dflt ((with_reducible show wpAny _ _ (call (Value.builtin "len") [Value.str _ _]) _ _ _); (refine len_txt (by (rw [List.length_map]; omega)) ?_)))) | ((k_dflt ((with_reducible show wpAny _ _ (call (Value.ref 61) _) _ _ _); (refine c_word (by (exact ⟨Frag.In.keeps (by assumption) (Fr.keep (by assumption)), ⟨_, _, _, _, _, Top.keeps (by assumption) (Fr.keep (by assumption))⟩, rfl, by (simp only [Around.deeper, Around.in1]; omega), by (simp only [Around.deeper, Around.in1]; omega)⟩)) (by with_reducible assumption) (by omega) (by with_reducible assumption) (by with_reducible assumption) ?_; intro _ _ _ k9q; (rename Fr _ _ _ _ => F9q); (rename News _ _ _ _ => N9q); (have F8q := Fr.keepsK F9q k9q); (have N8q := News.keepsK N9q k9q); clear F9q N9q k9q)))) | walk1 | (dsimp only; walk1) | (leave1; try dsimp only))))
  rename Fr _ _ _ _ => F9
  rename News _ _ _ _ => N9
  have hi3 : i < 3 := hi
  have hvm := him.length
  rw [bitsN_length, List.length_take] at hvm
  simp only [letter_at hi3] at N9
  refine' ext0 (vs := vm) (k := km) F9 N9 (.head _) ?U ?ne ?hz ?_
  case U => k_upd
  case ne => exact fun e => nomatch e
  case hz => simp only [List.length_cons, List.length_nil] at hvm ⊢; omega
  intro h8 F8 N8
  clear F9 N9
  (repeat' (first | (k_unfold; (try dsimp only)) | ((fail_if_success (with_reducible show wpAny _ _ (PySem.exec (PySem.Stmt.For _ _ _ _ _) _) _ _ _)); (fail_if_success (with_reducible show wpAny _ _ (PySem.call (PySem.Value.builtin "list.extend") _) _ _ _)); (fail_if_success (with_reducible show wpAny _ _ (PySem.pyIter _) _ _ _)); first | ((with_reducible show wpAny _ _ (binaryOp Operator.Add (Value.str _ _) (Value.str _ _)) _ _ _); (k_dflt (refine add_txt (by (rw [List.length_map, List.length_replicate]; omega)) ?_; intro _ _))) | ((with_reducible show wpAny _ _ (binaryOp Operator.Mult (Value.str _ _) (Value.int _ _)) _ _ _); (k_dflt (refine mul_lineZ (by (rw [List.length_map]; omega)) (by (rw [List.length_map]; omega)) ?_; intro _ _))) | ((k_dflt ((with_reducible show wpAny _ _ (call (Value.builtin "len") [Value.str _ _]) _ _ _); (refine len_txt (by (rw [List.length_map]; omega)) ?_)))) | ((k_dflt ((with_reducible show wpAny _ _ (call (Value.ref 61) _) _ _ _); (refine c_word (by (exact ⟨Frag.In.keeps (by assumption) (Fr.keep (by assumption)), ⟨_, _, _, _, _, Top.keeps (by assumption) (Fr.keep (by assumption))⟩, rfl, by (simp only [Around.deeper, Around.in1]; omega), by (simp only [Around.deeper, Around.in1]; omega)⟩)) (by with_reducible assumption) (by omega) (by with_reducible assumption) (by with_reducible assumption) ?_; intro _ _ _ k9q; (rename Fr _ _ _ _ => F9q); (rename News _ _ _ _ => N9q); (have F8q := Fr.keepsK F9q k9q); (have N8q := News.keepsK N9q k9q); clear F9q N9q k9q)))) | walk1 | (dsimp only; walk1) | (leave1; try dsimp only))))
  refine' TurnP.next ⟨lm, _, km + 1⟩ F8 N8 ?n ?c ?hp ?P
  case hp => ((repeat' (first | exact List.forall_mem_nil _ | (refine List.forall_mem_cons.mpr ⟨by with_unfolding_all rfl, ?_⟩))))
  case n => ((repeat' (first | exact List.forall_mem_nil _ | (refine List.forall_mem_cons.mpr ⟨by k_memK, ?_⟩))))
  case c => rw [hio]; exact List.forall_mem_cons.mpr ⟨(show Value.type "list" ≠ Value.type "str_ascii_iterator" by decide), List.forall_mem_nil _⟩
  case P =>
    dsimp only
    rw [bitsN_snoc hi3, ← bits_is]
    exact IntsAre.append him (.cons _ _ (.cons _ _ (.cons _ _ (.cons _ _ .nil))))
end Mine
end
section
open PySem PySem.W PyProof.Rows PySem.Calls PySem.Spec
set_option maxRecDepth 100000
set_option maxHeartbeats 8000000
namespace Mine
theorem fill_C2shuf : PySem.Challenge.rw_sc0035_02.foot = 6 ∧ hd.heap_39 = hd.heap_39 := by
  w_top off
  k_fill
  exact ⟨rfl, rfl⟩
def pairF (s : Nat) (ns : List Int) (k : Nat) : List Int := if s = 0 then [ns.getD k 0, ns.getD (k + 4) 0] else [ns.getD (k + 4) 0, ns.getD k 0]
def shufN (s : Nat) (ns : List Int) : Nat → List Int
  | 0 => []
  | k + 1 => shufN s ns k ++ pairF s ns k
def shufF (s : Nat) (ns : List Int) : List Int := shufN s ns 4
theorem shufN_length (s : Nat) (ns : List Int) : ∀ k, (shufN s ns k).length = 2 * k
  | 0 => rfl
  | k + 1 => by
    rw [shufN, List.length_append, shufN_length s ns k]
    unfold pairF
    split <;> simp <;> omega
theorem half_lo {ns : List Int} {i : Nat} (hi : i < 4) : (ns.take 4).getD (Int.toNat (i : Int)) 0 = ns.getD i 0 := by
  rw [Int.toNat_natCast, List.getD_eq_getElem?_getD, List.getElem?_take_of_lt hi, ← List.getD_eq_getElem?_getD]
theorem half_hi {ns : List Int} {i : Nat} : (ns.drop 4).getD (Int.toNat (i : Int)) 0 = ns.getD (i + 4) 0 := by
  rw [Int.toNat_natCast, List.getD_eq_getElem?_getD, List.getElem?_drop, ← List.getD_eq_getElem?_getD, Nat.add_comm]
theorem sh0 {b i : Nat} {ns : List Int} (hi : i < 4) (h : (b : Int) = 0) : shufN b ns (i + 1) = shufN b ns i ++ [(ns.take 4).getD (Int.toNat (i : Int)) 0, (ns.drop 4).getD (Int.toNat (i : Int)) 0] := by
  rw [half_lo hi, half_hi, shufN, pairF, if_pos (by omega)]
theorem sh1 {b i : Nat} {ns : List Int} (hi : i < 4) (h : (b : Int) ≠ 0) : shufN b ns (i + 1) = shufN b ns i ++ [(ns.drop 4).getD (Int.toNat (i : Int)) 0, (ns.take 4).getD (Int.toNat (i : Int)) 0] := by
  rw [half_lo hi, half_hi, shufN, pairF, if_neg (by omega)]
structure SU where
  (lu ll : Addr) (vu vl : List Value)
theorem c_shuf {w : World} {A : Around} {s : Shared} {Q E : Value → Shared → Prop} (C : Cx 2 w A s.heap)
    {l : Addr} {vs : List Value} {ns : List Int} {b : Nat} {tb : Tok} (hl : s.heap.IsList l vs.toArray) (hi : IntsAre vs ns) (hlen : ns.length = 8) (hb : b < 2)
    (h : ∀ lo vs3 k h' tk, Keeps s.heap h' → IntsAre vs3 (shufF b ns) → s.heap.get? lo = none → h'.get? lo = some (listOf vs3.toArray k) → Q (.ref lo) { s with heap := h', toks := tk }) :
    wpAny (model PR w) A (call (.ref 75) [.ref l, .int (b : Int) tb]) Q E s := by
  obtain ⟨X, ⟨prg, loose, mean, mg, mb, T⟩, hh, hroom, hun⟩ := C
  obtain ⟨_, dp, fr, gd, un⟩ := A
  cases hh
  replace hroom : dp + 2 < recursionLimit := hroom
  replace hun : un + 60 < cLine := hun
  refine own_call [(Str.ofString "cards", .ref l), (Str.ofString "step", .int (b : Int) tb)] X T (by k_is) (by k_is) (by (show dp < _); omega) (BindsTo.of_eq rfl) (locs rfl) (fun L h₁ tk F N => ?_) (by decide) rfl rfl rfl
  k_fold
  have hvl := hi.length
  refine execs_mid (σ := SU) (L := L) s.heap (fun c => [(c.ll, listOf c.vl.toArray 0), (c.lu, listOf c.vu.toArray 0)]) (fun c => [(Str.ofString "upper", .ref c.lu), (Str.ofString "lower", .ref c.ll), (Str.ofString "step", .int (b : Int) tb)])
    (fun c => IntsAre c.vu (ns.take 4) ∧ IntsAre c.vl (ns.drop 4)) ?g1 ?g2
  case g1 =>
    (repeat' (first | (k_unfold; (try dsimp only)) | ((fail_if_success (with_reducible show wpAny _ _ (PySem.exec (PySem.Stmt.For _ _ _ _ _) _) _ _ _)); (fail_if_success (with_reducible show wpAny _ _ (PySem.call (PySem.Value.builtin "list.extend") _) _ _ _)); (fail_if_success (with_reducible show wpAny _ _ (PySem.pyIter _) _ _ _)); first | ((k_dflt ((with_reducible show wpAny _ _ (call (Value.type _) [Value.int _ _, Value.int _ _]) _ _ _); (refine rng2 (by assumption) (by assumption) ?_); intro _ _ _ _ _ _ _ _ _))) | walk1 | (dsimp only; walk1) | (leave1; try dsimp only))))
    refine' ExitW.here ⟨_, _, _, _⟩ ?F1 ?N1 ?n1 ?hp1 ⟨?P1, ?P2⟩
    case F1 => assumption
    case N1 => assumption
    case hp1 => ((repeat' (first | exact List.forall_mem_nil _ | (refine List.forall_mem_cons.mpr ⟨by with_unfolding_all rfl, ?_⟩))))
    case n1 => ((repeat' (first | exact List.forall_mem_nil _ | (refine List.forall_mem_cons.mpr ⟨by k_memK, ?_⟩))))
    case P1 => assumption
    case P2 => assumption
  case g2 =>
  clear F N
  rintro ⟨lu, ll, vu, vl⟩ u h5 tk5 ⟨hiu, hil⟩ F N
  dsimp only at hiu hil F N
  (repeat' (first | (k_unfold; (try dsimp only)) | ((fail_if_success (with_reducible show wpAny _ _ (PySem.exec (PySem.Stmt.For _ _ _ _ _) _) _ _ _)); (fail_if_success (with_reducible show wpAny _ _ (PySem.call (PySem.Value.builtin "list.extend") _) _ _ _)); (fail_if_success (with_reducible show wpAny _ _ (PySem.pyIter _) _ _ _)); first | ((k_dflt ((with_reducible show wpAny _ _ (call (Value.type _) [Value.int _ _, Value.int _ _]) _ _ _); (refine rng2 (by assumption) (by assumption) ?_); intro _ _ _ _ _ _ _ _ _))) | walk1 | (dsimp only; walk1) | (leave1; try dsimp only))))
  refine For_invV s.heap rfl rfl ?_
  (repeat' (first | (k_unfold; (try dsimp only)) | ((fail_if_success (with_reducible show wpAny _ _ (PySem.exec (PySem.Stmt.For _ _ _ _ _) _) _ _ _)); (fail_if_success (with_reducible show wpAny _ _ (PySem.call (PySem.Value.builtin "list.extend") _) _ _ _)); (fail_if_success (with_reducible show wpAny _ _ (PySem.pyIter _) _ _ _)); first | ((k_dflt ((with_reducible show wpAny _ _ (call (Value.type _) [Value.int _ _, Value.int _ _]) _ _ _); (refine rng2 (by assumption) (by assumption) ?_); intro _ _ _ _ _ _ _ _ _))) | walk1 | (dsimp only; walk1) | (leave1; try dsimp only))))
  rename Fr _ _ _ _ => F1
  rename News _ _ _ _ => N1
  have htl : (ns.take 4).length = 4 := by rw [List.length_take]; omega
  have hdl : (ns.drop 4).length = 4 := by rw [List.length_drop]; omega
  refine' for_range (σ := Row) 4 (fun i => (i : Int)) [(ll, listOf vl.toArray 0), (lu, listOf vu.toArray 0)] (fun c => [(c.l, listOf c.vs.toArray c.k)]) (fun c => [(Str.ofString "mixed", .ref c.l), (Str.ofString "upper", .ref lu), (Str.ofString "lower", .ref ll), (Str.ofString "step", .int (b : Int) tb)])
    (fun i c => IntsAre c.vs (shufN b ns i) ∧ @LT.lt Nat _ lu c.l ∧ @LT.lt Nat _ ll c.l) ⟨_, [], 0⟩ ?hh ?hr ?hs ?hn ?hg F1 N1 ?hnews ?hp0 ?hj ?turn ?done
  case hh => rfl
  case hr => assumption
  case hs => decide
  case hn => decide
  case hg => intro i; omega
  case hp0 => ((repeat' (first | exact List.forall_mem_nil _ | (refine List.forall_mem_cons.mpr ⟨by with_unfolding_all rfl, ?_⟩))))
  case hnews => ((repeat' (first | exact List.forall_mem_nil _ | (refine List.forall_mem_cons.mpr ⟨by k_memK, ?_⟩))))
  case hj => (dsimp only; exact ⟨.nil, by omega, by omega⟩)
  case done =>
    clear F1 N1
    rintro ⟨lm, vm, km⟩ u6 h6 tk6 ⟨him, -, -⟩ F6 N6
    dsimp only at him F6 N6
    (repeat' (first | (k_unfold; (try dsimp only)) | ((fail_if_success (with_reducible show wpAny _ _ (PySem.exec (PySem.Stmt.For _ _ _ _ _) _) _ _ _)); (fail_if_success (with_reducible show wpAny _ _ (PySem.call (PySem.Value.builtin "list.extend") _) _ _ _)); (fail_if_success (with_reducible show wpAny _ _ (PySem.pyIter _) _ _ _)); first | ((k_dflt ((with_reducible show wpAny _ _ (call (Value.type _) [Value.int _ _, Value.int _ _]) _ _ _); (refine rng2 (by assumption) (by assumption) ?_); intro _ _ _ _ _ _ _ _ _))) | walk1 | (dsimp only; walk1) | (leave1; try dsimp only))))
    exact h _ _ _ _ _ (Fr.keep F6) him (N6 _ (.tail _ (.tail _ (.head _)))).2.2 (N6 _ (.tail _ (.tail _ (.head _)))).1
  case turn =>
  clear F1 N1
  rintro i ti ⟨lm, vm, km⟩ u6 h6 tk6 I io hi ⟨him, hlu, hll⟩ hio F6 N6 hI1 hI2
  dsimp only at him hlu hll F6 N6 hI1
  have hmI : @Ne Nat lm I := hI1 _ (.head _)
  simp only [List.cons_append, List.nil_append] at N6
  have hvm := him.length
  rw [shufN_length] at hvm
  try k_fold
  (repeat' (first | (k_unfold; (try dsimp only)) | ((fail_if_success (with_reducible show wpAny _ _ (PySem.exec (PySem.Stmt.For _ _ _ _ _) _) _ _ _)); (fail_if_success (with_reducible show wpAny _ _ (PySem.call (PySem.Value.builtin "list.extend") _) _ _ _)); (fail_if_success (with_reducible show wpAny _ _ (PySem.pyIter _) _ _ _)); first | ((k_dflt ((with_reducible show wpAny _ _ (call (Value.type _) [Value.int _ _, Value.int _ _]) _ _ _); (refine rng2 (by assumption) (by assumption) ?_); intro _ _ _ _ _ _ _ _ _))) | walk1 | (dsimp only; walk1) | (leave1; try dsimp only))))
  all_goals
    rename Fr _ _ _ _ => F9
    rename News _ _ _ _ => N9
    refine' ext0 (vs := vm) (k := km) F9 N9 (.head _) ?U ?ne ?hz ?_
    case U => k_upd
    case ne => exact fun e => nomatch e
    case hz => simp only [List.length_cons, List.length_nil]; omega
    intro h8 F8 N8
    clear F9 N9
    (repeat' (first | (k_unfold; (try dsimp only)) | ((fail_if_success (with_reducible show wpAny _ _ (PySem.exec (PySem.Stmt.For _ _ _ _ _) _) _ _ _)); (fail_if_success (with_reducible show wpAny _ _ (PySem.call (PySem.Value.builtin "list.extend") _) _ _ _)); (fail_if_success (with_reducible show wpAny _ _ (PySem.pyIter _) _ _ _)); first | ((k_dflt ((with_reducible show wpAny _ _ (call (Value.type _) [Value.int _ _, Value.int _ _]) _ _ _); (refine rng2 (by assumption) (by assumption) ?_); intro _ _ _ _ _ _ _ _ _))) | walk1 | (dsimp only; walk1) | (leave1; try dsimp only))))
    refine' TurnP.next ⟨lm, _, km + 1⟩ F8 N8 ?n ?c ?hp ?P
    case hp => ((repeat' (first | exact List.forall_mem_nil _ | (refine List.forall_mem_cons.mpr ⟨by with_unfolding_all rfl, ?_⟩))))
    case n => ((repeat' (first | exact List.forall_mem_nil _ | (refine List.forall_mem_cons.mpr ⟨by k_memK, ?_⟩))))
    case c => rw [hio]; exact List.forall_mem_cons.mpr ⟨(show Value.type "list" ≠ Value.type "range_iterator" by decide), List.forall_mem_nil _⟩
    case P =>
      refine ⟨?_, hlu, hll⟩
      first
        | (rw [sh0 hi (by assumption)]; exact IntsAre.append him (.cons _ _ (.cons _ _ .nil)))
        | (rw [sh1 hi (by assumption)]; exact IntsAre.append him (.cons _ _ (.cons _ _ .nil)))
end Mine
end
section
open PySem PySem.W PyProof.Rows PySem.Calls PySem.Spec PySem.Flt
set_option maxRecDepth 100000
set_option maxHeartbeats 8000000
namespace Mine
/-- what is told of a part painted, and how many steps from red it is on the wheel -/
def tellB (sa va : UInt64) (wh : Nat) (x : UInt64) : Option (UInt64 × UInt64 × UInt64 × UInt64 × UInt64 × UInt64 × Int) :=
  match hsvF x sa va with
  | none => none
  | some (R, G, B) =>
    match rgbF R G B with
    | none => none
    | some (H, S, V) =>
      if (isEq S sa && isEq V va && Float64.isFinite (hueI H wh) && decide ((Flt.toInt Float64.truncOf (hueI H wh)).natAbs < 2 ^ 64)) = true then some (R, G, B, H, S, V, Flt.toInt Float64.truncOf (hueI H wh)) else none
def dbl (H : UInt64) : UInt64 := Float64.mul (Float64.ofInt 2) H
def shP (s p : Nat) : Nat := if s = 0 then (if p < 4 then 2 * p else 2 * (p - 4) + 1) else (if p < 4 then 2 * p + 1 else 2 * (p - 4))
def twiceB (sa va : UInt64) (s p : Nat) : Bool :=
  match tellB sa va (7 + 2 * s) (fq (p + s) (7 + 2 * s)) with
  | none => false
  | some (_, _, _, H, _, _, k) =>
    match tellB sa va (7 + 2 * s) (dbl H) with
    | none => false
    | some (_, _, _, _, _, _, k2) => decide ((k - ((p + s : Nat) : Int)).fmod ((7 + 2 * s : Nat) : Int) = 0) && decide ((k2 - ((shP s p + s : Nat) : Int)).fmod ((7 + 2 * s : Nat) : Int) = 0)
def rowB (a b s : Nat) : Bool := (List.range 8).all fun p => twiceB (fq (a + 1) 4) (fq (b + 1) 4) s p
/-- a card's place, painted, told, doubled, painted, told -/
def Told (sa va : UInt64) (wh : Nat) (x : UInt64) (H : UInt64) (k : Int) : Prop := ∃ R G B S V, hsvF x sa va = some (R, G, B) ∧ rgbF R G B = some (H, S, V) ∧ isEq S sa = true ∧ isEq V va = true ∧
  Float64.isFinite (hueI H wh) = true ∧ (Flt.toInt Float64.truncOf (hueI H wh)).natAbs < 2 ^ 64 ∧ Flt.toInt Float64.truncOf (hueI H wh) = k
theorem tell_of {sa va : UInt64} {wh : Nat} {x R G B H S V : UInt64} {k : Int} (h : tellB sa va wh x = some (R, G, B, H, S, V, k)) : Told sa va wh x H k := by
  unfold tellB at h
  split at h
  · cases h
  rename_i R' G' B' e1
  split at h
  · cases h
  rename_i H' S' V' e2
  split at h
  · rename_i hc
    simp only [Bool.and_eq_true, decide_eq_true_eq] at hc
    injection h with h
    simp only [Prod.mk.injEq] at h
    obtain ⟨rfl, rfl, rfl, rfl, rfl, rfl, h7⟩ := h
    exact ⟨_, _, _, _, _, e1, e2, hc.1.1.1, hc.1.1.2, hc.1.2, hc.2, h7⟩
  · cases h
theorem twice_of {sa va : UInt64} {s p : Nat} (h : twiceB sa va s p = true) : ∃ H k H2 k2, Told sa va (7 + 2 * s) (fq (p + s) (7 + 2 * s)) H k ∧ Told sa va (7 + 2 * s) (dbl H) H2 k2 ∧
    (k - ((p + s : Nat) : Int)).fmod ((7 + 2 * s : Nat) : Int) = 0 ∧ (k2 - ((shP s p + s : Nat) : Int)).fmod ((7 + 2 * s : Nat) : Int) = 0 := by
  unfold twiceB at h
  split at h
  · cases h
  rename_i e1
  split at h
  · cases h
  rename_i e2
  simp only [Bool.and_eq_true, decide_eq_true_eq] at h
  exact ⟨_, _, _, _, tell_of e1, tell_of e2, h.1, h.2⟩
theorem rw000 : rowB 0 0 0 = true := by decide +kernel
theorem rw001 : rowB 0 0 1 = true := by decide +kernel
theorem rw010 : rowB 0 1 0 = true := by decide +kernel
theorem rw011 : rowB 0 1 1 = true := by decide +kernel
theorem rw020 : rowB 0 2 0 = true := by decide +kernel
theorem rw021 : rowB 0 2 1 = true := by decide +kernel
theorem rw030 : rowB 0 3 0 = true := by decide +kernel
theorem rw031 : rowB 0 3 1 = true := by decide +kernel
theorem rw100 : rowB 1 0 0 = true := by decide +kernel
theorem rw101 : rowB 1 0 1 = true := by decide +kernel
theorem rw110 : rowB 1 1 0 = true := by decide +kernel
theorem rw111 : rowB 1 1 1 = true := by decide +kernel
theorem rw120 : rowB 1 2 0 = true := by decide +kernel
theorem rw121 : rowB 1 2 1 = true := by decide +kernel
theorem rw130 : rowB 1 3 0 = true := by decide +kernel
theorem rw131 : rowB 1 3 1 = true := by decide +kernel
theorem rw200 : rowB 2 0 0 = true := by decide +kernel
theorem rw201 : rowB 2 0 1 = true := by decide +kernel
theorem rw210 : rowB 2 1 0 = true := by decide +kernel
theorem rw211 : rowB 2 1 1 = true := by decide +kernel
theorem rw220 : rowB 2 2 0 = true := by decide +kernel
theorem rw221 : rowB 2 2 1 = true := by decide +kernel
theorem rw230 : rowB 2 3 0 = true := by decide +kernel
theorem rw231 : rowB 2 3 1 = true := by decide +kernel
theorem rw300 : rowB 3 0 0 = true := by decide +kernel
theorem rw301 : rowB 3 0 1 = true := by decide +kernel
theorem rw310 : rowB 3 1 0 = true := by decide +kernel
theorem rw311 : rowB 3 1 1 = true := by decide +kernel
theorem rw320 : rowB 3 2 0 = true := by decide +kernel
theorem rw321 : rowB 3 2 1 = true := by decide +kernel
theorem rw330 : rowB 3 3 0 = true := by decide +kernel
theorem rw331 : rowB 3 3 1 = true := by decide +kernel
theorem row_all : ∀ a b s : Nat, a < 4 → b < 4 → s < 2 → rowB a b s = true
  | 0, 0, 0, _, _, _ => rw000
  | 0, 0, 1, _, _, _ => rw001
  | 0, 1, 0, _, _, _ => rw010
  | 0, 1, 1, _, _, _ => rw011
  | 0, 2, 0, _, _, _ => rw020
  | 0, 2, 1, _, _, _ => rw021
  | 0, 3, 0, _, _, _ => rw030
  | 0, 3, 1, _, _, _ => rw031
  | 1, 0, 0, _, _, _ => rw100
  | 1, 0, 1, _, _, _ => rw101
  | 1, 1, 0, _, _, _ => rw110
  | 1, 1, 1, _, _, _ => rw111
  | 1, 2, 0, _, _, _ => rw120
  | 1, 2, 1, _, _, _ => rw121
  | 1, 3, 0, _, _, _ => rw130
  | 1, 3, 1, _, _, _ => rw131
  | 2, 0, 0, _, _, _ => rw200
  | 2, 0, 1, _, _, _ => rw201
  | 2, 1, 0, _, _, _ => rw210
  | 2, 1, 1, _, _, _ => rw211
  | 2, 2, 0, _, _, _ => rw220
  | 2, 2, 1, _, _, _ => rw221
  | 2, 3, 0, _, _, _ => rw230
  | 2, 3, 1, _, _, _ => rw231
  | 3, 0, 0, _, _, _ => rw300
  | 3, 0, 1, _, _, _ => rw301
  | 3, 1, 0, _, _, _ => rw310
  | 3, 1, 1, _, _, _ => rw311
  | 3, 2, 0, _, _, _ => rw320
  | 3, 2, 1, _, _, _ => rw321
  | 3, 3, 0, _, _, _ => rw330
  | 3, 3, 1, _, _, _ => rw331
  | a + 4, _, _, h, _, _ => by omega
  | _, b + 4, _, _, h, _ => by omega
  | _, _, s + 2, _, _, h => by omega
theorem twice_all {a b s p : Nat} (ha : a < 4) (hb : b < 4) (hs : s < 2) (hp : p < 8) : ∃ H k H2 k2, Told (fq (a + 1) 4) (fq (b + 1) 4) (7 + 2 * s) (fq (p + s) (7 + 2 * s)) H k ∧ Told (fq (a + 1) 4) (fq (b + 1) 4) (7 + 2 * s) (dbl H) H2 k2 ∧
    (k - ((p + s : Nat) : Int)).fmod ((7 + 2 * s : Nat) : Int) = 0 ∧ (k2 - ((shP s p + s : Nat) : Int)).fmod ((7 + 2 * s : Nat) : Int) = 0 :=
  twice_of (List.all_eq_true.mp (row_all a b s ha hb hs) p (List.mem_range.mpr hp))
end Mine
end
section
open PySem PySem.W PyProof.Rows PySem.Calls PySem.Spec
set_option maxRecDepth 100000
set_option maxHeartbeats 8000000
namespace Mine
theorem inf_q : ∀ a : Nat, a < 4 → ¬ Float64.isInf (fq (a + 1) 4) = true := by decide +kernel
theorem div_q {prog : Program} {w : World} {A : Around} {E : Value → Shared → Prop} {s : Shared} {z : Int} {t u : Tok} {Q : Value → Shared → Prop} (a : Nat) (ha : a < 4) (hz : z + 1 = ((a + 1 : Nat) : Int))
    (h : Q (.float (fq (a + 1) 4) s.toks) { s with toks := s.toks + 1 }) : wpAny (model prog w) A (binaryOp .Div (.int (z + 1) t) (.int 4 u)) Q E s := by
  have e := fq_of (a := z + 1) (b := 4) (p := a + 1) (q := 4) hz rfl
  refine AutoIntOps.truediv_2 (by decide) ?_ ?_
  · rw [e]; exact inf_q a ha
  · rw [e]; exact h
theorem div_q2 {prog : Program} {w : World} {A : Around} {E : Value → Shared → Prop} {s : Shared} {z : Int} {t u : Tok} {Q : Value → Shared → Prop} (hz : 0 ≤ z ∧ z < 4)
    (h : Q (.float (fq (z.toNat + 1) 4) s.toks) { s with toks := s.toks + 1 }) : wpAny (model prog w) A (binaryOp .Div (.int (z + 1) t) (.int 4 u)) Q E s :=
  div_q z.toNat (by omega) (by omega) h
theorem fmod4 (z : Int) : 0 ≤ z.fmod 4 ∧ z.fmod 4 < 4 := ⟨Int.fmod_nonneg_of_pos z (by decide), Int.fmod_lt_of_pos z (by decide)⟩
end Mine
end
section
open PySem PySem.W PyProof.Rows PySem.Calls PySem.Spec
set_option maxRecDepth 100000
set_option maxHeartbeats 8000000
namespace Mine
def castsI (l : List Nat) : List Int := l.map fun (n : Nat) => (n : Int)
theorem castsI_length (a : List Nat) : (castsI a).length = a.length := List.length_map _
theorem mem_casts {a : List Nat} {z : Int} : z ∈ castsI a ↔ ∃ x ∈ a, ((x : Nat) : Int) = z := by simp [castsI]
theorem fmod4L (z : Int) : (z.fmod 4).toNat < 4 := by have := fmod4 z; omega
theorem News.addMany {h₀ h h' : Heap} {L : Addr} {m : Str → Option Value} {news more : List (Addr × Obj)} (F : Fr h₀ L h m) (N : News h₀ L h news) (k : Keeps h h') (hm : ∀ p ∈ more, h.get? p.1 = none ∧ h'.get? p.1 = some p.2) : News h₀ L h' (news ++ more) := by
  intro p hp
  rcases List.mem_append.mp hp with q | q
  · exact News.keepsK N k p q
  · exact News.addK F N k (hm p q).1 (hm p q).2 _ (.head _)
theorem ne_made {h₀ h : Heap} {L a b : Addr} {o : Obj} {news : List (Addr × Obj)} (N : News h₀ L h news) (hm : (a, o) ∈ news) (hb : h.get? b = none) : b ≠ a := by
  rintro rfl
  have := (N _ hm).1
  rw [hb] at this
  cases this
theorem at_listE {prog : Program} {w : World} {A : Around} {E : Value → Shared → Prop} {s : Shared} {Q : Value → Shared → Prop} {value slice : PySem.Expr} {l : Addr} {vs : List Value} {ns : List Int} {i z : Int} {p : Nat} {u : Tok} (hl : s.heap.IsList l vs.toArray) (hi : IntsAre vs ns) (he : ns.getD p 0 = z) (hp : i = (p : Int)) (hlt : p < ns.length) (hz : ns.length ≤ 1000)
    (h : ∀ t, Q (.int z t) s)
    (hs : subscripted slice false (.ref l) (.int i u) = operate [.ref l, .int i u] (getItem (.ref l) (.int i u)) := by with_unfolding_all rfl) :
    wpAny (model prog w) A (subscriptTail value slice (.ref l) (.int i u)) Q E s :=
  at_list hl hi hp hlt hz (fun t => by rw [he]; exact h t) hs
theorem ne_same {prog : Program} {w : World} {A : Around} {E : Value → Shared → Prop} {s : Shared} {Q : Value → Shared → Prop} {b : Array UInt8} {t u : Tok} (h : Q (.bool false) s) : wpAny (model prog w) A (compareOp .NotEq (.bytes b t) (.bytes b u)) Q E s := by
  refine ne_bytes ?_
  rw [bne_self_eq_false]; exact h
theorem arr_ap {ds : List Nat} : byteArr ((castsI ds).map fun n => 65 + n) = ap ds := by
  unfold byteArr ap castsI
  simp only [List.map_map]
  exact congrArg _ (List.map_congr_left fun d _ => by simp only [Function.comp]; rw [show (65 + (d : Int)).toNat = 65 + d by omega])
theorem in_ap {ds : List Nat} (h : ∀ d ∈ ds, d < 16) : KBa.In ((castsI ds).map fun n => 65 + n) := by
  intro z hz
  obtain ⟨y, hy, rfl⟩ := List.mem_map.mp hz
  obtain ⟨x, hx, rfl⟩ := mem_casts.mp hy
  have := h x hx
  omega
theorem num_cards (ds : List Nat) : ((castsI ds).foldl (fun a n => 16 * a + n) 0).natAbs = val16 ds := by
  have := val16_fold ds
  unfold castsI
  rw [this]; simp
theorem num_minus (ds : List Nat) : (-((castsI ds).foldl (fun a n => 16 * a + n) 0)).natAbs = val16 ds := by
  rw [Int.natAbs_neg, num_cards]
theorem head_pos {ds : List Nat} (h : ∀ d ∈ ds, 1 ≤ d ∧ d < 16) : ds.head? ≠ some 0 := by
  intro e
  have := (h 0 (List.mem_of_mem_head? e)).1
  omega
theorem ne_bsame {prog : Program} {w : World} {A : Around} {E : Value → Shared → Prop} {s : Shared} {Q : Value → Shared → Prop} {b : Bool} (h : Q (.bool false) s) : wpAny (model prog w) A (compareOp .NotEq (.bool b) (.bool b)) Q E s := by
  refine ne_bool ?_
  rw [bne_self_eq_false]; exact h
section
variable {prog : Program} {w : World} {A : Around} {E : Value → Shared → Prop} {s : Shared} {h₀ : Heap} {L : Addr} {m : Str → Option Value} {news : List (Addr × Obj)} {Q : Value → Shared → Prop} {value slice : PySem.Expr}
theorem keeps_push2 {h : Heap} {o o2 : Obj} : Keeps h ((h.push o).push o2) := fun _ _ e => Heap.get?_push_of_some _ (Heap.get?_push_of_some _ e)
theorem at_listZ {l : Addr} {vs : List Value} {ns : List Int} {i : Int} {u : Tok} (hl : s.heap.IsList l vs.toArray) (hi : IntsAre vs ns) (h0 : 0 ≤ i) (hlt : i < (ns.length : Int)) (hz : ns.length ≤ 1000)
    (h : ∀ t, Q (.int (ns.getD i.toNat 0) t) s)
    (hs : subscripted slice false (.ref l) (.int i u) = operate [.ref l, .int i u] (getItem (.ref l) (.int i u)) := by with_unfolding_all rfl) :
    wpAny (model prog w) A (subscriptTail value slice (.ref l) (.int i u)) Q E s :=
  at_list hl hi (p := i.toNat) (by omega) (by omega) hz h hs
theorem dupl {h : Heap} {p : Addr × Obj} (N : News h₀ L h news) (hm : p ∈ news) : News h₀ L h (p :: news) := fun q hq => by
  rcases List.mem_cons.mp hq with rfl | hq
  · exact N _ hm
  · exact N q hq
end
end Mine
end
section
open PySem PySem.W PyProof.Rows PySem.Calls PySem.Spec
set_option maxRecDepth 100000
set_option maxHeartbeats 8000000
namespace Mine
def pairP (s : Nat) (p : List Nat) (k : Nat) : List Nat := if s = 0 then [p.getD k 0, p.getD (k + 4) 0] else [p.getD (k + 4) 0, p.getD k 0]
def shufPN (s : Nat) (p : List Nat) : Nat → List Nat
  | 0 => []
  | k + 1 => shufPN s p k ++ pairP s p k
def shufP (s : Nat) (p : List Nat) : List Nat := shufPN s p 4
def deckI (ds p : List Nat) : List Int := p.map fun i => ((ds.getD i 0 : Nat) : Int)
theorem deckI_getD {ds p : List Nat} {k : Nat} (h : k < p.length) : (deckI ds p).getD k 0 = ((ds.getD (p.getD k 0) 0 : Nat) : Int) := by
  simp [deckI, List.getD_eq_getElem?_getD, h]
theorem shuf_deck {ds p : List Nat} {s : Nat} (h : p.length = 8) : shufF s (deckI ds p) = deckI ds (shufP s p) := by
  have g : ∀ k, k < 8 → (deckI ds p).getD k 0 = ((ds.getD (p.getD k 0) 0 : Nat) : Int) := fun k hk => deckI_getD (by omega)
  have q : ∀ k, k < 4 → pairF s (deckI ds p) k = deckI ds (pairP s p k) := by
    intro k hk
    unfold pairF pairP
    split
    · rw [g k (by omega), g (k + 4) (by omega)]; rfl
    · rw [g k (by omega), g (k + 4) (by omega)]; rfl
  have n : ∀ k, k ≤ 4 → shufN s (deckI ds p) k = deckI ds (shufPN s p k) := by
    intro k
    induction k with
    | zero => intro _; rfl
    | succ k ih =>
      intro hk
      rw [shufN, shufPN, ih (by omega), q k (by omega)]
      unfold deckI
      rw [List.map_append]
  exact n 4 (by omega)
theorem range_map {p : List Nat} (h : p.length = 8) : (List.range 8).map (fun i => p.getD i 0) = p := by
  apply List.ext_getElem (by simp [h])
  intro i h1 h2
  simp [List.getD_eq_getElem?_getD, h2]
theorem shufP_map {s : Nat} {p : List Nat} : shufP s p = (shufP s (List.range 8)).map fun i => p.getD i 0 := by
  unfold shufP
  simp only [shufPN, pairP]
  split <;> simp [List.range, List.range.loop]
theorem shuf_idx : ∀ s : Nat, s < 2 → (shufP s (List.range 8)).Perm (List.range 8) := by decide
theorem shuf_at : ∀ s : Nat, s < 2 → ∀ p : Nat, p < 8 → (shufP s (List.range 8)).getD (shP s p) 0 = p ∧ shP s p < 8 := by decide
theorem shufP_perm {s : Nat} {p : List Nat} (hs : s < 2) (h : p.length = 8) : (shufP s p).Perm p := by
  rw [shufP_map]
  have := (shuf_idx s hs).map fun i => p.getD i 0
  rwa [range_map h] at this
theorem shufP_at {s q : Nat} {p : List Nat} (hs : s < 2) (hq : q < 8) : (shufP s p).getD (shP s q) 0 = p.getD q 0 := by
  obtain ⟨h1, h2⟩ := shuf_at s hs q hq
  have hl : shP s q < (shufP s (List.range 8)).length := by rw [(shuf_idx s hs).length_eq]; simpa using h2
  rw [shufP_map, List.getD_eq_getElem?_getD, List.getElem?_map, List.getElem?_eq_getElem hl]
  rw [List.getD_eq_getElem?_getD, List.getElem?_eq_getElem hl] at h1
  simp only [Option.getD_some] at h1
  simp [h1]
/-- a shuffle of the row -/
def sb (N t : Nat) : Nat := N / 2 ^ (11 - t) % 2
theorem sb_lt (N t : Nat) : sb N t < 2 := Nat.mod_lt _ (by decide)
theorem steps_at {N t : Nat} (hN : N < 4096) (ht : t < 12) : (stepsL N).getD t 0 = ((sb N t : Nat) : Int) := by
  unfold sb
  match t, ht with
  | 0, _ => simp [stepsL, bitsN, bitsOf]; try omega
  | 1, _ => simp [stepsL, bitsN, bitsOf]; try omega
  | 2, _ => simp [stepsL, bitsN, bitsOf]; try omega
  | 3, _ => simp [stepsL, bitsN, bitsOf]; try omega
  | 4, _ => simp [stepsL, bitsN, bitsOf]; try omega
  | 5, _ => simp [stepsL, bitsN, bitsOf]; try omega
  | 6, _ => simp [stepsL, bitsN, bitsOf]; try omega
  | 7, _ => simp [stepsL, bitsN, bitsOf]; try omega
  | 8, _ => simp [stepsL, bitsN, bitsOf]; try omega
  | 9, _ => simp [stepsL, bitsN, bitsOf]; try omega
  | 10, _ => simp [stepsL, bitsN, bitsOf]; try omega
  | 11, _ => simp [stepsL, bitsN, bitsOf]; try omega
def piAt (N : Nat) : Nat → List Nat
  | 0 => List.range 8
  | t + 1 => shufP (sb N t) (piAt N t)
def pAt (N p0 : Nat) : Nat → Nat
  | 0 => p0
  | t + 1 => shP (sb N t) (pAt N p0 t)
def fig (N k : Nat) : Nat := N / 8 ^ (3 - k) % 8
def xAt (N : Nat) : Nat → Nat
  | 0 => 0
  | t + 1 => if t % 3 = 2 then xAt N t ^^^ fig N (t / 3) else xAt N t
theorem piAt_perm (N : Nat) : ∀ t, (piAt N t).Perm (List.range 8)
  | 0 => .refl _
  | t + 1 => (shufP_perm (sb_lt N t) (by rw [(piAt_perm N t).length_eq]; rfl)).trans (piAt_perm N t)
theorem piAt_len (N t : Nat) : (piAt N t).length = 8 := by rw [(piAt_perm N t).length_eq]; rfl
theorem pAt_at (N : Nat) {p0 : Nat} (h : p0 < 8) : ∀ t, pAt N p0 t < 8 ∧ (piAt N t).getD (pAt N p0 t) 0 = p0
  | 0 => ⟨h, by
    show (List.range 8).getD p0 0 = p0
    simp [List.getD_eq_getElem?_getD, h]⟩
  | t + 1 => by
    obtain ⟨h1, h2⟩ := pAt_at N h t
    exact ⟨(shuf_at _ (sb_lt N t) _ h1).2, (shufP_at (sb_lt N t) h1).trans h2⟩
def xorL (x : Nat) : List Nat := (List.range 8).map fun i => i ^^^ x
theorem three : ∀ x : Nat, x < 8 → ∀ a : Nat, a < 2 → ∀ b : Nat, b < 2 → ∀ c : Nat, c < 2 → shufP c (shufP b (shufP a (xorL x))) = xorL (x ^^^ (4 * a + 2 * b + c)) ∧ x ^^^ (4 * a + 2 * b + c) < 8 := by decide +kernel
theorem block_is (N : Nat) {k : Nat} (hk : k < 4) (h : piAt N (3 * k) = xorL (xAt N (3 * k)) ∧ xAt N (3 * k) < 8) : piAt N (3 * k + 3) = xorL (xAt N (3 * k + 3)) ∧ xAt N (3 * k + 3) < 8 := by
  obtain ⟨h1, h2⟩ := h
  have e1 : xAt N (3 * k + 3) = xAt N (3 * k) ^^^ fig N k := by
    show (if (3 * k + 2) % 3 = 2 then (if (3 * k + 1) % 3 = 2 then _ else (if (3 * k) % 3 = 2 then _ else xAt N (3 * k))) ^^^ fig N ((3 * k + 2) / 3) else _) = _
    rw [if_pos (by omega), if_neg (by omega), if_neg (by omega), show (3 * k + 2) / 3 = k by omega]
  have e2 : fig N k = 4 * sb N (3 * k) + 2 * sb N (3 * k + 1) + sb N (3 * k + 2) := by
    unfold fig sb
    match k, hk with
    | 0, _ => simp; omega
    | 1, _ => simp; omega
    | 2, _ => simp; omega
    | 3, _ => simp; omega
  have e3 : piAt N (3 * k + 3) = shufP (sb N (3 * k + 2)) (shufP (sb N (3 * k + 1)) (shufP (sb N (3 * k)) (piAt N (3 * k)))) := rfl
  rw [e3, h1, e1, e2]
  exact three _ h2 _ (sb_lt _ _) _ (sb_lt _ _) _ (sb_lt _ _)
theorem blocks (N : Nat) : ∀ k, k ≤ 4 → piAt N (3 * k) = xorL (xAt N (3 * k)) ∧ xAt N (3 * k) < 8
  | 0, _ => by
    show List.range 8 = xorL 0 ∧ 0 < 8
    decide
  | k + 1, h => block_is N (by omega) (blocks N k (by omega))
theorem at_third (N : Nat) {t : Nat} (ht : t < 12) (h : t % 3 = 2) : piAt N (t + 1) = xorL (xAt N (t + 1)) ∧ xAt N (t + 1) < 8 := by
  have := blocks N ((t + 1) / 3) (by omega)
  rwa [show 3 * ((t + 1) / 3) = t + 1 by omega] at this
theorem deck_nodup {ds p : List Nat} (hn : ds.Nodup) (hl : ds.length = 8) (hp : p.Perm (List.range 8)) : (deckI ds p).Nodup := by
  have hpn : p.Nodup := hp.nodup_iff.mpr List.nodup_range
  unfold deckI
  rw [List.nodup_iff_pairwise_ne, List.pairwise_map]
  refine List.Pairwise.imp_of_mem ?_ (List.nodup_iff_pairwise_ne.mp hpn)
  intro a b ha hb hab e
  have ha8 : a < 8 := List.mem_range.mp (hp.subset ha)
  have hb8 : b < 8 := List.mem_range.mp (hp.subset hb)
  rw [List.getD_eq_getElem?_getD, List.getElem?_eq_getElem (by omega), List.getD_eq_getElem?_getD, List.getElem?_eq_getElem (by omega)] at e
  simp only [Option.getD_some, Int.natCast_inj] at e
  have e1 := List.Nodup.idxOf_getElem hn a (by omega)
  have e2 := List.Nodup.idxOf_getElem hn b (by omega)
  rw [e, e2] at e1
  exact hab e1.symm
theorem idx_at {l : List Int} (hn : l.Nodup) {i : Nat} (hi : i < l.length) {z : Int} (hz : l.getD i 0 = z) : l.idxOf z = i ∧ z ∈ l := by
  rw [List.getD_eq_getElem?_getD, List.getElem?_eq_getElem hi] at hz
  simp only [Option.getD_some] at hz
  subst hz
  exact ⟨List.Nodup.idxOf_getElem hn i hi, List.getElem_mem hi⟩
section
variable {f : Nat → Nat} (hf : ∀ x y, f x = f y ↔ x = y)
include hf
theorem cost_map (x y : Nat) : cost (f x) (f y) = cost x y := by unfold cost; simp only [hf]
theorem rowStep_map (bc : Nat) : ∀ (as : List Nat) (xs : List Int) (d r m : Int), rowStep (f bc) d r m (as.map f) xs = rowStep bc d r m as xs
  | [], xs, d, r, m => by cases xs <;> rfl
  | c :: as, [], d, r, m => rfl
  | c :: as, x :: xs, d, r, m => by
    simp only [List.map_cons, rowStep, cost_map hf]
    rw [rowStep_map bc as xs]
theorem rowsF_map (mc : Int) (a : List Nat) : ∀ (bs : List Nat) (i : Nat) (row : List Int) (res : Int), rowsF mc (a.map f) i (bs.map f) row res = rowsF mc a i bs row res
  | [], i, row, res => by simp only [List.map_nil, rowsF]
  | bc :: bs, i, row, res => by
    simp only [List.map_cons, rowsF, rowStep_map hf]
    rw [rowsF_map mc a bs]
theorem core_map (a b : List Nat) (mc : Int) : core (a.map f) (b.map f) mc = core a b mc := by
  unfold core
  simp only [List.length_map, rowsF_map hf]
theorem strip2_map (a b : List Nat) (mc : Int) : strip2 (a.map f) (b.map f) mc = strip2 a b mc := by
  unfold strip2
  simp only [List.length_map, core_map hf]
theorem cpl_map : ∀ (a b : List Nat), cpl (a.map f) (b.map f) = cpl a b
  | [], b => by simp only [List.map_nil, cpl]
  | x :: a, [] => by simp only [List.map_nil, List.map_cons, cpl]
  | x :: a, y :: b => by simp only [List.map_cons, cpl, hf, cpl_map a b]
theorem levF_map (a b : List Nat) (mc : Int) : levF (a.map f) (b.map f) mc = levF a b mc := by
  have hi : a.map f = b.map f ↔ a = b := ⟨fun e => List.map_inj_right (fun x y => (hf x y).mp) |>.mp e, fun e => by rw [e]⟩
  unfold levF
  simp only [hi, cpl_map hf]
  split
  · rfl
  · rw [← List.map_drop, ← List.map_drop]
    unfold strip1
    rw [← List.map_reverse, ← List.map_reverse, cpl_map hf, List.length_map, List.length_map, ← List.map_take, ← List.map_take, strip2_map hf]
end
def due (x : Nat) : Int := if 0 < x then min 16 (8 + 2 * (x : Int)) else 0
theorem lev_xor : ∀ x : Nat, x < 8 → levF (xorL x) (List.range 8) (due x) = due x := by decide +kernel
def nameF (ds : List Nat) (i : Nat) : Nat := if i < 8 then 65 + ds.getD i 0 else 1000 + i
theorem nameF_inj {ds : List Nat} (hn : ds.Nodup) (hl : ds.length = 8) (h16 : ∀ x ∈ ds, x < 16) (x y : Nat) : nameF ds x = nameF ds y ↔ x = y := by
  have hb : ∀ i, i < 8 → ds.getD i 0 < 16 := fun i hi => by
    rw [List.getD_eq_getElem?_getD, List.getElem?_eq_getElem (by omega)]; exact h16 _ (List.getElem_mem _)
  constructor
  · intro e
    unfold nameF at e
    by_cases hx : x < 8
    · by_cases hy : y < 8
      · rw [if_pos hx, if_pos hy, List.getD_eq_getElem?_getD, List.getElem?_eq_getElem (by omega), List.getD_eq_getElem?_getD, List.getElem?_eq_getElem (by omega)] at e
        simp only [Option.getD_some] at e
        have e0 : ds[x]'(by omega) = ds[y]'(by omega) := by omega
        have e1 := List.Nodup.idxOf_getElem hn x (by omega)
        have e2 := List.Nodup.idxOf_getElem hn y (by omega)
        rw [e0, e2] at e1
        exact e1.symm
      · rw [if_pos hx, if_neg hy] at e; have := hb x hx; omega
    · by_cases hy : y < 8
      · rw [if_neg hx, if_pos hy] at e; have := hb y hy; omega
      · rw [if_neg hx, if_neg hy] at e; omega
  · rintro rfl; rfl
def deckD (ds p : List Nat) : List Nat := p.map fun i => ds.getD i 0
theorem deckI_casts (ds p : List Nat) : deckI ds p = castsI (deckD ds p) := by simp [deckI, castsI, deckD]
theorem deckD_range {ds : List Nat} (h : ds.length = 8) : deckD ds (List.range 8) = ds := range_map h
theorem deckI_range {ds : List Nat} (h : ds.length = 8) : deckI ds (List.range 8) = castsI ds := by rw [deckI_casts, deckD_range h]
theorem deckD_name {ds p : List Nat} (h : ∀ i ∈ p, i < 8) : (deckD ds p).map (fun n => 65 + n) = p.map (nameF ds) := by
  unfold deckD
  rw [List.map_map]
  refine List.map_congr_left fun i hi => ?_
  simp only [Function.comp, nameF, if_pos (h i hi)]
theorem xorL_lt : ∀ x : Nat, x < 8 → ∀ i ∈ xorL x, i < 8 := by decide
theorem lev_deck {ds : List Nat} (hn : ds.Nodup) (hl : ds.length = 8) (h16 : ∀ x ∈ ds, x < 16) {x : Nat} (hx : x < 8) :
    levF ((deckD ds (xorL x)).map (fun n => 65 + n)) (ds.map (fun n => 65 + n)) (due x) = due x := by
  have e : ds.map (fun n => 65 + n) = (List.range 8).map (nameF ds) := by
    rw [← deckD_name (fun i hi => List.mem_range.mp hi), deckD_range hl]
  rw [e, deckD_name (xorL_lt x hx), levF_map (nameF_inj hn hl h16)]
  exact lev_xor x hx
theorem lie_is : ∀ x : Nat, x < 8 → (Builtin.bitXor 2309737967 (286331153 * (x : Int))).natAbs = val16 ((List.range 8).map fun i => 8 + (i ^^^ x)) := by decide +kernel
theorem xor_is : ∀ x : Nat, x < 8 → ∀ y : Nat, y < 8 → Builtin.bitXor (x : Int) (y : Int) = ((x ^^^ y : Nat) : Int) := by decide +kernel
theorem fig_is {N k : Nat} (hk : k < 4) : ((N : Int).fdiv (8 ^ (3 - k))).fmod 8 = ((fig N k : Nat) : Int) := by
  unfold fig
  rw [Int.fmod_eq_emod_of_nonneg _ (by decide), Int.fdiv_eq_ediv_of_nonneg _ (by match k, hk with | 0, _ => decide | 1, _ => decide | 2, _ => decide | 3, _ => decide)]
  simp
/-- where a card of the start lies -/
theorem place_xor {ds : List Nat} (hn : ds.Nodup) (hl : ds.length = 8) {x j : Nat} (hx : x < 8) (hj : j < 8) (hp : (xorL x).Perm (List.range 8)) : (deckI ds (xorL x)).idxOf ((ds.getD j 0 : Nat) : Int) = j ^^^ x ∧ ((ds.getD j 0 : Nat) : Int) ∈ deckI ds (xorL x) := by
  have hb : ∀ x : Nat, x < 8 → ∀ j : Nat, j < 8 → j ^^^ x < 8 ∧ (xorL x).getD (j ^^^ x) 0 = j := by decide
  obtain ⟨h1, h2⟩ := hb x hx j hj
  have hlen : (xorL x).length = 8 := by simp [xorL]
  refine idx_at (deck_nodup hn hl hp) (by rw [deckI, List.length_map, hlen]; exact h1) ?_
  rw [deckI_getD (by rw [hlen]; exact h1), h2]
theorem kf_ints_of {vs : List Value} {ns : List Int} (h : IntsAre vs ns) : kf_ints vs = true := by
  induction h with
  | nil => rfl
  | cons n t h ih => exact ih
theorem kf_at_of {vs : List Value} {ns : List Int} (h : IntsAre vs ns) : ns.Nodup → ∀ j, j < ns.length → kf_at (ns.getD j 0) vs = some j := by
  induction h with
  | nil => intro _ j h; simp at h
  | @cons n t vs ns h ih =>
    intro hn j hj
    cases j with
    | zero => simp [kf_at, isInt]
    | succ j =>
      have hj' : j < ns.length := by simpa using hj
      have hne : isInt (ns.getD j 0) (.int n t) = false := by
        show (n == ns.getD j 0) = false
        rw [beq_eq_false_iff_ne]
        intro e
        apply (List.nodup_cons.mp hn).1
        rw [e, List.getD_eq_getElem?_getD, List.getElem?_eq_getElem hj']
        exact List.getElem_mem hj'
      rw [List.getD_cons_succ, kf_at, hne, cond_false, ih (List.nodup_cons.mp hn).2 j hj']
theorem index_deck {prog : Program} {w : World} {A : Around} {E : Value → Shared → Prop} {s : Shared} {h₀ : Heap} {L : Addr} {news : List (Addr × Obj)} {Q : Value → Shared → Prop} {D : Addr} {vs : List Value} {ns : List Int} {n j : Nat} {k : Int} {t : Tok}
    (N : News h₀ L s.heap news) (hm : (D, listOf vs.toArray n) ∈ news) (hi : IntsAre vs ns) (hn : ns.Nodup) (hj : j < ns.length) (hk : ns.getD j 0 = k) (hz : ns.length ≤ 1000)
    (h : Q (.int (j : Int) s.toks) { s with toks := s.toks + 1 }) : wpAny (model prog w) A (call (.builtin "list.index") [.ref D, .int k t]) Q E s :=
  kf_index (its := vs.toArray) N hm (kf_ints_of hi) (by rw [← hk]; exact kf_at_of hi hn j hj) rfl (by rw [sizeLine_eq]; show vs.length ≤ _; rw [hi.length]; omega) h
theorem xAt_lt (N : Nat) : ∀ t, xAt N t < 8
  | 0 => (by decide : 0 < 8)
  | t + 1 => by
    show (if t % 3 = 2 then xAt N t ^^^ fig N (t / 3) else xAt N t) < 8
    split
    · exact Nat.xor_lt_two_pow (n := 3) (xAt_lt N t) (Nat.mod_lt _ (by decide))
    · exact xAt_lt N t
theorem xAt_step {N i : Nat} (h : i % 3 = 2) : Builtin.bitXor ((xAt N i : Nat) : Int) ((fig N (i / 3) : Nat) : Int) = ((xAt N (i + 1) : Nat) : Int) := by
  rw [xor_is _ (xAt_lt N i) (fig N (i / 3)) (Nat.mod_lt _ (by decide)), xAt, if_pos h]
theorem xAt_stay {N i : Nat} (h : ¬ i % 3 = 2) : xAt N (i + 1) = xAt N i := by rw [xAt, if_neg h]
theorem fig_at {N i : Nat} (h : i < 12) : ∃ P : Nat, 0 < P ∧ (8 : Int) ^ (3 - ((i : Nat) : Int).fdiv 3).toNat = ((P : Nat) : Int) ∧ (((N : Nat) : Int).fdiv ((P : Nat) : Int)).fmod 8 = ((fig N (i / 3) : Nat) : Int) := by
  have e : (3 - ((i : Nat) : Int).fdiv 3).toNat = 3 - i / 3 := by
    rw [Int.fdiv_eq_ediv_of_nonneg _ (by decide)]; omega
  refine ⟨8 ^ (3 - i / 3), Nat.pow_pos (by decide), by rw [e]; simp, ?_⟩
  rw [← fig_is (N := N) (k := i / 3) (by omega)]
  simp
def lieD (x : Nat) : List Nat := (List.range 8).map fun i => 8 + (i ^^^ x)
theorem lieD_lt : ∀ x : Nat, x < 8 → (∀ d ∈ lieD x, d < 16) ∧ (lieD x).head? ≠ some 0 ∧ (lieD x).length ≤ 8 := by decide
theorem lie_num {x : Nat} (h : x < 8) : (Builtin.bitXor 2309737967 (286331153 * (x : Int))).natAbs = val16 (lieD x) := lie_is x h
theorem idx_in {l : List Int} {z : Int} (h : z ∈ l) : l.idxOf z < l.length ∧ l.getD (l.idxOf z) 0 = z := by
  have hi := List.idxOf_lt_length_of_mem h
  refine ⟨hi, ?_⟩
  rw [List.getD_eq_getElem?_getD, List.getElem?_eq_getElem hi]
  simp
theorem in_deck {ds p : List Nat} {z : Int} (hl : ds.length = 8) (hp : p.Perm (List.range 8)) (h : z ∈ castsI ds) : z ∈ deckI ds p := by
  rw [← deckI_range hl] at h
  exact (hp.map _).symm.subset h
theorem lie_cards {ds : List Nat} {x : Nat} (hn : ds.Nodup) (hl : ds.length = 8) (hx : x < 8) (hp : (xorL x).Perm (List.range 8)) :
    ((castsI ds).map fun n => 73 + ((((deckI ds (xorL x)).idxOf n : Nat) : Int))) = (castsI (lieD x)).map fun n => 65 + n := by
  rw [← deckI_range hl]
  unfold deckI castsI lieD
  rw [List.map_map, List.map_map, List.map_map]
  refine List.map_congr_left fun j hj => ?_
  have := (place_xor hn hl hx (List.mem_range.mp hj) hp).1
  unfold deckI at this
  simp only [Function.comp, this]
  omega
end Mine
end
section
open PySem PySem.W PyProof.Rows PySem.Calls PySem.Spec
set_option maxRecDepth 100000
set_option maxHeartbeats 8000000
namespace Mine
theorem cells_len9 (w : List Int) : ((w.take 9).map (fun k => k.fmod 1000000) ++ (List.replicate (9 - ((((w.take 9).map (fun k => k.fmod 1000000)).length : Nat) : Int)).toNat [(0 : Int)]).flatten).length = 9 := by
  simp
  omega
theorem mod4096 (z : Int) : ∃ n : Nat, n < 4096 ∧ z.fmod 4096 = (n : Int) := by
  obtain ⟨a, h1, h2⟩ := fmodB z 4096 (by decide)
  exact ⟨a, h1, h2⟩
theorem mod8 (z : Int) : ∃ n : Nat, n < 8 ∧ z.fmod 8 = (n : Int) := by
  obtain ⟨a, h1, h2⟩ := fmodB z 8 (by decide)
  exact ⟨a, h1, h2⟩
theorem drawn_perm {nl : List Int} {a : Nat} (h : a < nl.length) : (nl.getD a 0 :: (nl.take a ++ nl.drop (a + 1))).Perm nl := by
  have e : nl = nl.take a ++ nl.getD a 0 :: nl.drop (a + 1) := by
    rw [← drop_consI h, List.take_append_drop]
  exact List.perm_middle.symm.trans (e ▸ .refl _)
theorem drawn_perm2 {ns nl R : List Int} {a : Nat} (h : a < nl.length) (p : (ns ++ nl).Perm R) : ((ns ++ [nl.getD a 0]) ++ (nl.take a ++ nl.drop (a + 1))).Perm R := by
  rw [List.append_assoc]
  exact ((drawn_perm h).append_left ns).trans p
theorem nodup15 : (rangeL 1 1 15).Nodup := by decide
theorem start_of {ns nl : List Int} (p : (ns ++ nl).Perm (rangeL 1 1 15)) : ∃ ds : List Nat, ns = castsI ds ∧ ds.Nodup ∧ ∀ x ∈ ds, 1 ≤ x ∧ x < 16 := by
  have hb : ∀ z ∈ ns, 1 ≤ z ∧ z < 16 := fun z hz => by
    have := p.subset (List.mem_append_left _ hz)
    simp only [rangeL, List.mem_map, List.mem_range] at this
    obtain ⟨a, ha, rfl⟩ := this
    omega
  have hn : ns.Nodup := (List.nodup_append.mp (p.nodup_iff.mpr nodup15)).1
  have e : ns = castsI (ns.map Int.toNat) := by
    unfold castsI
    rw [List.map_map]
    refine (List.map_id ns).symm.trans (List.map_congr_left fun z hz => ?_)
    have := hb z hz; simp only [Function.comp, id]; omega
  refine ⟨ns.map Int.toNat, e, ?_, fun x hx => ?_⟩
  · rw [e, List.nodup_iff_pairwise_ne, castsI, List.pairwise_map] at hn
    rw [List.nodup_iff_pairwise_ne]
    exact hn.imp fun h e => h (by rw [e])
  · obtain ⟨z, hz, rfl⟩ := List.mem_map.mp hx
    have := hb z hz; omega
theorem stepsL_length (n : Nat) : (stepsL n).length = 12 := by rw [stepsL, bitsN_length]; rfl
structure ST where
  (o : Obj) (l : Addr) (v : List Value) (k p tp x tx : Nat)
theorem inf_pw : ∀ p : Nat, p < 8 → ∀ b : Nat, b < 2 → ¬ Float64.isInf (fq (p + b) (7 + 2 * b)) = true := by decide +kernel
theorem div_pw {prog : Program} {w : World} {A : Around} {E : Value → Shared → Prop} {s : Shared} {p b : Nat} {t u : Tok} {Q : Value → Shared → Prop} (hp : p < 8) (hb : b < 2)
    (h : Q (.float (fq (p + b) (7 + 2 * b)) s.toks) { s with toks := s.toks + 1 }) : wpAny (model prog w) A (binaryOp .Div (.int ((p : Int) + (b : Int)) t) (.int ((7 + 2 * b : Nat) : Int) u)) Q E s := by
  have e := fq_of (a := (p : Int) + (b : Int)) (b := ((7 + 2 * b : Nat) : Int)) (p := p + b) (q := 7 + 2 * b) (by omega) rfl
  refine AutoIntOps.truediv_2 (by rw [beq_iff_eq]; omega) ?_ ?_
  · rw [e]; exact inf_pw p hp b hb
  · rw [e]; exact h
theorem cutT3 {prog : Program} {w : World} {A : Around} {E : Value → Shared → Prop} {s : Shared} {h₀ : Heap} {L : Addr} {m : Str → Option Value} {news : List (Addr × Obj)} {Q : Value → Shared → Prop} {value slice : PySem.Expr} {T : Addr} {a b c : UInt64} {x y z u : Tok}
    (F : Fr h₀ L s.heap m) (N : News h₀ L s.heap news) (hm : (T, tup3 a b c x y z) ∈ news)
    (h : ∀ D h', Fr h₀ L h' m → News h₀ L h' ((D, tup2 b c y z) :: news) → (∀ p ∈ news, p.1 < D) → Q (.ref D) { s with heap := h' })
    (hs : subscripted slice false (.ref T) (.ref s.heap.objs.size) = operate [.ref s.heap.objs.size, .ref T] (getItem (.ref T) (.ref s.heap.objs.size)) := by with_unfolding_all rfl)
    (hg : ∀ r, letTemporaryGo value (.ref T) r = pure () := by intro _; with_unfolding_all rfl) :
    wpAny (model prog w) A (subscriptTail value slice (.ref T) (.ref s.heap.objs.size)) Q E { s with heap := s.heap.push { cls := .type "slice", data := .fields #[.int 1 u, .none, .none] } } :=
  slice_tuple_from (a := 1) (items := #[.float a x, .float b y, .float c z]) F N (News.isTup N hm) (Nat.le_refl 1) (show 1 ≤ 3 by decide)
    (fun h' F' N' => h _ h' F' N' fun p hp => Nat.lt_succ_of_lt (Heap.lt_size (N p hp).1)) hs hg (by rw [sizeLine_eq]; show 3 ≤ 16777216; decide)
structure STo where
  (D : Addr) (t u v : Tok)
theorem fmod3 {i : Nat} (h : ((i : Nat) : Int).fmod 3 = 2) : i % 3 = 2 := by rw [Int.fmod_eq_emod_of_nonneg _ (by decide)] at h; omega
theorem fmod3n {i : Nat} (h : ((i : Nat) : Int).fmod 3 ≠ 2) : ¬ i % 3 = 2 := by rw [Int.fmod_eq_emod_of_nonneg _ (by decide)] at h; omega
theorem pow3 {i : Nat} (h : i < 12) : 0 ≤ 3 - ((i : Nat) : Int).fdiv 3 := by rw [Int.fdiv_eq_ediv_of_nonneg _ (by decide)]; omega
theorem pow3b {i : Nat} (h : i < 12) : 3 - ((i : Nat) : Int).fdiv 3 ≤ 1000000 := by rw [Int.fdiv_eq_ediv_of_nonneg _ (by decide)]; omega
theorem due_pos {x : Nat} (h : 0 < (x : Int)) : due x = if 8 + 2 * (x : Int) < 16 then 8 + 2 * (x : Int) else 16 := by unfold due; rw [if_pos (by omega)]; split <;> omega
theorem due_zero {x : Nat} (h : ¬ 0 < (x : Int)) : due x = 0 := by unfold due; rw [if_neg (by omega)]
theorem deckD_facts {ds p : List Nat} (h : ∀ x ∈ ds, 1 ≤ x ∧ x < 16) (hl : ds.length = 8) (hp : p.Perm (List.range 8)) : (deckD ds p).length ≤ 8 ∧ (∀ x ∈ deckD ds p, 1 ≤ x ∧ x < 16) := by
  refine ⟨by simp [deckD, hp.length_eq], fun x hx => ?_⟩
  simp only [deckD, List.mem_map] at hx
  obtain ⟨a, ha, rfl⟩ := hx
  have ha8 := List.mem_range.mp (hp.subset ha)
  rw [List.getD_eq_getElem?_getD, List.getElem?_eq_getElem (by omega)]
  exact h _ (List.getElem_mem _)
theorem letters {l : List Nat} (h : ∀ x ∈ l, x < 16) : ∀ c ∈ l.map (fun n => 65 + n), 65 ≤ c ∧ c < 81 := by
  intro c hc
  obtain ⟨a, ha, rfl⟩ := List.mem_map.mp hc
  have := h a ha
  omega
theorem fmod9 {i : Nat} (h : ((i : Nat) : Int).fmod 9 = 2) : i % 9 = 2 := by rw [Int.fmod_eq_emod_of_nonneg _ (by decide)] at h; omega
structure SD where
  (ls ll : Addr) (vs vl : List Value) (ns nl : List Int) (ks kl : Nat)
structure SW where
  (D : Addr) (vc : List Value) (kc : Nat) (ok : Obj) (z : Int) (t : Tok)
theorem lawY : PySem.Challenge.rw_sc0035_02.Holds := hd (by
  w_top off
  k_go0
  all_goals try k_fold
  rename IntsAre _ _ => hscr
  rename Shared => s1
  rename World => w0
  (repeat' (first | (k_unfold; (try dsimp only)) | ((fail_if_success (with_reducible show wpAny _ _ (PySem.execs (PySem.Stmt.Assign [PySem.Expr.Name (PySem.Str.ofString "whole") _] _ _ :: _) _) _ _ _)); first | ((k_dflt ((with_reducible show wpAny _ _ (call (Value.ref 49) _) _ _ _); (rename Fr _ _ _ _ => F9q); (rename News _ _ _ _ => N9q); (refine c_lev (by (exact ⟨Frag.In.keeps (by assumption) (Fr.keep (by assumption)), ⟨_, _, _, _, _, Top.keeps (by assumption) (Fr.keep (by assumption))⟩, rfl, by (simp only [Around.deeper, Around.in1]; decide), by (simp only [Around.deeper, Around.in1]; decide)⟩)) (by with_reducible assumption) (by with_reducible assumption) (by with_reducible assumption) (by with_reducible assumption) ?_; intro _ _ _ k9q; (have F8q := Fr.keepsK F9q k9q); (have N8q := News.keepsK N9q k9q); clear F9q N9q k9q)))) | ((k_dflt ((with_reducible show wpAny _ _ (call (Value.ref 61) _) _ _ _); (rename Fr _ _ _ _ => F9q); (rename News _ _ _ _ => N9q); (refine c_word (by (exact ⟨Frag.In.keeps (by assumption) (Fr.keep (by assumption)), ⟨_, _, _, _, _, Top.keeps (by assumption) (Fr.keep (by assumption))⟩, rfl, by (simp only [Around.deeper, Around.in1]; decide), by (simp only [Around.deeper, Around.in1]; decide)⟩)) (by with_reducible assumption) (by with_reducible assumption) (by with_reducible assumption) (by with_reducible assumption) ?_; intro _ _ _ k9q; (have F8q := Fr.keepsK F9q k9q); (have N8q := News.keepsK N9q k9q); clear F9q N9q k9q)))) | (((with_reducible show wpAny _ _ (eval (Expr.Name _ _) (compEnvC _ _ _ _)) _ _ _); k_dflt (first | (refine blk_C (by assumption) (by rfl) (by k_mem) (by assumption) ?_ (by rfl) (by rfl) (by decide)) | (refine blk_L (by assumption) (by rfl) (by assumption) ?_ (by rfl) (by rfl) (by decide))))) | ((with_reducible show wpAny _ _ (compareOp CmpOp.NotEq (Value.bytes _ _) (Value.bytes _ _)) _ _ _); (k_dflt (refine ne_same ?_))) | ((k_dflt ((with_reducible show wpAny _ _ (call (Value.ref 21) _) _ _ _); (refine c_ap (by (exact ⟨Frag.In.keeps (by assumption) (Fr.keep (by assumption)), ⟨_, _, _, _, _, Top.keeps (by assumption) (Fr.keep (by assumption))⟩, rfl, by (simp only [Around.deeper, Around.in1]; decide), by (simp only [Around.deeper, Around.in1]; decide)⟩)) (by with_reducible assumption) (by with_reducible assumption) (by with_reducible assumption) (by with_reducible assumption) ?_; intro _ _ _ k9q; (rename Fr _ _ _ _ => F9q); (rename News _ _ _ _ => N9q); (have F8q := Fr.keepsK F9q k9q); (have N8q := News.keepsK N9q k9q); clear F9q N9q k9q)))) | ((k_dflt ((with_reducible show wpAny _ _ (call (Value.ref 56) _) _ _ _); (rename Fr _ _ _ _ => F9q); (rename News _ _ _ _ => N9q); (refine c_number (by (exact ⟨Frag.In.keeps (by assumption) (Fr.keep (by assumption)), ⟨_, _, _, _, _, Top.keeps (by assumption) (Fr.keep (by assumption))⟩, rfl, by (simp only [Around.deeper, Around.in1]; decide), by (simp only [Around.deeper, Around.in1]; decide)⟩)) (isList_news N9q (by k_memK)) (by with_reducible assumption) ?_; intro _ _ _ k9q; (have F8q := Fr.keepsK F9q k9q); (have N8q := News.keepsK N9q k9q); clear F9q N9q k9q)))) | ((k_dflt ((with_reducible show wpAny _ _ (call (Value.builtin "len") [Value.ref _]) _ _ _); (rename News _ _ _ _ => N9q); (refine len_news N9q (by k_memK) (by with_reducible assumption) (by omega) ?_)))) | ((k_dflt ((with_reducible show wpAny _ _ (call (Value.type _) [Value.ref _]) _ _ _); (refine list_range _ (by rfl) (by assumption) (by assumption) (by assumption) (by exact small_mine (by omega) (by omega) (by omega)) (by assumption) (by omega) ?_; intro _ _ _ _ _ _ l1q _ _; (try k_lt l1q))))) | ((k_dflt ((with_reducible show wpAny _ _ (call (Value.type _) [Value.int _ _, Value.int _ _]) _ _ _); (refine rng2 (by assumption) (by assumption) ?_); intro _ _ _ _ _ _ _ _ _))) | ((k_dflt ((with_reducible show wpAny _ _ (binaryOp _ (Value.int (_ + 1) _) (Value.int 4 _)) _ _ _); (refine div_q2 (by exact fmod4 _) ?_)))) | walk1 | (dsimp only; walk1) | (leave1; try dsimp only))))
  rename Fr _ _ _ _ => F1
  rename News _ _ _ _ => N1
  refine execs_mid (σ := SW) (L := s1.heap.objs.size) s1.heap (fun c => (s1.heap.objs.size + 1, c.ok) :: [(c.D, listOf c.vc.toArray c.kc)]) (fun c => [(Str.ofString "whole", .int c.z c.t), (Str.ofString "cells", .ref c.D)])
    (fun c => c.ok.data = .cell none ∧ ∃ nc, IntsAre c.vc nc ∧ nc.length = 9) ?st ?rest
  case st =>

    (repeat' (first | (k_unfold; (try dsimp only)) | ((with_reducible show wpAny _ _ (PySem.exec (PySem.Stmt.Return (some (PySem.Expr.Constant (PySem.Const.bool false) _ _)) _) _) _ _ _); exfalso; first | assumption | contradiction | omega) | ((fail_if_success (with_reducible show wpAny _ _ (PySem.exec (PySem.Stmt.For _ _ _ _ _) _) _ _ _)); (fail_if_success (with_reducible show wpAny _ _ (PySem.call (PySem.Value.ref _) _) _ _ _)); (fail_if_success (with_reducible show wpAny _ _ (PySem.pyIter _) _ _ _)); first | ((k_dflt ((with_reducible show wpAny _ _ (call (Value.ref 49) _) _ _ _); (rename Fr _ _ _ _ => F9q); (rename News _ _ _ _ => N9q); (refine c_lev (by (exact ⟨Frag.In.keeps (by assumption) (Fr.keep (by assumption)), ⟨_, _, _, _, _, Top.keeps (by assumption) (Fr.keep (by assumption))⟩, rfl, by (simp only [Around.deeper, Around.in1]; decide), by (simp only [Around.deeper, Around.in1]; decide)⟩)) (by with_reducible assumption) (by with_reducible assumption) (by with_reducible assumption) (by with_reducible assumption) ?_; intro _ _ _ k9q; (have F8q := Fr.keepsK F9q k9q); (have N8q := News.keepsK N9q k9q); clear F9q N9q k9q)))) | ((k_dflt ((with_reducible show wpAny _ _ (call (Value.ref 61) _) _ _ _); (rename Fr _ _ _ _ => F9q); (rename News _ _ _ _ => N9q); (refine c_word (by (exact ⟨Frag.In.keeps (by assumption) (Fr.keep (by assumption)), ⟨_, _, _, _, _, Top.keeps (by assumption) (Fr.keep (by assumption))⟩, rfl, by (simp only [Around.deeper, Around.in1]; decide), by (simp only [Around.deeper, Around.in1]; decide)⟩)) (by with_reducible assumption) (by with_reducible assumption) (by with_reducible assumption) (by with_reducible assumption) ?_; intro _ _ _ k9q; (have F8q := Fr.keepsK F9q k9q); (have N8q := News.keepsK N9q k9q); clear F9q N9q k9q)))) | (((with_reducible show wpAny _ _ (eval (Expr.Name _ _) (compEnvC _ _ _ _)) _ _ _); k_dflt (first | (refine blk_C (by assumption) (by rfl) (by k_mem) (by assumption) ?_ (by rfl) (by rfl) (by decide)) | (refine blk_L (by assumption) (by rfl) (by assumption) ?_ (by rfl) (by rfl) (by decide))))) | ((with_reducible show wpAny _ _ (compareOp CmpOp.NotEq (Value.bytes _ _) (Value.bytes _ _)) _ _ _); (k_dflt (refine ne_same ?_))) | ((k_dflt ((with_reducible show wpAny _ _ (call (Value.ref 21) _) _ _ _); (refine c_ap (by (exact ⟨Frag.In.keeps (by assumption) (Fr.keep (by assumption)), ⟨_, _, _, _, _, Top.keeps (by assumption) (Fr.keep (by assumption))⟩, rfl, by (simp only [Around.deeper, Around.in1]; decide), by (simp only [Around.deeper, Around.in1]; decide)⟩)) (by with_reducible assumption) (by with_reducible assumption) (by with_reducible assumption) (by with_reducible assumption) ?_; intro _ _ _ k9q; (rename Fr _ _ _ _ => F9q); (rename News _ _ _ _ => N9q); (have F8q := Fr.keepsK F9q k9q); (have N8q := News.keepsK N9q k9q); clear F9q N9q k9q)))) | ((k_dflt ((with_reducible show wpAny _ _ (call (Value.ref 56) _) _ _ _); (rename Fr _ _ _ _ => F9q); (rename News _ _ _ _ => N9q); (refine c_number (by (exact ⟨Frag.In.keeps (by assumption) (Fr.keep (by assumption)), ⟨_, _, _, _, _, Top.keeps (by assumption) (Fr.keep (by assumption))⟩, rfl, by (simp only [Around.deeper, Around.in1]; decide), by (simp only [Around.deeper, Around.in1]; decide)⟩)) (isList_news N9q (by k_memK)) (by with_reducible assumption) ?_; intro _ _ _ k9q; (have F8q := Fr.keepsK F9q k9q); (have N8q := News.keepsK N9q k9q); clear F9q N9q k9q)))) | ((k_dflt ((with_reducible show wpAny _ _ (call (Value.builtin "len") [Value.ref _]) _ _ _); (rename News _ _ _ _ => N9q); (refine len_news N9q (by k_memK) (by with_reducible assumption) (by omega) ?_)))) | ((k_dflt ((with_reducible show wpAny _ _ (call (Value.type _) [Value.ref _]) _ _ _); (refine list_range _ (by rfl) (by assumption) (by assumption) (by assumption) (by exact small_mine (by omega) (by omega) (by omega)) (by assumption) (by omega) ?_; intro _ _ _ _ _ _ l1q _ _; (try k_lt l1q))))) | ((k_dflt ((with_reducible show wpAny _ _ (call (Value.type _) [Value.int _ _, Value.int _ _]) _ _ _); (refine rng2 (by assumption) (by assumption) ?_); intro _ _ _ _ _ _ _ _ _))) | ((k_dflt ((with_reducible show wpAny _ _ (binaryOp _ (Value.int (_ + 1) _) (Value.int 4 _)) _ _ _); (refine div_q2 (by exact fmod4 _) ?_)))) | walk1 | (dsimp only; walk1) | (leave1; try dsimp only))))
    refine' ExitW.here ⟨_, _, _, _, _, _⟩ ?Fa ?Na ?na ?hpa ?Pa
    case Fa => assumption
    case Na => assumption
    case hpa => ((repeat' (first | exact List.forall_mem_nil _ | (refine List.forall_mem_cons.mpr ⟨by with_unfolding_all rfl, ?_⟩))))
    case na => ((repeat' (first | exact List.forall_mem_nil _ | (refine List.forall_mem_cons.mpr ⟨by k_memK, ?_⟩))))
    case Pa => exact ⟨by with_unfolding_all assumption, _, by assumption, cells_len9 _⟩

  case rest =>
  clear F1 N1
  rintro ⟨D, vc, kc, ok, z, tz⟩ u h tk ⟨hdk, nc, hnc, hnc9⟩ F1 N1
  dsimp only at hdk hnc F1 N1 ⊢
  refine execs_mid (σ := Nat × Tok) (L := s1.heap.objs.size) s1.heap (fun _ => (s1.heap.objs.size + 1, ok) :: [(D, listOf vc.toArray kc)]) (fun c => [(Str.ofString "number", .int (c.1 : Int) c.2), (Str.ofString "whole", .int z tz), (Str.ofString "cells", .ref D)]) (fun c => c.1 < 4096) ?s1 ?s1d
  case s1 =>

    obtain ⟨N, hN, eN⟩ := mod4096 (669 + nc.getD (Int.toNat 0) 0)
    (repeat' (first | (k_unfold; (try dsimp only)) | ((with_reducible show wpAny _ _ (PySem.exec (PySem.Stmt.Return (some (PySem.Expr.Constant (PySem.Const.bool false) _ _)) _) _) _ _ _); exfalso; first | assumption | contradiction | omega) | ((fail_if_success (with_reducible show wpAny _ _ (PySem.exec (PySem.Stmt.For _ _ _ _ _) _) _ _ _)); (fail_if_success (with_reducible show wpAny _ _ (PySem.call (PySem.Value.ref _) _) _ _ _)); (fail_if_success (with_reducible show wpAny _ _ (PySem.pyIter _) _ _ _)); first | ((k_dflt ((with_reducible show wpAny _ _ (call (Value.ref 49) _) _ _ _); (rename Fr _ _ _ _ => F9q); (rename News _ _ _ _ => N9q); (refine c_lev (by (exact ⟨Frag.In.keeps (by assumption) (Fr.keep (by assumption)), ⟨_, _, _, _, _, Top.keeps (by assumption) (Fr.keep (by assumption))⟩, rfl, by (simp only [Around.deeper, Around.in1]; decide), by (simp only [Around.deeper, Around.in1]; decide)⟩)) (by with_reducible assumption) (by with_reducible assumption) (by with_reducible assumption) (by with_reducible assumption) ?_; intro _ _ _ k9q; (have F8q := Fr.keepsK F9q k9q); (have N8q := News.keepsK N9q k9q); clear F9q N9q k9q)))) | ((k_dflt ((with_reducible show wpAny _ _ (call (Value.ref 61) _) _ _ _); (rename Fr _ _ _ _ => F9q); (rename News _ _ _ _ => N9q); (refine c_word (by (exact ⟨Frag.In.keeps (by assumption) (Fr.keep (by assumption)), ⟨_, _, _, _, _, Top.keeps (by assumption) (Fr.keep (by assumption))⟩, rfl, by (simp only [Around.deeper, Around.in1]; decide), by (simp only [Around.deeper, Around.in1]; decide)⟩)) (by with_reducible assumption) (by with_reducible assumption) (by with_reducible assumption) (by with_reducible assumption) ?_; intro _ _ _ k9q; (have F8q := Fr.keepsK F9q k9q); (have N8q := News.keepsK N9q k9q); clear F9q N9q k9q)))) | (((with_reducible show wpAny _ _ (eval (Expr.Name _ _) (compEnvC _ _ _ _)) _ _ _); k_dflt (first | (refine blk_C (by assumption) (by rfl) (by k_mem) (by assumption) ?_ (by rfl) (by rfl) (by decide)) | (refine blk_L (by assumption) (by rfl) (by assumption) ?_ (by rfl) (by rfl) (by decide))))) | ((with_reducible show wpAny _ _ (compareOp CmpOp.NotEq (Value.bytes _ _) (Value.bytes _ _)) _ _ _); (k_dflt (refine ne_same ?_))) | ((k_dflt ((with_reducible show wpAny _ _ (call (Value.ref 21) _) _ _ _); (refine c_ap (by (exact ⟨Frag.In.keeps (by assumption) (Fr.keep (by assumption)), ⟨_, _, _, _, _, Top.keeps (by assumption) (Fr.keep (by assumption))⟩, rfl, by (simp only [Around.deeper, Around.in1]; decide), by (simp only [Around.deeper, Around.in1]; decide)⟩)) (by with_reducible assumption) (by with_reducible assumption) (by with_reducible assumption) (by with_reducible assumption) ?_; intro _ _ _ k9q; (rename Fr _ _ _ _ => F9q); (rename News _ _ _ _ => N9q); (have F8q := Fr.keepsK F9q k9q); (have N8q := News.keepsK N9q k9q); clear F9q N9q k9q)))) | ((k_dflt ((with_reducible show wpAny _ _ (call (Value.ref 56) _) _ _ _); (rename Fr _ _ _ _ => F9q); (rename News _ _ _ _ => N9q); (refine c_number (by (exact ⟨Frag.In.keeps (by assumption) (Fr.keep (by assumption)), ⟨_, _, _, _, _, Top.keeps (by assumption) (Fr.keep (by assumption))⟩, rfl, by (simp only [Around.deeper, Around.in1]; decide), by (simp only [Around.deeper, Around.in1]; decide)⟩)) (isList_news N9q (by k_memK)) (by with_reducible assumption) ?_; intro _ _ _ k9q; (have F8q := Fr.keepsK F9q k9q); (have N8q := News.keepsK N9q k9q); clear F9q N9q k9q)))) | ((k_dflt ((with_reducible show wpAny _ _ (call (Value.builtin "len") [Value.ref _]) _ _ _); (rename News _ _ _ _ => N9q); (refine len_news N9q (by k_memK) (by with_reducible assumption) (by omega) ?_)))) | ((k_dflt ((with_reducible show wpAny _ _ (call (Value.type _) [Value.ref _]) _ _ _); (refine list_range _ (by rfl) (by assumption) (by assumption) (by assumption) (by exact small_mine (by omega) (by omega) (by omega)) (by assumption) (by omega) ?_; intro _ _ _ _ _ _ l1q _ _; (try k_lt l1q))))) | ((k_dflt ((with_reducible show wpAny _ _ (call (Value.type _) [Value.int _ _, Value.int _ _]) _ _ _); (refine rng2 (by assumption) (by assumption) ?_); intro _ _ _ _ _ _ _ _ _))) | ((k_dflt ((with_reducible show wpAny _ _ (binaryOp _ (Value.int (_ + 1) _) (Value.int 4 _)) _ _ _); (refine div_q2 (by exact fmod4 _) ?_)))) | walk1 | (dsimp only; walk1) | (leave1; try dsimp only))))
    rename Fr _ _ _ _ => F2
    rw [eN] at F2
    refine' ExitW.here (N, _) F2 ?Nb ?nb ?hpb hN
    case Nb => assumption
    case hpb => ((repeat' (first | exact List.forall_mem_nil _ | (refine List.forall_mem_cons.mpr ⟨by with_unfolding_all rfl, ?_⟩))))
    case nb => ((repeat' (first | exact List.forall_mem_nil _ | (refine List.forall_mem_cons.mpr ⟨by k_memK, ?_⟩))))

  case s1d =>
  clear F1 N1
  rintro ⟨N, tN⟩ u h tk hN F1 N1
  dsimp only at hN F1 N1 ⊢
  refine execs_mid (σ := Tok × Tok) (L := s1.heap.objs.size) s1.heap (fun _ => (s1.heap.objs.size + 1, ok) :: [(D, listOf vc.toArray kc)]) (fun c => [(Str.ofString "share", .float (fq ((z.fmod 4).toNat + 1) 4) c.1), (Str.ofString "level", .float (fq (((z.fdiv 4).fmod 4).toNat + 1) 4) c.2), (Str.ofString "number", .int (N : Int) tN), (Str.ofString "whole", .int z tz), (Str.ofString "cells", .ref D)]) (fun c => c.1 ≠ 0 ∧ c.2 ≠ 0) ?s2 ?s2d
  case s2 =>

    (repeat' (first | (k_unfold; (try dsimp only)) | ((with_reducible show wpAny _ _ (PySem.exec (PySem.Stmt.Return (some (PySem.Expr.Constant (PySem.Const.bool false) _ _)) _) _) _ _ _); exfalso; first | assumption | contradiction | omega) | ((fail_if_success (with_reducible show wpAny _ _ (PySem.exec (PySem.Stmt.For _ _ _ _ _) _) _ _ _)); (fail_if_success (with_reducible show wpAny _ _ (PySem.call (PySem.Value.ref _) _) _ _ _)); (fail_if_success (with_reducible show wpAny _ _ (PySem.pyIter _) _ _ _)); first | ((k_dflt ((with_reducible show wpAny _ _ (call (Value.ref 49) _) _ _ _); (rename Fr _ _ _ _ => F9q); (rename News _ _ _ _ => N9q); (refine c_lev (by (exact ⟨Frag.In.keeps (by assumption) (Fr.keep (by assumption)), ⟨_, _, _, _, _, Top.keeps (by assumption) (Fr.keep (by assumption))⟩, rfl, by (simp only [Around.deeper, Around.in1]; decide), by (simp only [Around.deeper, Around.in1]; decide)⟩)) (by with_reducible assumption) (by with_reducible assumption) (by with_reducible assumption) (by with_reducible assumption) ?_; intro _ _ _ k9q; (have F8q := Fr.keepsK F9q k9q); (have N8q := News.keepsK N9q k9q); clear F9q N9q k9q)))) | ((k_dflt ((with_reducible show wpAny _ _ (call (Value.ref 61) _) _ _ _); (rename Fr _ _ _ _ => F9q); (rename News _ _ _ _ => N9q); (refine c_word (by (exact ⟨Frag.In.keeps (by assumption) (Fr.keep (by assumption)), ⟨_, _, _, _, _, Top.keeps (by assumption) (Fr.keep (by assumption))⟩, rfl, by (simp only [Around.deeper, Around.in1]; decide), by (simp only [Around.deeper, Around.in1]; decide)⟩)) (by with_reducible assumption) (by with_reducible assumption) (by with_reducible assumption) (by with_reducible assumption) ?_; intro _ _ _ k9q; (have F8q := Fr.keepsK F9q k9q); (have N8q := News.keepsK N9q k9q); clear F9q N9q k9q)))) | (((with_reducible show wpAny _ _ (eval (Expr.Name _ _) (compEnvC _ _ _ _)) _ _ _); k_dflt (first | (refine blk_C (by assumption) (by rfl) (by k_mem) (by assumption) ?_ (by rfl) (by rfl) (by decide)) | (refine blk_L (by assumption) (by rfl) (by assumption) ?_ (by rfl) (by rfl) (by decide))))) | ((with_reducible show wpAny _ _ (compareOp CmpOp.NotEq (Value.bytes _ _) (Value.bytes _ _)) _ _ _); (k_dflt (refine ne_same ?_))) | ((k_dflt ((with_reducible show wpAny _ _ (call (Value.ref 21) _) _ _ _); (refine c_ap (by (exact ⟨Frag.In.keeps (by assumption) (Fr.keep (by assumption)), ⟨_, _, _, _, _, Top.keeps (by assumption) (Fr.keep (by assumption))⟩, rfl, by (simp only [Around.deeper, Around.in1]; decide), by (simp only [Around.deeper, Around.in1]; decide)⟩)) (by with_reducible assumption) (by with_reducible assumption) (by with_reducible assumption) (by with_reducible assumption) ?_; intro _ _ _ k9q; (rename Fr _ _ _ _ => F9q); (rename News _ _ _ _ => N9q); (have F8q := Fr.keepsK F9q k9q); (have N8q := News.keepsK N9q k9q); clear F9q N9q k9q)))) | ((k_dflt ((with_reducible show wpAny _ _ (call (Value.ref 56) _) _ _ _); (rename Fr _ _ _ _ => F9q); (rename News _ _ _ _ => N9q); (refine c_number (by (exact ⟨Frag.In.keeps (by assumption) (Fr.keep (by assumption)), ⟨_, _, _, _, _, Top.keeps (by assumption) (Fr.keep (by assumption))⟩, rfl, by (simp only [Around.deeper, Around.in1]; decide), by (simp only [Around.deeper, Around.in1]; decide)⟩)) (isList_news N9q (by k_memK)) (by with_reducible assumption) ?_; intro _ _ _ k9q; (have F8q := Fr.keepsK F9q k9q); (have N8q := News.keepsK N9q k9q); clear F9q N9q k9q)))) | ((k_dflt ((with_reducible show wpAny _ _ (call (Value.builtin "len") [Value.ref _]) _ _ _); (rename News _ _ _ _ => N9q); (refine len_news N9q (by k_memK) (by with_reducible assumption) (by omega) ?_)))) | ((k_dflt ((with_reducible show wpAny _ _ (call (Value.type _) [Value.ref _]) _ _ _); (refine list_range _ (by rfl) (by assumption) (by assumption) (by assumption) (by exact small_mine (by omega) (by omega) (by omega)) (by assumption) (by omega) ?_; intro _ _ _ _ _ _ l1q _ _; (try k_lt l1q))))) | ((k_dflt ((with_reducible show wpAny _ _ (call (Value.type _) [Value.int _ _, Value.int _ _]) _ _ _); (refine rng2 (by assumption) (by assumption) ?_); intro _ _ _ _ _ _ _ _ _))) | ((k_dflt ((with_reducible show wpAny _ _ (binaryOp _ (Value.int (_ + 1) _) (Value.int 4 _)) _ _ _); (refine div_q2 (by exact fmod4 _) ?_)))) | walk1 | (dsimp only; walk1) | (leave1; try dsimp only))))
    refine' ExitW.here (_, _) ?Fc ?Nc ?nc ?hpc ?Pc
    case Fc => assumption
    case Nc => assumption
    case hpc => ((repeat' (first | exact List.forall_mem_nil _ | (refine List.forall_mem_cons.mpr ⟨by with_unfolding_all rfl, ?_⟩))))
    case nc => exact fun p hp => .tail _ hp
    case Pc => exact ⟨Nat.succ_ne_zero _, Nat.succ_ne_zero _⟩

  case s2d =>
  clear F1 N1
  rintro ⟨ts, tl⟩ u h tk ⟨hts, htl⟩ F1 N1
  dsimp only at hts htl F1 N1 ⊢
  obtain ⟨sa, hsa⟩ : ∃ sa, fq ((z.fmod 4).toNat + 1) 4 = sa := ⟨_, rfl⟩
  obtain ⟨va, hva⟩ : ∃ va, fq (((z.fdiv 4).fmod 4).toNat + 1) 4 = va := ⟨_, rfl⟩
  rw [hsa, hva] at F1
  have hpaint : ∀ s p : Nat, s < 2 → p < 8 → ∃ H k H2 k2, Told sa va (7 + 2 * s) (fq (p + s) (7 + 2 * s)) H k ∧ Told sa va (7 + 2 * s) (dbl H) H2 k2 ∧
    (k - ((p + s : Nat) : Int)).fmod ((7 + 2 * s : Nat) : Int) = 0 ∧ (k2 - ((shP s p + s : Nat) : Int)).fmod ((7 + 2 * s : Nat) : Int) = 0 := by
    rw [← hsa, ← hva]
    exact fun s p hs hp => twice_all (fmod4L _) (fmod4L _) hs hp
  clear hsa hva
  have hr15 : PySem.Builtin.Range.rangeSize 1 16 1 = ((15 : Nat) : Int) := by decide
  refine execs_mid (σ := SD) (L := s1.heap.objs.size) s1.heap (fun c => (c.ls, listOf c.vs.toArray c.ks) :: (c.ll, listOf c.vl.toArray c.kl) :: (s1.heap.objs.size + 1, ok) :: [(D, listOf vc.toArray kc)]) (fun c => [(Str.ofString "left", .ref c.ll), (Str.ofString "start", .ref c.ls), (Str.ofString "share", .float sa ts), (Str.ofString "level", .float va tl), (Str.ofString "number", .int (N : Int) tN), (Str.ofString "whole", .int z tz), (Str.ofString "cells", .ref D)])
    (fun c => c.vs = [] ∧ IntsAre c.vl (rangeL 1 1 15) ∧ @LT.lt Nat _ c.ll c.ls ∧ @LT.lt Nat _ (s1.heap.objs.size + 1) c.ll ∧ @LT.lt Nat _ D c.ll) ?s3 ?s3d
  case s3 =>

    (repeat' (first | (k_unfold; (try dsimp only)) | ((with_reducible show wpAny _ _ (PySem.exec (PySem.Stmt.Return (some (PySem.Expr.Constant (PySem.Const.bool false) _ _)) _) _) _ _ _); exfalso; first | assumption | contradiction | omega) | ((fail_if_success (with_reducible show wpAny _ _ (PySem.exec (PySem.Stmt.For _ _ _ _ _) _) _ _ _)); (fail_if_success (with_reducible show wpAny _ _ (PySem.call (PySem.Value.ref _) _) _ _ _)); (fail_if_success (with_reducible show wpAny _ _ (PySem.pyIter _) _ _ _)); first | ((k_dflt ((with_reducible show wpAny _ _ (call (Value.ref 49) _) _ _ _); (rename Fr _ _ _ _ => F9q); (rename News _ _ _ _ => N9q); (refine c_lev (by (exact ⟨Frag.In.keeps (by assumption) (Fr.keep (by assumption)), ⟨_, _, _, _, _, Top.keeps (by assumption) (Fr.keep (by assumption))⟩, rfl, by (simp only [Around.deeper, Around.in1]; decide), by (simp only [Around.deeper, Around.in1]; decide)⟩)) (by with_reducible assumption) (by with_reducible assumption) (by with_reducible assumption) (by with_reducible assumption) ?_; intro _ _ _ k9q; (have F8q := Fr.keepsK F9q k9q); (have N8q := News.keepsK N9q k9q); clear F9q N9q k9q)))) | ((k_dflt ((with_reducible show wpAny _ _ (call (Value.ref 61) _) _ _ _); (rename Fr _ _ _ _ => F9q); (rename News _ _ _ _ => N9q); (refine c_word (by (exact ⟨Frag.In.keeps (by assumption) (Fr.keep (by assumption)), ⟨_, _, _, _, _, Top.keeps (by assumption) (Fr.keep (by assumption))⟩, rfl, by (simp only [Around.deeper, Around.in1]; decide), by (simp only [Around.deeper, Around.in1]; decide)⟩)) (by with_reducible assumption) (by with_reducible assumption) (by with_reducible assumption) (by with_reducible assumption) ?_; intro _ _ _ k9q; (have F8q := Fr.keepsK F9q k9q); (have N8q := News.keepsK N9q k9q); clear F9q N9q k9q)))) | (((with_reducible show wpAny _ _ (eval (Expr.Name _ _) (compEnvC _ _ _ _)) _ _ _); k_dflt (first | (refine blk_C (by assumption) (by rfl) (by k_mem) (by assumption) ?_ (by rfl) (by rfl) (by decide)) | (refine blk_L (by assumption) (by rfl) (by assumption) ?_ (by rfl) (by rfl) (by decide))))) | ((with_reducible show wpAny _ _ (compareOp CmpOp.NotEq (Value.bytes _ _) (Value.bytes _ _)) _ _ _); (k_dflt (refine ne_same ?_))) | ((k_dflt ((with_reducible show wpAny _ _ (call (Value.ref 21) _) _ _ _); (refine c_ap (by (exact ⟨Frag.In.keeps (by assumption) (Fr.keep (by assumption)), ⟨_, _, _, _, _, Top.keeps (by assumption) (Fr.keep (by assumption))⟩, rfl, by (simp only [Around.deeper, Around.in1]; decide), by (simp only [Around.deeper, Around.in1]; decide)⟩)) (by with_reducible assumption) (by with_reducible assumption) (by with_reducible assumption) (by with_reducible assumption) ?_; intro _ _ _ k9q; (rename Fr _ _ _ _ => F9q); (rename News _ _ _ _ => N9q); (have F8q := Fr.keepsK F9q k9q); (have N8q := News.keepsK N9q k9q); clear F9q N9q k9q)))) | ((k_dflt ((with_reducible show wpAny _ _ (call (Value.ref 56) _) _ _ _); (rename Fr _ _ _ _ => F9q); (rename News _ _ _ _ => N9q); (refine c_number (by (exact ⟨Frag.In.keeps (by assumption) (Fr.keep (by assumption)), ⟨_, _, _, _, _, Top.keeps (by assumption) (Fr.keep (by assumption))⟩, rfl, by (simp only [Around.deeper, Around.in1]; decide), by (simp only [Around.deeper, Around.in1]; decide)⟩)) (isList_news N9q (by k_memK)) (by with_reducible assumption) ?_; intro _ _ _ k9q; (have F8q := Fr.keepsK F9q k9q); (have N8q := News.keepsK N9q k9q); clear F9q N9q k9q)))) | ((k_dflt ((with_reducible show wpAny _ _ (call (Value.builtin "len") [Value.ref _]) _ _ _); (rename News _ _ _ _ => N9q); (refine len_news N9q (by k_memK) (by with_reducible assumption) (by omega) ?_)))) | ((k_dflt ((with_reducible show wpAny _ _ (call (Value.type _) [Value.ref _]) _ _ _); (refine list_range _ (by rfl) (by assumption) (by assumption) (by assumption) (by exact small_mine (by omega) (by omega) (by omega)) (by assumption) (by omega) ?_; intro _ _ _ _ _ _ l1q _ _; (try k_lt l1q))))) | ((k_dflt ((with_reducible show wpAny _ _ (call (Value.type _) [Value.int _ _, Value.int _ _]) _ _ _); (refine rng2 (by assumption) (by assumption) ?_); intro _ _ _ _ _ _ _ _ _))) | ((k_dflt ((with_reducible show wpAny _ _ (binaryOp _ (Value.int (_ + 1) _) (Value.int 4 _)) _ _ _); (refine div_q2 (by exact fmod4 _) ?_)))) | walk1 | (dsimp only; walk1) | (leave1; try dsimp only))))
    refine' ExitW.here ⟨_, _, _, _, [], [], _, _⟩ ?Fd ?Nd ?nd ?hpd ?Pd
    case Fd => assumption
    case Nd => assumption
    case hpd => ((repeat' (first | exact List.forall_mem_nil _ | (refine List.forall_mem_cons.mpr ⟨by with_unfolding_all rfl, ?_⟩))))
    case nd => ((repeat' (first | exact List.forall_mem_nil _ | (refine List.forall_mem_cons.mpr ⟨by k_memK, ?_⟩))))
    case Pd => (dsimp only; exact ⟨rfl, by assumption, by omega, by omega, by omega⟩)

  case s3d =>
  clear F1 N1
  rintro ⟨ls, ll, vs, vl, ns, nl, ks, kl⟩ u h tk ⟨hvs, hvl, hlt1, hlt2, hlt3⟩ F1 N1
  dsimp only at hvs hvl hlt1 hlt2 hlt3 F1 N1 ⊢
  subst hvs
  (repeat' (first | (k_unfold; (try dsimp only)) | ((with_reducible show wpAny _ _ (PySem.exec (PySem.Stmt.Return (some (PySem.Expr.Constant (PySem.Const.bool false) _ _)) _) _) _ _ _); exfalso; first | assumption | contradiction | omega) | ((fail_if_success (with_reducible show wpAny _ _ (PySem.exec (PySem.Stmt.For _ _ _ _ _) _) _ _ _)); (fail_if_success (with_reducible show wpAny _ _ (PySem.call (PySem.Value.ref _) _) _ _ _)); (fail_if_success (with_reducible show wpAny _ _ (PySem.pyIter _) _ _ _)); first | ((k_dflt ((with_reducible show wpAny _ _ (call (Value.ref 49) _) _ _ _); (rename Fr _ _ _ _ => F9q); (rename News _ _ _ _ => N9q); (refine c_lev (by (exact ⟨Frag.In.keeps (by assumption) (Fr.keep (by assumption)), ⟨_, _, _, _, _, Top.keeps (by assumption) (Fr.keep (by assumption))⟩, rfl, by (simp only [Around.deeper, Around.in1]; decide), by (simp only [Around.deeper, Around.in1]; decide)⟩)) (by with_reducible assumption) (by with_reducible assumption) (by with_reducible assumption) (by with_reducible assumption) ?_; intro _ _ _ k9q; (have F8q := Fr.keepsK F9q k9q); (have N8q := News.keepsK N9q k9q); clear F9q N9q k9q)))) | ((k_dflt ((with_reducible show wpAny _ _ (call (Value.ref 61) _) _ _ _); (rename Fr _ _ _ _ => F9q); (rename News _ _ _ _ => N9q); (refine c_word (by (exact ⟨Frag.In.keeps (by assumption) (Fr.keep (by assumption)), ⟨_, _, _, _, _, Top.keeps (by assumption) (Fr.keep (by assumption))⟩, rfl, by (simp only [Around.deeper, Around.in1]; decide), by (simp only [Around.deeper, Around.in1]; decide)⟩)) (by with_reducible assumption) (by with_reducible assumption) (by with_reducible assumption) (by with_reducible assumption) ?_; intro _ _ _ k9q; (have F8q := Fr.keepsK F9q k9q); (have N8q := News.keepsK N9q k9q); clear F9q N9q k9q)))) | (((with_reducible show wpAny _ _ (eval (Expr.Name _ _) (compEnvC _ _ _ _)) _ _ _); k_dflt (first | (refine blk_C (by assumption) (by rfl) (by k_mem) (by assumption) ?_ (by rfl) (by rfl) (by decide)) | (refine blk_L (by assumption) (by rfl) (by assumption) ?_ (by rfl) (by rfl) (by decide))))) | ((with_reducible show wpAny _ _ (compareOp CmpOp.NotEq (Value.bytes _ _) (Value.bytes _ _)) _ _ _); (k_dflt (refine ne_same ?_))) | ((k_dflt ((with_reducible show wpAny _ _ (call (Value.ref 21) _) _ _ _); (refine c_ap (by (exact ⟨Frag.In.keeps (by assumption) (Fr.keep (by assumption)), ⟨_, _, _, _, _, Top.keeps (by assumption) (Fr.keep (by assumption))⟩, rfl, by (simp only [Around.deeper, Around.in1]; decide), by (simp only [Around.deeper, Around.in1]; decide)⟩)) (by with_reducible assumption) (by with_reducible assumption) (by with_reducible assumption) (by with_reducible assumption) ?_; intro _ _ _ k9q; (rename Fr _ _ _ _ => F9q); (rename News _ _ _ _ => N9q); (have F8q := Fr.keepsK F9q k9q); (have N8q := News.keepsK N9q k9q); clear F9q N9q k9q)))) | ((k_dflt ((with_reducible show wpAny _ _ (call (Value.ref 56) _) _ _ _); (rename Fr _ _ _ _ => F9q); (rename News _ _ _ _ => N9q); (refine c_number (by (exact ⟨Frag.In.keeps (by assumption) (Fr.keep (by assumption)), ⟨_, _, _, _, _, Top.keeps (by assumption) (Fr.keep (by assumption))⟩, rfl, by (simp only [Around.deeper, Around.in1]; decide), by (simp only [Around.deeper, Around.in1]; decide)⟩)) (isList_news N9q (by k_memK)) (by with_reducible assumption) ?_; intro _ _ _ k9q; (have F8q := Fr.keepsK F9q k9q); (have N8q := News.keepsK N9q k9q); clear F9q N9q k9q)))) | ((k_dflt ((with_reducible show wpAny _ _ (call (Value.builtin "len") [Value.ref _]) _ _ _); (rename News _ _ _ _ => N9q); (refine len_news N9q (by k_memK) (by with_reducible assumption) (by omega) ?_)))) | ((k_dflt ((with_reducible show wpAny _ _ (call (Value.type _) [Value.ref _]) _ _ _); (refine list_range _ (by rfl) (by assumption) (by assumption) (by assumption) (by exact small_mine (by omega) (by omega) (by omega)) (by assumption) (by omega) ?_; intro _ _ _ _ _ _ l1q _ _; (try k_lt l1q))))) | ((k_dflt ((with_reducible show wpAny _ _ (call (Value.type _) [Value.int _ _, Value.int _ _]) _ _ _); (refine rng2 (by assumption) (by assumption) ?_); intro _ _ _ _ _ _ _ _ _))) | ((k_dflt ((with_reducible show wpAny _ _ (binaryOp _ (Value.int (_ + 1) _) (Value.int 4 _)) _ _ _); (refine div_q2 (by exact fmod4 _) ?_)))) | walk1 | (dsimp only; walk1) | (leave1; try dsimp only))))
  refine For_invV s1.heap rfl rfl ?_
  (repeat' (first | (k_unfold; (try dsimp only)) | ((with_reducible show wpAny _ _ (PySem.exec (PySem.Stmt.Return (some (PySem.Expr.Constant (PySem.Const.bool false) _ _)) _) _) _ _ _); exfalso; first | assumption | contradiction | omega) | ((fail_if_success (with_reducible show wpAny _ _ (PySem.exec (PySem.Stmt.For _ _ _ _ _) _) _ _ _)); (fail_if_success (with_reducible show wpAny _ _ (PySem.call (PySem.Value.ref _) _) _ _ _)); (fail_if_success (with_reducible show wpAny _ _ (PySem.pyIter _) _ _ _)); first | ((k_dflt ((with_reducible show wpAny _ _ (call (Value.ref 49) _) _ _ _); (rename Fr _ _ _ _ => F9q); (rename News _ _ _ _ => N9q); (refine c_lev (by (exact ⟨Frag.In.keeps (by assumption) (Fr.keep (by assumption)), ⟨_, _, _, _, _, Top.keeps (by assumption) (Fr.keep (by assumption))⟩, rfl, by (simp only [Around.deeper, Around.in1]; decide), by (simp only [Around.deeper, Around.in1]; decide)⟩)) (by with_reducible assumption) (by with_reducible assumption) (by with_reducible assumption) (by with_reducible assumption) ?_; intro _ _ _ k9q; (have F8q := Fr.keepsK F9q k9q); (have N8q := News.keepsK N9q k9q); clear F9q N9q k9q)))) | ((k_dflt ((with_reducible show wpAny _ _ (call (Value.ref 61) _) _ _ _); (rename Fr _ _ _ _ => F9q); (rename News _ _ _ _ => N9q); (refine c_word (by (exact ⟨Frag.In.keeps (by assumption) (Fr.keep (by assumption)), ⟨_, _, _, _, _, Top.keeps (by assumption) (Fr.keep (by assumption))⟩, rfl, by (simp only [Around.deeper, Around.in1]; decide), by (simp only [Around.deeper, Around.in1]; decide)⟩)) (by with_reducible assumption) (by with_reducible assumption) (by with_reducible assumption) (by with_reducible assumption) ?_; intro _ _ _ k9q; (have F8q := Fr.keepsK F9q k9q); (have N8q := News.keepsK N9q k9q); clear F9q N9q k9q)))) | (((with_reducible show wpAny _ _ (eval (Expr.Name _ _) (compEnvC _ _ _ _)) _ _ _); k_dflt (first | (refine blk_C (by assumption) (by rfl) (by k_mem) (by assumption) ?_ (by rfl) (by rfl) (by decide)) | (refine blk_L (by assumption) (by rfl) (by assumption) ?_ (by rfl) (by rfl) (by decide))))) | ((with_reducible show wpAny _ _ (compareOp CmpOp.NotEq (Value.bytes _ _) (Value.bytes _ _)) _ _ _); (k_dflt (refine ne_same ?_))) | ((k_dflt ((with_reducible show wpAny _ _ (call (Value.ref 21) _) _ _ _); (refine c_ap (by (exact ⟨Frag.In.keeps (by assumption) (Fr.keep (by assumption)), ⟨_, _, _, _, _, Top.keeps (by assumption) (Fr.keep (by assumption))⟩, rfl, by (simp only [Around.deeper, Around.in1]; decide), by (simp only [Around.deeper, Around.in1]; decide)⟩)) (by with_reducible assumption) (by with_reducible assumption) (by with_reducible assumption) (by with_reducible assumption) ?_; intro _ _ _ k9q; (rename Fr _ _ _ _ => F9q); (rename News _ _ _ _ => N9q); (have F8q := Fr.keepsK F9q k9q); (have N8q := News.keepsK N9q k9q); clear F9q N9q k9q)))) | ((k_dflt ((with_reducible show wpAny _ _ (call (Value.ref 56) _) _ _ _); (rename Fr _ _ _ _ => F9q); (rename News _ _ _ _ => N9q); (refine c_number (by (exact ⟨Frag.In.keeps (by assumption) (Fr.keep (by assumption)), ⟨_, _, _, _, _, Top.keeps (by assumption) (Fr.keep (by assumption))⟩, rfl, by (simp only [Around.deeper, Around.in1]; decide), by (simp only [Around.deeper, Around.in1]; decide)⟩)) (isList_news N9q (by k_memK)) (by with_reducible assumption) ?_; intro _ _ _ k9q; (have F8q := Fr.keepsK F9q k9q); (have N8q := News.keepsK N9q k9q); clear F9q N9q k9q)))) | ((k_dflt ((with_reducible show wpAny _ _ (call (Value.builtin "len") [Value.ref _]) _ _ _); (rename News _ _ _ _ => N9q); (refine len_news N9q (by k_memK) (by with_reducible assumption) (by omega) ?_)))) | ((k_dflt ((with_reducible show wpAny _ _ (call (Value.type _) [Value.ref _]) _ _ _); (refine list_range _ (by rfl) (by assumption) (by assumption) (by assumption) (by exact small_mine (by omega) (by omega) (by omega)) (by assumption) (by omega) ?_; intro _ _ _ _ _ _ l1q _ _; (try k_lt l1q))))) | ((k_dflt ((with_reducible show wpAny _ _ (call (Value.type _) [Value.int _ _, Value.int _ _]) _ _ _); (refine rng2 (by assumption) (by assumption) ?_); intro _ _ _ _ _ _ _ _ _))) | ((k_dflt ((with_reducible show wpAny _ _ (binaryOp _ (Value.int (_ + 1) _) (Value.int 4 _)) _ _ _); (refine div_q2 (by exact fmod4 _) ?_)))) | walk1 | (dsimp only; walk1) | (leave1; try dsimp only))))
  rename Fr _ _ _ _ => F2
  rename News _ _ _ _ => N2
  refine' for_range (σ := SD) 8 (fun i => ((i + 1 : Nat) : Int)) ((s1.heap.objs.size + 1, ok) :: [(D, listOf vc.toArray kc)]) (fun c => [(ls, listOf c.vs.toArray c.ks), (ll, listOf c.vl.toArray c.kl)]) (fun c => [(Str.ofString "left", .ref ll), (Str.ofString "start", .ref ls), (Str.ofString "share", .float sa ts), (Str.ofString "level", .float va tl), (Str.ofString "number", .int (N : Int) tN), (Str.ofString "whole", .int z tz), (Str.ofString "cells", .ref D)])
    (fun i c => IntsAre c.vs c.ns ∧ IntsAre c.vl c.nl ∧ c.ns.length = i ∧ c.nl.length = 15 - i ∧ (c.ns ++ c.nl).Perm (rangeL 1 1 15)) ⟨ls, ll, [], vl, [], rangeL 1 1 15, ks, kl⟩ ?hhD ?hrD ?hsD ?hnD ?hgD F2 N2 ?hnewsD ?hp0D ?hjD ?turnD ?doneD
  case hhD => rfl
  case hrD => assumption
  case hsD => decide
  case hnD => decide
  case hgD => intro i; omega
  case hp0D => ((repeat' (first | exact List.forall_mem_nil _ | (refine List.forall_mem_cons.mpr ⟨by with_unfolding_all rfl, ?_⟩))))
  case hnewsD => ((repeat' (first | exact List.forall_mem_nil _ | (refine List.forall_mem_cons.mpr ⟨by k_memK, ?_⟩))))
  case hjD => exact ⟨.nil, hvl, rfl, rfl, .refl _⟩
  case turnD =>

    clear F1 N1 F2 N2 hvl
    rintro i ti ⟨ls', ll', vs, vl, ns, nl, ks, kl⟩ u4 h4 tk4 I io hi ⟨his, hil, hns, hnl, hpm⟩ hio F4 N4 hI1 hI2
    dsimp only at his hil hns hnl hpm F4 N4 hI1
    simp only [List.cons_append, List.nil_append] at N4
    have hlsI : @Ne Nat ls I := hI1 _ (.head _)
    have hllI : @Ne Nat ll I := hI1 _ (.tail _ (.head _))
    have hvsl := his.length
    have hvll := hil.length
    (repeat' (first | (k_unfold; (try dsimp only)) | ((fail_if_success (with_reducible show wpAny _ _ (PySem.call (PySem.Value.builtin "list.pop") _) _ _ _)); (fail_if_success (with_reducible show wpAny _ _ (PySem.call (PySem.Value.builtin "list.append") _) _ _ _)); (fail_if_success (with_reducible show wpAny _ _ (subscriptTail _ _ (Value.ref _) (Value.int _ _)) _ _ _)); first | ((k_dflt ((with_reducible show wpAny _ _ (call (Value.ref 49) _) _ _ _); (rename Fr _ _ _ _ => F9q); (rename News _ _ _ _ => N9q); (refine c_lev (by (exact ⟨Frag.In.keeps (by assumption) (Fr.keep (by assumption)), ⟨_, _, _, _, _, Top.keeps (by assumption) (Fr.keep (by assumption))⟩, rfl, by (simp only [Around.deeper, Around.in1]; decide), by (simp only [Around.deeper, Around.in1]; decide)⟩)) (by with_reducible assumption) (by with_reducible assumption) (by with_reducible assumption) (by with_reducible assumption) ?_; intro _ _ _ k9q; (have F8q := Fr.keepsK F9q k9q); (have N8q := News.keepsK N9q k9q); clear F9q N9q k9q)))) | ((k_dflt ((with_reducible show wpAny _ _ (call (Value.ref 61) _) _ _ _); (rename Fr _ _ _ _ => F9q); (rename News _ _ _ _ => N9q); (refine c_word (by (exact ⟨Frag.In.keeps (by assumption) (Fr.keep (by assumption)), ⟨_, _, _, _, _, Top.keeps (by assumption) (Fr.keep (by assumption))⟩, rfl, by (simp only [Around.deeper, Around.in1]; decide), by (simp only [Around.deeper, Around.in1]; decide)⟩)) (by with_reducible assumption) (by with_reducible assumption) (by with_reducible assumption) (by with_reducible assumption) ?_; intro _ _ _ k9q; (have F8q := Fr.keepsK F9q k9q); (have N8q := News.keepsK N9q k9q); clear F9q N9q k9q)))) | (((with_reducible show wpAny _ _ (eval (Expr.Name _ _) (compEnvC _ _ _ _)) _ _ _); k_dflt (first | (refine blk_C (by assumption) (by rfl) (by k_mem) (by assumption) ?_ (by rfl) (by rfl) (by decide)) | (refine blk_L (by assumption) (by rfl) (by assumption) ?_ (by rfl) (by rfl) (by decide))))) | ((with_reducible show wpAny _ _ (compareOp CmpOp.NotEq (Value.bytes _ _) (Value.bytes _ _)) _ _ _); (k_dflt (refine ne_same ?_))) | ((k_dflt ((with_reducible show wpAny _ _ (call (Value.ref 21) _) _ _ _); (refine c_ap (by (exact ⟨Frag.In.keeps (by assumption) (Fr.keep (by assumption)), ⟨_, _, _, _, _, Top.keeps (by assumption) (Fr.keep (by assumption))⟩, rfl, by (simp only [Around.deeper, Around.in1]; decide), by (simp only [Around.deeper, Around.in1]; decide)⟩)) (by with_reducible assumption) (by with_reducible assumption) (by with_reducible assumption) (by with_reducible assumption) ?_; intro _ _ _ k9q; (rename Fr _ _ _ _ => F9q); (rename News _ _ _ _ => N9q); (have F8q := Fr.keepsK F9q k9q); (have N8q := News.keepsK N9q k9q); clear F9q N9q k9q)))) | ((k_dflt ((with_reducible show wpAny _ _ (call (Value.ref 56) _) _ _ _); (rename Fr _ _ _ _ => F9q); (rename News _ _ _ _ => N9q); (refine c_number (by (exact ⟨Frag.In.keeps (by assumption) (Fr.keep (by assumption)), ⟨_, _, _, _, _, Top.keeps (by assumption) (Fr.keep (by assumption))⟩, rfl, by (simp only [Around.deeper, Around.in1]; decide), by (simp only [Around.deeper, Around.in1]; decide)⟩)) (isList_news N9q (by k_memK)) (by with_reducible assumption) ?_; intro _ _ _ k9q; (have F8q := Fr.keepsK F9q k9q); (have N8q := News.keepsK N9q k9q); clear F9q N9q k9q)))) | ((k_dflt ((with_reducible show wpAny _ _ (call (Value.builtin "len") [Value.ref _]) _ _ _); (rename News _ _ _ _ => N9q); (refine len_news N9q (by k_memK) (by with_reducible assumption) (by omega) ?_)))) | ((k_dflt ((with_reducible show wpAny _ _ (call (Value.type _) [Value.ref _]) _ _ _); (refine list_range _ (by rfl) (by assumption) (by assumption) (by assumption) (by exact small_mine (by omega) (by omega) (by omega)) (by assumption) (by omega) ?_; intro _ _ _ _ _ _ l1q _ _; (try k_lt l1q))))) | ((k_dflt ((with_reducible show wpAny _ _ (call (Value.type _) [Value.int _ _, Value.int _ _]) _ _ _); (refine rng2 (by assumption) (by assumption) ?_); intro _ _ _ _ _ _ _ _ _))) | ((k_dflt ((with_reducible show wpAny _ _ (binaryOp _ (Value.int (_ + 1) _) (Value.int 4 _)) _ _ _); (refine div_q2 (by exact fmod4 _) ?_)))) | walk1 | (dsimp only; walk1) | (leave1; try dsimp only))))
    rename News _ _ _ _ => N5
    refine at_listZ (isList_news N5 (k := kc) (by k_memK)) hnc (by omega) (by omega) (by omega) ?_
    intro tc
    (repeat' (first | (k_unfold; (try dsimp only)) | ((fail_if_success (with_reducible show wpAny _ _ (PySem.call (PySem.Value.builtin "list.pop") _) _ _ _)); (fail_if_success (with_reducible show wpAny _ _ (PySem.call (PySem.Value.builtin "list.append") _) _ _ _)); (fail_if_success (with_reducible show wpAny _ _ (subscriptTail _ _ (Value.ref _) (Value.int _ _)) _ _ _)); first | ((k_dflt ((with_reducible show wpAny _ _ (call (Value.ref 49) _) _ _ _); (rename Fr _ _ _ _ => F9q); (rename News _ _ _ _ => N9q); (refine c_lev (by (exact ⟨Frag.In.keeps (by assumption) (Fr.keep (by assumption)), ⟨_, _, _, _, _, Top.keeps (by assumption) (Fr.keep (by assumption))⟩, rfl, by (simp only [Around.deeper, Around.in1]; decide), by (simp only [Around.deeper, Around.in1]; decide)⟩)) (by with_reducible assumption) (by with_reducible assumption) (by with_reducible assumption) (by with_reducible assumption) ?_; intro _ _ _ k9q; (have F8q := Fr.keepsK F9q k9q); (have N8q := News.keepsK N9q k9q); clear F9q N9q k9q)))) | ((k_dflt ((with_reducible show wpAny _ _ (call (Value.ref 61) _) _ _ _); (rename Fr _ _ _ _ => F9q); (rename News _ _ _ _ => N9q); (refine c_word (by (exact ⟨Frag.In.keeps (by assumption) (Fr.keep (by assumption)), ⟨_, _, _, _, _, Top.keeps (by assumption) (Fr.keep (by assumption))⟩, rfl, by (simp only [Around.deeper, Around.in1]; decide), by (simp only [Around.deeper, Around.in1]; decide)⟩)) (by with_reducible assumption) (by with_reducible assumption) (by with_reducible assumption) (by with_reducible assumption) ?_; intro _ _ _ k9q; (have F8q := Fr.keepsK F9q k9q); (have N8q := News.keepsK N9q k9q); clear F9q N9q k9q)))) | (((with_reducible show wpAny _ _ (eval (Expr.Name _ _) (compEnvC _ _ _ _)) _ _ _); k_dflt (first | (refine blk_C (by assumption) (by rfl) (by k_mem) (by assumption) ?_ (by rfl) (by rfl) (by decide)) | (refine blk_L (by assumption) (by rfl) (by assumption) ?_ (by rfl) (by rfl) (by decide))))) | ((with_reducible show wpAny _ _ (compareOp CmpOp.NotEq (Value.bytes _ _) (Value.bytes _ _)) _ _ _); (k_dflt (refine ne_same ?_))) | ((k_dflt ((with_reducible show wpAny _ _ (call (Value.ref 21) _) _ _ _); (refine c_ap (by (exact ⟨Frag.In.keeps (by assumption) (Fr.keep (by assumption)), ⟨_, _, _, _, _, Top.keeps (by assumption) (Fr.keep (by assumption))⟩, rfl, by (simp only [Around.deeper, Around.in1]; decide), by (simp only [Around.deeper, Around.in1]; decide)⟩)) (by with_reducible assumption) (by with_reducible assumption) (by with_reducible assumption) (by with_reducible assumption) ?_; intro _ _ _ k9q; (rename Fr _ _ _ _ => F9q); (rename News _ _ _ _ => N9q); (have F8q := Fr.keepsK F9q k9q); (have N8q := News.keepsK N9q k9q); clear F9q N9q k9q)))) | ((k_dflt ((with_reducible show wpAny _ _ (call (Value.ref 56) _) _ _ _); (rename Fr _ _ _ _ => F9q); (rename News _ _ _ _ => N9q); (refine c_number (by (exact ⟨Frag.In.keeps (by assumption) (Fr.keep (by assumption)), ⟨_, _, _, _, _, Top.keeps (by assumption) (Fr.keep (by assumption))⟩, rfl, by (simp only [Around.deeper, Around.in1]; decide), by (simp only [Around.deeper, Around.in1]; decide)⟩)) (isList_news N9q (by k_memK)) (by with_reducible assumption) ?_; intro _ _ _ k9q; (have F8q := Fr.keepsK F9q k9q); (have N8q := News.keepsK N9q k9q); clear F9q N9q k9q)))) | ((k_dflt ((with_reducible show wpAny _ _ (call (Value.builtin "len") [Value.ref _]) _ _ _); (rename News _ _ _ _ => N9q); (refine len_news N9q (by k_memK) (by with_reducible assumption) (by omega) ?_)))) | ((k_dflt ((with_reducible show wpAny _ _ (call (Value.type _) [Value.ref _]) _ _ _); (refine list_range _ (by rfl) (by assumption) (by assumption) (by assumption) (by exact small_mine (by omega) (by omega) (by omega)) (by assumption) (by omega) ?_; intro _ _ _ _ _ _ l1q _ _; (try k_lt l1q))))) | ((k_dflt ((with_reducible show wpAny _ _ (call (Value.type _) [Value.int _ _, Value.int _ _]) _ _ _); (refine rng2 (by assumption) (by assumption) ?_); intro _ _ _ _ _ _ _ _ _))) | ((k_dflt ((with_reducible show wpAny _ _ (binaryOp _ (Value.int (_ + 1) _) (Value.int 4 _)) _ _ _); (refine div_q2 (by exact fmod4 _) ?_)))) | walk1 | (dsimp only; walk1) | (leave1; try dsimp only))))
    rename Fr _ _ _ _ => F5
    rename News _ _ _ _ => N5
    obtain ⟨a, ha, ea⟩ := fmodB (5 * ((i + 1 : Nat) : Int) + nc.getD (((i + 1 : Nat) : Int)).toNat 0) nl.length (by omega)
    obtain ⟨tv, htv⟩ := intsAre_at hil ha
    rw [ea]
    refine' popAt (vs := vl) (k := kl) (p := a) F5 N5 rfl htv (by omega) ?Up ?_
    case Up => k_upd
    intro h5 F6 N6
    clear F5 N5
    (repeat' (first | (k_unfold; (try dsimp only)) | ((fail_if_success (with_reducible show wpAny _ _ (PySem.call (PySem.Value.builtin "list.pop") _) _ _ _)); (fail_if_success (with_reducible show wpAny _ _ (PySem.call (PySem.Value.builtin "list.append") _) _ _ _)); (fail_if_success (with_reducible show wpAny _ _ (subscriptTail _ _ (Value.ref _) (Value.int _ _)) _ _ _)); first | ((k_dflt ((with_reducible show wpAny _ _ (call (Value.ref 49) _) _ _ _); (rename Fr _ _ _ _ => F9q); (rename News _ _ _ _ => N9q); (refine c_lev (by (exact ⟨Frag.In.keeps (by assumption) (Fr.keep (by assumption)), ⟨_, _, _, _, _, Top.keeps (by assumption) (Fr.keep (by assumption))⟩, rfl, by (simp only [Around.deeper, Around.in1]; decide), by (simp only [Around.deeper, Around.in1]; decide)⟩)) (by with_reducible assumption) (by with_reducible assumption) (by with_reducible assumption) (by with_reducible assumption) ?_; intro _ _ _ k9q; (have F8q := Fr.keepsK F9q k9q); (have N8q := News.keepsK N9q k9q); clear F9q N9q k9q)))) | ((k_dflt ((with_reducible show wpAny _ _ (call (Value.ref 61) _) _ _ _); (rename Fr _ _ _ _ => F9q); (rename News _ _ _ _ => N9q); (refine c_word (by (exact ⟨Frag.In.keeps (by assumption) (Fr.keep (by assumption)), ⟨_, _, _, _, _, Top.keeps (by assumption) (Fr.keep (by assumption))⟩, rfl, by (simp only [Around.deeper, Around.in1]; decide), by (simp only [Around.deeper, Around.in1]; decide)⟩)) (by with_reducible assumption) (by with_reducible assumption) (by with_reducible assumption) (by with_reducible assumption) ?_; intro _ _ _ k9q; (have F8q := Fr.keepsK F9q k9q); (have N8q := News.keepsK N9q k9q); clear F9q N9q k9q)))) | (((with_reducible show wpAny _ _ (eval (Expr.Name _ _) (compEnvC _ _ _ _)) _ _ _); k_dflt (first | (refine blk_C (by assumption) (by rfl) (by k_mem) (by assumption) ?_ (by rfl) (by rfl) (by decide)) | (refine blk_L (by assumption) (by rfl) (by assumption) ?_ (by rfl) (by rfl) (by decide))))) | ((with_reducible show wpAny _ _ (compareOp CmpOp.NotEq (Value.bytes _ _) (Value.bytes _ _)) _ _ _); (k_dflt (refine ne_same ?_))) | ((k_dflt ((with_reducible show wpAny _ _ (call (Value.ref 21) _) _ _ _); (refine c_ap (by (exact ⟨Frag.In.keeps (by assumption) (Fr.keep (by assumption)), ⟨_, _, _, _, _, Top.keeps (by assumption) (Fr.keep (by assumption))⟩, rfl, by (simp only [Around.deeper, Around.in1]; decide), by (simp only [Around.deeper, Around.in1]; decide)⟩)) (by with_reducible assumption) (by with_reducible assumption) (by with_reducible assumption) (by with_reducible assumption) ?_; intro _ _ _ k9q; (rename Fr _ _ _ _ => F9q); (rename News _ _ _ _ => N9q); (have F8q := Fr.keepsK F9q k9q); (have N8q := News.keepsK N9q k9q); clear F9q N9q k9q)))) | ((k_dflt ((with_reducible show wpAny _ _ (call (Value.ref 56) _) _ _ _); (rename Fr _ _ _ _ => F9q); (rename News _ _ _ _ => N9q); (refine c_number (by (exact ⟨Frag.In.keeps (by assumption) (Fr.keep (by assumption)), ⟨_, _, _, _, _, Top.keeps (by assumption) (Fr.keep (by assumption))⟩, rfl, by (simp only [Around.deeper, Around.in1]; decide), by (simp only [Around.deeper, Around.in1]; decide)⟩)) (isList_news N9q (by k_memK)) (by with_reducible assumption) ?_; intro _ _ _ k9q; (have F8q := Fr.keepsK F9q k9q); (have N8q := News.keepsK N9q k9q); clear F9q N9q k9q)))) | ((k_dflt ((with_reducible show wpAny _ _ (call (Value.builtin "len") [Value.ref _]) _ _ _); (rename News _ _ _ _ => N9q); (refine len_news N9q (by k_memK) (by with_reducible assumption) (by omega) ?_)))) | ((k_dflt ((with_reducible show wpAny _ _ (call (Value.type _) [Value.ref _]) _ _ _); (refine list_range _ (by rfl) (by assumption) (by assumption) (by assumption) (by exact small_mine (by omega) (by omega) (by omega)) (by assumption) (by omega) ?_; intro _ _ _ _ _ _ l1q _ _; (try k_lt l1q))))) | ((k_dflt ((with_reducible show wpAny _ _ (call (Value.type _) [Value.int _ _, Value.int _ _]) _ _ _); (refine rng2 (by assumption) (by assumption) ?_); intro _ _ _ _ _ _ _ _ _))) | ((k_dflt ((with_reducible show wpAny _ _ (binaryOp _ (Value.int (_ + 1) _) (Value.int 4 _)) _ _ _); (refine div_q2 (by exact fmod4 _) ?_)))) | walk1 | (dsimp only; walk1) | (leave1; try dsimp only))))
    rename Fr _ _ _ _ => F7
    rename News _ _ _ _ => N7
    refine' app0 (vs := vs) (k := ks) F7 N7 ?Uq (by omega) ?_
    case Uq => k_upd
    intro h6 F8 N8
    clear F7 N7
    (repeat' (first | (k_unfold; (try dsimp only)) | ((fail_if_success (with_reducible show wpAny _ _ (PySem.call (PySem.Value.builtin "list.pop") _) _ _ _)); (fail_if_success (with_reducible show wpAny _ _ (PySem.call (PySem.Value.builtin "list.append") _) _ _ _)); (fail_if_success (with_reducible show wpAny _ _ (subscriptTail _ _ (Value.ref _) (Value.int _ _)) _ _ _)); first | ((k_dflt ((with_reducible show wpAny _ _ (call (Value.ref 49) _) _ _ _); (rename Fr _ _ _ _ => F9q); (rename News _ _ _ _ => N9q); (refine c_lev (by (exact ⟨Frag.In.keeps (by assumption) (Fr.keep (by assumption)), ⟨_, _, _, _, _, Top.keeps (by assumption) (Fr.keep (by assumption))⟩, rfl, by (simp only [Around.deeper, Around.in1]; decide), by (simp only [Around.deeper, Around.in1]; decide)⟩)) (by with_reducible assumption) (by with_reducible assumption) (by with_reducible assumption) (by with_reducible assumption) ?_; intro _ _ _ k9q; (have F8q := Fr.keepsK F9q k9q); (have N8q := News.keepsK N9q k9q); clear F9q N9q k9q)))) | ((k_dflt ((with_reducible show wpAny _ _ (call (Value.ref 61) _) _ _ _); (rename Fr _ _ _ _ => F9q); (rename News _ _ _ _ => N9q); (refine c_word (by (exact ⟨Frag.In.keeps (by assumption) (Fr.keep (by assumption)), ⟨_, _, _, _, _, Top.keeps (by assumption) (Fr.keep (by assumption))⟩, rfl, by (simp only [Around.deeper, Around.in1]; decide), by (simp only [Around.deeper, Around.in1]; decide)⟩)) (by with_reducible assumption) (by with_reducible assumption) (by with_reducible assumption) (by with_reducible assumption) ?_; intro _ _ _ k9q; (have F8q := Fr.keepsK F9q k9q); (have N8q := News.keepsK N9q k9q); clear F9q N9q k9q)))) | (((with_reducible show wpAny _ _ (eval (Expr.Name _ _) (compEnvC _ _ _ _)) _ _ _); k_dflt (first | (refine blk_C (by assumption) (by rfl) (by k_mem) (by assumption) ?_ (by rfl) (by rfl) (by decide)) | (refine blk_L (by assumption) (by rfl) (by assumption) ?_ (by rfl) (by rfl) (by decide))))) | ((with_reducible show wpAny _ _ (compareOp CmpOp.NotEq (Value.bytes _ _) (Value.bytes _ _)) _ _ _); (k_dflt (refine ne_same ?_))) | ((k_dflt ((with_reducible show wpAny _ _ (call (Value.ref 21) _) _ _ _); (refine c_ap (by (exact ⟨Frag.In.keeps (by assumption) (Fr.keep (by assumption)), ⟨_, _, _, _, _, Top.keeps (by assumption) (Fr.keep (by assumption))⟩, rfl, by (simp only [Around.deeper, Around.in1]; decide), by (simp only [Around.deeper, Around.in1]; decide)⟩)) (by with_reducible assumption) (by with_reducible assumption) (by with_reducible assumption) (by with_reducible assumption) ?_; intro _ _ _ k9q; (rename Fr _ _ _ _ => F9q); (rename News _ _ _ _ => N9q); (have F8q := Fr.keepsK F9q k9q); (have N8q := News.keepsK N9q k9q); clear F9q N9q k9q)))) | ((k_dflt ((with_reducible show wpAny _ _ (call (Value.ref 56) _) _ _ _); (rename Fr _ _ _ _ => F9q); (rename News _ _ _ _ => N9q); (refine c_number (by (exact ⟨Frag.In.keeps (by assumption) (Fr.keep (by assumption)), ⟨_, _, _, _, _, Top.keeps (by assumption) (Fr.keep (by assumption))⟩, rfl, by (simp only [Around.deeper, Around.in1]; decide), by (simp only [Around.deeper, Around.in1]; decide)⟩)) (isList_news N9q (by k_memK)) (by with_reducible assumption) ?_; intro _ _ _ k9q; (have F8q := Fr.keepsK F9q k9q); (have N8q := News.keepsK N9q k9q); clear F9q N9q k9q)))) | ((k_dflt ((with_reducible show wpAny _ _ (call (Value.builtin "len") [Value.ref _]) _ _ _); (rename News _ _ _ _ => N9q); (refine len_news N9q (by k_memK) (by with_reducible assumption) (by omega) ?_)))) | ((k_dflt ((with_reducible show wpAny _ _ (call (Value.type _) [Value.ref _]) _ _ _); (refine list_range _ (by rfl) (by assumption) (by assumption) (by assumption) (by exact small_mine (by omega) (by omega) (by omega)) (by assumption) (by omega) ?_; intro _ _ _ _ _ _ l1q _ _; (try k_lt l1q))))) | ((k_dflt ((with_reducible show wpAny _ _ (call (Value.type _) [Value.int _ _, Value.int _ _]) _ _ _); (refine rng2 (by assumption) (by assumption) ?_); intro _ _ _ _ _ _ _ _ _))) | ((k_dflt ((with_reducible show wpAny _ _ (binaryOp _ (Value.int (_ + 1) _) (Value.int 4 _)) _ _ _); (refine div_q2 (by exact fmod4 _) ?_)))) | walk1 | (dsimp only; walk1) | (leave1; try dsimp only))))
    refine' TurnP.next ⟨ls, ll, vs ++ [_], vl.take a ++ vl.drop (a + 1), ns ++ [nl.getD a 0], nl.take a ++ nl.drop (a + 1), ks + 1, kl + 1⟩ F8 N8 ?nD ?cD ?hpD ?PD
    case hpD => ((repeat' (first | exact List.forall_mem_nil _ | (refine List.forall_mem_cons.mpr ⟨by with_unfolding_all rfl, ?_⟩))))
    case nD => ((repeat' (first | exact List.forall_mem_nil _ | (refine List.forall_mem_cons.mpr ⟨by k_memK, ?_⟩))))
    case cD => rw [hio]; exact List.forall_mem_cons.mpr ⟨(show Value.type "list" ≠ Value.type "range_iterator" by decide), List.forall_mem_cons.mpr ⟨(show Value.type "list" ≠ Value.type "range_iterator" by decide), List.forall_mem_nil _⟩⟩
    case PD => exact ⟨IntsAre.append his (.cons _ _ .nil), IntsAre.append (hil.take a) (hil.drop (a + 1)), by simp [hns], by simp only [List.length_append, List.length_take, List.length_drop]; omega, drawn_perm2 ha hpm⟩

  case doneD =>
  clear F1 N1 F2 N2 hvl
  rintro ⟨ls', ll', vs, vl, ns, nl, ks, kl⟩ u h tk ⟨his, hil, hns, hnl, hpm⟩ F1 N1
  dsimp only at his hil hns hnl hpm F1 N1 ⊢
  obtain ⟨ds, rfl, hnod, hds⟩ := start_of hpm
  clear hpm hil hnl
  have hcl := castsI_length ds
  have hlen : ds.length = 8 := by omega
  have hcls : @LT.lt Nat _ (s1.heap.objs.size + 1) ls := Nat.lt_trans hlt2 hlt1
  clear hlt1 hlt2 hlt3
  have hd16 : ∀ x ∈ ds, x < 16 := fun x hx => (hds x hx).2
  have hdh : ds.head? ≠ some 0 := head_pos hds
  have hdl8 : ds.length ≤ 8 := by omega
  have hnum := num_cards ds
  refine execs_mid (σ := Unit) (L := s1.heap.objs.size) s1.heap (fun _ => (ls, listOf vs.toArray ks) :: [(s1.heap.objs.size + 1, ok)]) (fun _ => [(Str.ofString "start", .ref ls), (Str.ofString "share", .float sa ts), (Str.ofString "level", .float va tl), (Str.ofString "number", .int (N : Int) tN), (Str.ofString "whole", .int z tz)]) (fun _ => True) ?e1 ?e1d
  case e1 =>

    (repeat' (first | (k_unfold; (try dsimp only)) | ((with_reducible show wpAny _ _ (PySem.exec (PySem.Stmt.Return (some (PySem.Expr.Constant (PySem.Const.bool false) _ _)) _) _) _ _ _); exfalso; first | assumption | contradiction | omega) | ((fail_if_success (with_reducible show wpAny _ _ (PySem.exec (PySem.Stmt.For _ _ _ _ _) _) _ _ _)); (fail_if_success (with_reducible show wpAny _ _ (PySem.call (PySem.Value.type "bytes") _) _ _ _)); (fail_if_success (with_reducible show wpAny _ _ (PySem.call (PySem.Value.ref 68) _) _ _ _)); first | ((k_dflt ((with_reducible show wpAny _ _ (call (Value.ref 49) _) _ _ _); (rename Fr _ _ _ _ => F9q); (rename News _ _ _ _ => N9q); (refine c_lev (by (exact ⟨Frag.In.keeps (by assumption) (Fr.keep (by assumption)), ⟨_, _, _, _, _, Top.keeps (by assumption) (Fr.keep (by assumption))⟩, rfl, by (simp only [Around.deeper, Around.in1]; decide), by (simp only [Around.deeper, Around.in1]; decide)⟩)) (by with_reducible assumption) (by with_reducible assumption) (by with_reducible assumption) (by with_reducible assumption) ?_; intro _ _ _ k9q; (have F8q := Fr.keepsK F9q k9q); (have N8q := News.keepsK N9q k9q); clear F9q N9q k9q)))) | ((k_dflt ((with_reducible show wpAny _ _ (call (Value.ref 61) _) _ _ _); (rename Fr _ _ _ _ => F9q); (rename News _ _ _ _ => N9q); (refine c_word (by (exact ⟨Frag.In.keeps (by assumption) (Fr.keep (by assumption)), ⟨_, _, _, _, _, Top.keeps (by assumption) (Fr.keep (by assumption))⟩, rfl, by (simp only [Around.deeper, Around.in1]; decide), by (simp only [Around.deeper, Around.in1]; decide)⟩)) (by with_reducible assumption) (by with_reducible assumption) (by with_reducible assumption) (by with_reducible assumption) ?_; intro _ _ _ k9q; (have F8q := Fr.keepsK F9q k9q); (have N8q := News.keepsK N9q k9q); clear F9q N9q k9q)))) | (((with_reducible show wpAny _ _ (eval (Expr.Name _ _) (compEnvC _ _ _ _)) _ _ _); k_dflt (first | (refine blk_C (by assumption) (by rfl) (by k_mem) (by assumption) ?_ (by rfl) (by rfl) (by decide)) | (refine blk_L (by assumption) (by rfl) (by assumption) ?_ (by rfl) (by rfl) (by decide))))) | ((with_reducible show wpAny _ _ (compareOp CmpOp.NotEq (Value.bytes _ _) (Value.bytes _ _)) _ _ _); (k_dflt (refine ne_same ?_))) | ((k_dflt ((with_reducible show wpAny _ _ (call (Value.ref 21) _) _ _ _); (refine c_ap (by (exact ⟨Frag.In.keeps (by assumption) (Fr.keep (by assumption)), ⟨_, _, _, _, _, Top.keeps (by assumption) (Fr.keep (by assumption))⟩, rfl, by (simp only [Around.deeper, Around.in1]; decide), by (simp only [Around.deeper, Around.in1]; decide)⟩)) (by with_reducible assumption) (by with_reducible assumption) (by with_reducible assumption) (by with_reducible assumption) ?_; intro _ _ _ k9q; (rename Fr _ _ _ _ => F9q); (rename News _ _ _ _ => N9q); (have F8q := Fr.keepsK F9q k9q); (have N8q := News.keepsK N9q k9q); clear F9q N9q k9q)))) | ((k_dflt ((with_reducible show wpAny _ _ (call (Value.ref 56) _) _ _ _); (rename Fr _ _ _ _ => F9q); (rename News _ _ _ _ => N9q); (refine c_number (by (exact ⟨Frag.In.keeps (by assumption) (Fr.keep (by assumption)), ⟨_, _, _, _, _, Top.keeps (by assumption) (Fr.keep (by assumption))⟩, rfl, by (simp only [Around.deeper, Around.in1]; decide), by (simp only [Around.deeper, Around.in1]; decide)⟩)) (isList_news N9q (by k_memK)) (by with_reducible assumption) ?_; intro _ _ _ k9q; (have F8q := Fr.keepsK F9q k9q); (have N8q := News.keepsK N9q k9q); clear F9q N9q k9q)))) | ((k_dflt ((with_reducible show wpAny _ _ (call (Value.builtin "len") [Value.ref _]) _ _ _); (rename News _ _ _ _ => N9q); (refine len_news N9q (by k_memK) (by with_reducible assumption) (by omega) ?_)))) | ((k_dflt ((with_reducible show wpAny _ _ (call (Value.type _) [Value.ref _]) _ _ _); (refine list_range _ (by rfl) (by assumption) (by assumption) (by assumption) (by exact small_mine (by omega) (by omega) (by omega)) (by assumption) (by omega) ?_; intro _ _ _ _ _ _ l1q _ _; (try k_lt l1q))))) | ((k_dflt ((with_reducible show wpAny _ _ (call (Value.type _) [Value.int _ _, Value.int _ _]) _ _ _); (refine rng2 (by assumption) (by assumption) ?_); intro _ _ _ _ _ _ _ _ _))) | ((k_dflt ((with_reducible show wpAny _ _ (binaryOp _ (Value.int (_ + 1) _) (Value.int 4 _)) _ _ _); (refine div_q2 (by exact fmod4 _) ?_)))) | walk1 | (dsimp only; walk1) | (leave1; try dsimp only))))
    rename Fr _ _ _ _ => F8
    rename News _ _ _ _ => N8
    refine KBa.make_K F8 N8 rfl (isList_news N8 (.head _)) (by assumption) (in_ap hd16) (by simp only [List.length_map, hcl]; omega) ?_
    intro h9 t9 k9 F9 N9 _
    rw [arr_ap]
    clear F8 N8
    (repeat' (first | (k_unfold; (try dsimp only)) | ((with_reducible show wpAny _ _ (PySem.exec (PySem.Stmt.Return (some (PySem.Expr.Constant (PySem.Const.bool false) _ _)) _) _) _ _ _); exfalso; first | assumption | contradiction | omega) | ((fail_if_success (with_reducible show wpAny _ _ (PySem.exec (PySem.Stmt.For _ _ _ _ _) _) _ _ _)); (fail_if_success (with_reducible show wpAny _ _ (PySem.call (PySem.Value.type "bytes") _) _ _ _)); (fail_if_success (with_reducible show wpAny _ _ (PySem.call (PySem.Value.ref 68) _) _ _ _)); first | ((k_dflt ((with_reducible show wpAny _ _ (call (Value.ref 49) _) _ _ _); (rename Fr _ _ _ _ => F9q); (rename News _ _ _ _ => N9q); (refine c_lev (by (exact ⟨Frag.In.keeps (by assumption) (Fr.keep (by assumption)), ⟨_, _, _, _, _, Top.keeps (by assumption) (Fr.keep (by assumption))⟩, rfl, by (simp only [Around.deeper, Around.in1]; decide), by (simp only [Around.deeper, Around.in1]; decide)⟩)) (by with_reducible assumption) (by with_reducible assumption) (by with_reducible assumption) (by with_reducible assumption) ?_; intro _ _ _ k9q; (have F8q := Fr.keepsK F9q k9q); (have N8q := News.keepsK N9q k9q); clear F9q N9q k9q)))) | ((k_dflt ((with_reducible show wpAny _ _ (call (Value.ref 61) _) _ _ _); (rename Fr _ _ _ _ => F9q); (rename News _ _ _ _ => N9q); (refine c_word (by (exact ⟨Frag.In.keeps (by assumption) (Fr.keep (by assumption)), ⟨_, _, _, _, _, Top.keeps (by assumption) (Fr.keep (by assumption))⟩, rfl, by (simp only [Around.deeper, Around.in1]; decide), by (simp only [Around.deeper, Around.in1]; decide)⟩)) (by with_reducible assumption) (by with_reducible assumption) (by with_reducible assumption) (by with_reducible assumption) ?_; intro _ _ _ k9q; (have F8q := Fr.keepsK F9q k9q); (have N8q := News.keepsK N9q k9q); clear F9q N9q k9q)))) | (((with_reducible show wpAny _ _ (eval (Expr.Name _ _) (compEnvC _ _ _ _)) _ _ _); k_dflt (first | (refine blk_C (by assumption) (by rfl) (by k_mem) (by assumption) ?_ (by rfl) (by rfl) (by decide)) | (refine blk_L (by assumption) (by rfl) (by assumption) ?_ (by rfl) (by rfl) (by decide))))) | ((with_reducible show wpAny _ _ (compareOp CmpOp.NotEq (Value.bytes _ _) (Value.bytes _ _)) _ _ _); (k_dflt (refine ne_same ?_))) | ((k_dflt ((with_reducible show wpAny _ _ (call (Value.ref 21) _) _ _ _); (refine c_ap (by (exact ⟨Frag.In.keeps (by assumption) (Fr.keep (by assumption)), ⟨_, _, _, _, _, Top.keeps (by assumption) (Fr.keep (by assumption))⟩, rfl, by (simp only [Around.deeper, Around.in1]; decide), by (simp only [Around.deeper, Around.in1]; decide)⟩)) (by with_reducible assumption) (by with_reducible assumption) (by with_reducible assumption) (by with_reducible assumption) ?_; intro _ _ _ k9q; (rename Fr _ _ _ _ => F9q); (rename News _ _ _ _ => N9q); (have F8q := Fr.keepsK F9q k9q); (have N8q := News.keepsK N9q k9q); clear F9q N9q k9q)))) | ((k_dflt ((with_reducible show wpAny _ _ (call (Value.ref 56) _) _ _ _); (rename Fr _ _ _ _ => F9q); (rename News _ _ _ _ => N9q); (refine c_number (by (exact ⟨Frag.In.keeps (by assumption) (Fr.keep (by assumption)), ⟨_, _, _, _, _, Top.keeps (by assumption) (Fr.keep (by assumption))⟩, rfl, by (simp only [Around.deeper, Around.in1]; decide), by (simp only [Around.deeper, Around.in1]; decide)⟩)) (isList_news N9q (by k_memK)) (by with_reducible assumption) ?_; intro _ _ _ k9q; (have F8q := Fr.keepsK F9q k9q); (have N8q := News.keepsK N9q k9q); clear F9q N9q k9q)))) | ((k_dflt ((with_reducible show wpAny _ _ (call (Value.builtin "len") [Value.ref _]) _ _ _); (rename News _ _ _ _ => N9q); (refine len_news N9q (by k_memK) (by with_reducible assumption) (by omega) ?_)))) | ((k_dflt ((with_reducible show wpAny _ _ (call (Value.type _) [Value.ref _]) _ _ _); (refine list_range _ (by rfl) (by assumption) (by assumption) (by assumption) (by exact small_mine (by omega) (by omega) (by omega)) (by assumption) (by omega) ?_; intro _ _ _ _ _ _ l1q _ _; (try k_lt l1q))))) | ((k_dflt ((with_reducible show wpAny _ _ (call (Value.type _) [Value.int _ _, Value.int _ _]) _ _ _); (refine rng2 (by assumption) (by assumption) ?_); intro _ _ _ _ _ _ _ _ _))) | ((k_dflt ((with_reducible show wpAny _ _ (binaryOp _ (Value.int (_ + 1) _) (Value.int 4 _)) _ _ _); (refine div_q2 (by exact fmod4 _) ?_)))) | walk1 | (dsimp only; walk1) | (leave1; try dsimp only))))
    refine' ExitW.here () ?Fe1 ?Ne1 ?ne1 ?hpe1 trivial
    case Fe1 => assumption
    case Ne1 => assumption
    case hpe1 => ((repeat' (first | exact List.forall_mem_nil _ | (refine List.forall_mem_cons.mpr ⟨by with_unfolding_all rfl, ?_⟩))))
    case ne1 => ((repeat' (first | exact List.forall_mem_nil _ | (refine List.forall_mem_cons.mpr ⟨by k_memK, ?_⟩))))

  case e1d =>
  clear F1 N1
  rintro - u h tk - F1 N1
  try dsimp only at F1 N1 ⊢
  refine execs_mid (σ := Row) (L := s1.heap.objs.size) s1.heap (fun c => (c.l, listOf c.vs.toArray c.k) :: (ls, listOf vs.toArray ks) :: [(s1.heap.objs.size + 1, ok)]) (fun c => [(Str.ofString "steps", .ref c.l), (Str.ofString "start", .ref ls), (Str.ofString "share", .float sa ts), (Str.ofString "level", .float va tl), (Str.ofString "number", .int (N : Int) tN), (Str.ofString "whole", .int z tz)]) (fun c => IntsAre c.vs (stepsL N) ∧ @Ne Nat c.l (s1.heap.objs.size + 1)) ?e2 ?e2d
  case e2 =>

    (repeat' (first | (k_unfold; (try dsimp only)) | ((with_reducible show wpAny _ _ (PySem.exec (PySem.Stmt.Return (some (PySem.Expr.Constant (PySem.Const.bool false) _ _)) _) _) _ _ _); exfalso; first | assumption | contradiction | omega) | ((fail_if_success (with_reducible show wpAny _ _ (PySem.exec (PySem.Stmt.For _ _ _ _ _) _) _ _ _)); (fail_if_success (with_reducible show wpAny _ _ (PySem.call (PySem.Value.type "bytes") _) _ _ _)); (fail_if_success (with_reducible show wpAny _ _ (PySem.call (PySem.Value.ref 68) _) _ _ _)); first | ((k_dflt ((with_reducible show wpAny _ _ (call (Value.ref 49) _) _ _ _); (rename Fr _ _ _ _ => F9q); (rename News _ _ _ _ => N9q); (refine c_lev (by (exact ⟨Frag.In.keeps (by assumption) (Fr.keep (by assumption)), ⟨_, _, _, _, _, Top.keeps (by assumption) (Fr.keep (by assumption))⟩, rfl, by (simp only [Around.deeper, Around.in1]; decide), by (simp only [Around.deeper, Around.in1]; decide)⟩)) (by with_reducible assumption) (by with_reducible assumption) (by with_reducible assumption) (by with_reducible assumption) ?_; intro _ _ _ k9q; (have F8q := Fr.keepsK F9q k9q); (have N8q := News.keepsK N9q k9q); clear F9q N9q k9q)))) | ((k_dflt ((with_reducible show wpAny _ _ (call (Value.ref 61) _) _ _ _); (rename Fr _ _ _ _ => F9q); (rename News _ _ _ _ => N9q); (refine c_word (by (exact ⟨Frag.In.keeps (by assumption) (Fr.keep (by assumption)), ⟨_, _, _, _, _, Top.keeps (by assumption) (Fr.keep (by assumption))⟩, rfl, by (simp only [Around.deeper, Around.in1]; decide), by (simp only [Around.deeper, Around.in1]; decide)⟩)) (by with_reducible assumption) (by with_reducible assumption) (by with_reducible assumption) (by with_reducible assumption) ?_; intro _ _ _ k9q; (have F8q := Fr.keepsK F9q k9q); (have N8q := News.keepsK N9q k9q); clear F9q N9q k9q)))) | (((with_reducible show wpAny _ _ (eval (Expr.Name _ _) (compEnvC _ _ _ _)) _ _ _); k_dflt (first | (refine blk_C (by assumption) (by rfl) (by k_mem) (by assumption) ?_ (by rfl) (by rfl) (by decide)) | (refine blk_L (by assumption) (by rfl) (by assumption) ?_ (by rfl) (by rfl) (by decide))))) | ((with_reducible show wpAny _ _ (compareOp CmpOp.NotEq (Value.bytes _ _) (Value.bytes _ _)) _ _ _); (k_dflt (refine ne_same ?_))) | ((k_dflt ((with_reducible show wpAny _ _ (call (Value.ref 21) _) _ _ _); (refine c_ap (by (exact ⟨Frag.In.keeps (by assumption) (Fr.keep (by assumption)), ⟨_, _, _, _, _, Top.keeps (by assumption) (Fr.keep (by assumption))⟩, rfl, by (simp only [Around.deeper, Around.in1]; decide), by (simp only [Around.deeper, Around.in1]; decide)⟩)) (by with_reducible assumption) (by with_reducible assumption) (by with_reducible assumption) (by with_reducible assumption) ?_; intro _ _ _ k9q; (rename Fr _ _ _ _ => F9q); (rename News _ _ _ _ => N9q); (have F8q := Fr.keepsK F9q k9q); (have N8q := News.keepsK N9q k9q); clear F9q N9q k9q)))) | ((k_dflt ((with_reducible show wpAny _ _ (call (Value.ref 56) _) _ _ _); (rename Fr _ _ _ _ => F9q); (rename News _ _ _ _ => N9q); (refine c_number (by (exact ⟨Frag.In.keeps (by assumption) (Fr.keep (by assumption)), ⟨_, _, _, _, _, Top.keeps (by assumption) (Fr.keep (by assumption))⟩, rfl, by (simp only [Around.deeper, Around.in1]; decide), by (simp only [Around.deeper, Around.in1]; decide)⟩)) (isList_news N9q (by k_memK)) (by with_reducible assumption) ?_; intro _ _ _ k9q; (have F8q := Fr.keepsK F9q k9q); (have N8q := News.keepsK N9q k9q); clear F9q N9q k9q)))) | ((k_dflt ((with_reducible show wpAny _ _ (call (Value.builtin "len") [Value.ref _]) _ _ _); (rename News _ _ _ _ => N9q); (refine len_news N9q (by k_memK) (by with_reducible assumption) (by omega) ?_)))) | ((k_dflt ((with_reducible show wpAny _ _ (call (Value.type _) [Value.ref _]) _ _ _); (refine list_range _ (by rfl) (by assumption) (by assumption) (by assumption) (by exact small_mine (by omega) (by omega) (by omega)) (by assumption) (by omega) ?_; intro _ _ _ _ _ _ l1q _ _; (try k_lt l1q))))) | ((k_dflt ((with_reducible show wpAny _ _ (call (Value.type _) [Value.int _ _, Value.int _ _]) _ _ _); (refine rng2 (by assumption) (by assumption) ?_); intro _ _ _ _ _ _ _ _ _))) | ((k_dflt ((with_reducible show wpAny _ _ (binaryOp _ (Value.int (_ + 1) _) (Value.int 4 _)) _ _ _); (refine div_q2 (by exact fmod4 _) ?_)))) | walk1 | (dsimp only; walk1) | (leave1; try dsimp only))))
    rename Fr _ _ _ _ => F8
    rename News _ _ _ _ => N8
    refine c_steps ?Ce2 hN ?_
    case Ce2 => (exact ⟨Frag.In.keeps (by assumption) (Fr.keep (by assumption)), ⟨_, _, _, _, _, Top.keeps (by assumption) (Fr.keep (by assumption))⟩, rfl, by (simp only [Around.deeper, Around.in1]; decide), by (simp only [Around.deeper, Around.in1]; decide)⟩)
    intro lt vt kt h9 tk9 kk hit hnone hsome
    have hltc : @Ne Nat lt (s1.heap.objs.size + 1) := ne_made N8 (by k_memK) hnone
    have F9 := Fr.keepsK F8 kk
    have N9 := News.addK F8 N8 kk hnone hsome
    clear F8 N8 kk hnone hsome
    (repeat' (first | (k_unfold; (try dsimp only)) | ((with_reducible show wpAny _ _ (PySem.exec (PySem.Stmt.Return (some (PySem.Expr.Constant (PySem.Const.bool false) _ _)) _) _) _ _ _); exfalso; first | assumption | contradiction | omega) | ((fail_if_success (with_reducible show wpAny _ _ (PySem.exec (PySem.Stmt.For _ _ _ _ _) _) _ _ _)); (fail_if_success (with_reducible show wpAny _ _ (PySem.call (PySem.Value.type "bytes") _) _ _ _)); (fail_if_success (with_reducible show wpAny _ _ (PySem.call (PySem.Value.ref 68) _) _ _ _)); first | ((k_dflt ((with_reducible show wpAny _ _ (call (Value.ref 49) _) _ _ _); (rename Fr _ _ _ _ => F9q); (rename News _ _ _ _ => N9q); (refine c_lev (by (exact ⟨Frag.In.keeps (by assumption) (Fr.keep (by assumption)), ⟨_, _, _, _, _, Top.keeps (by assumption) (Fr.keep (by assumption))⟩, rfl, by (simp only [Around.deeper, Around.in1]; decide), by (simp only [Around.deeper, Around.in1]; decide)⟩)) (by with_reducible assumption) (by with_reducible assumption) (by with_reducible assumption) (by with_reducible assumption) ?_; intro _ _ _ k9q; (have F8q := Fr.keepsK F9q k9q); (have N8q := News.keepsK N9q k9q); clear F9q N9q k9q)))) | ((k_dflt ((with_reducible show wpAny _ _ (call (Value.ref 61) _) _ _ _); (rename Fr _ _ _ _ => F9q); (rename News _ _ _ _ => N9q); (refine c_word (by (exact ⟨Frag.In.keeps (by assumption) (Fr.keep (by assumption)), ⟨_, _, _, _, _, Top.keeps (by assumption) (Fr.keep (by assumption))⟩, rfl, by (simp only [Around.deeper, Around.in1]; decide), by (simp only [Around.deeper, Around.in1]; decide)⟩)) (by with_reducible assumption) (by with_reducible assumption) (by with_reducible assumption) (by with_reducible assumption) ?_; intro _ _ _ k9q; (have F8q := Fr.keepsK F9q k9q); (have N8q := News.keepsK N9q k9q); clear F9q N9q k9q)))) | (((with_reducible show wpAny _ _ (eval (Expr.Name _ _) (compEnvC _ _ _ _)) _ _ _); k_dflt (first | (refine blk_C (by assumption) (by rfl) (by k_mem) (by assumption) ?_ (by rfl) (by rfl) (by decide)) | (refine blk_L (by assumption) (by rfl) (by assumption) ?_ (by rfl) (by rfl) (by decide))))) | ((with_reducible show wpAny _ _ (compareOp CmpOp.NotEq (Value.bytes _ _) (Value.bytes _ _)) _ _ _); (k_dflt (refine ne_same ?_))) | ((k_dflt ((with_reducible show wpAny _ _ (call (Value.ref 21) _) _ _ _); (refine c_ap (by (exact ⟨Frag.In.keeps (by assumption) (Fr.keep (by assumption)), ⟨_, _, _, _, _, Top.keeps (by assumption) (Fr.keep (by assumption))⟩, rfl, by (simp only [Around.deeper, Around.in1]; decide), by (simp only [Around.deeper, Around.in1]; decide)⟩)) (by with_reducible assumption) (by with_reducible assumption) (by with_reducible assumption) (by with_reducible assumption) ?_; intro _ _ _ k9q; (rename Fr _ _ _ _ => F9q); (rename News _ _ _ _ => N9q); (have F8q := Fr.keepsK F9q k9q); (have N8q := News.keepsK N9q k9q); clear F9q N9q k9q)))) | ((k_dflt ((with_reducible show wpAny _ _ (call (Value.ref 56) _) _ _ _); (rename Fr _ _ _ _ => F9q); (rename News _ _ _ _ => N9q); (refine c_number (by (exact ⟨Frag.In.keeps (by assumption) (Fr.keep (by assumption)), ⟨_, _, _, _, _, Top.keeps (by assumption) (Fr.keep (by assumption))⟩, rfl, by (simp only [Around.deeper, Around.in1]; decide), by (simp only [Around.deeper, Around.in1]; decide)⟩)) (isList_news N9q (by k_memK)) (by with_reducible assumption) ?_; intro _ _ _ k9q; (have F8q := Fr.keepsK F9q k9q); (have N8q := News.keepsK N9q k9q); clear F9q N9q k9q)))) | ((k_dflt ((with_reducible show wpAny _ _ (call (Value.builtin "len") [Value.ref _]) _ _ _); (rename News _ _ _ _ => N9q); (refine len_news N9q (by k_memK) (by with_reducible assumption) (by omega) ?_)))) | ((k_dflt ((with_reducible show wpAny _ _ (call (Value.type _) [Value.ref _]) _ _ _); (refine list_range _ (by rfl) (by assumption) (by assumption) (by assumption) (by exact small_mine (by omega) (by omega) (by omega)) (by assumption) (by omega) ?_; intro _ _ _ _ _ _ l1q _ _; (try k_lt l1q))))) | ((k_dflt ((with_reducible show wpAny _ _ (call (Value.type _) [Value.int _ _, Value.int _ _]) _ _ _); (refine rng2 (by assumption) (by assumption) ?_); intro _ _ _ _ _ _ _ _ _))) | ((k_dflt ((with_reducible show wpAny _ _ (binaryOp _ (Value.int (_ + 1) _) (Value.int 4 _)) _ _ _); (refine div_q2 (by exact fmod4 _) ?_)))) | walk1 | (dsimp only; walk1) | (leave1; try dsimp only))))
    refine' ExitW.here ⟨lt, vt, kt⟩ ?Fe2 ?Ne2 ?ne2 ?hpe2 ⟨hit, hltc⟩
    case Fe2 => assumption
    case Ne2 => assumption
    case hpe2 => ((repeat' (first | exact List.forall_mem_nil _ | (refine List.forall_mem_cons.mpr ⟨by with_unfolding_all rfl, ?_⟩))))
    case ne2 => ((repeat' (first | exact List.forall_mem_nil _ | (refine List.forall_mem_cons.mpr ⟨by k_memK, ?_⟩))))

  case e2d =>
  clear F1 N1
  rintro ⟨lt, vt, kt⟩ u h tk ⟨hit, hltc⟩ F1 N1
  dsimp only at hit hltc F1 N1 ⊢
  have hsl := stepsL_length N
  refine execs_mid (σ := Unit) (L := s1.heap.objs.size) s1.heap (fun _ => (lt, listOf vt.toArray kt) :: (ls, listOf vs.toArray ks) :: [(s1.heap.objs.size + 1, ok)]) (fun _ => [(Str.ofString "steps", .ref lt), (Str.ofString "start", .ref ls), (Str.ofString "share", .float sa ts), (Str.ofString "level", .float va tl), (Str.ofString "number", .int (N : Int) tN), (Str.ofString "whole", .int z tz)]) (fun _ => True) ?e3 ?e3d
  case e3 =>
    --{
    (repeat' (first | (k_unfold; (try dsimp only)) | ((with_reducible show wpAny _ _ (PySem.exec (PySem.Stmt.Return (some (PySem.Expr.Constant (PySem.Const.bool false) _ _)) _) _) _ _ _); exfalso; first | assumption | contradiction | omega) | ((fail_if_success (with_reducible show wpAny _ _ (PySem.exec (PySem.Stmt.For _ _ _ _ _) _) _ _ _)); (fail_if_success (with_reducible show wpAny _ _ (PySem.call (PySem.Value.type "bytes") _) _ _ _)); (fail_if_success (with_reducible show wpAny _ _ (PySem.call (PySem.Value.ref 68) _) _ _ _)); first | ((k_dflt ((with_reducible show wpAny _ _ (call (Value.ref 49) _) _ _ _); (rename Fr _ _ _ _ => F9q); (rename News _ _ _ _ => N9q); (refine c_lev (by (exact ⟨Frag.In.keeps (by assumption) (Fr.keep (by assumption)), ⟨_, _, _, _, _, Top.keeps (by assumption) (Fr.keep (by assumption))⟩, rfl, by (simp only [Around.deeper, Around.in1]; decide), by (simp only [Around.deeper, Around.in1]; decide)⟩)) (by with_reducible assumption) (by with_reducible assumption) (by with_reducible assumption) (by with_reducible assumption) ?_; intro _ _ _ k9q; (have F8q := Fr.keepsK F9q k9q); (have N8q := News.keepsK N9q k9q); clear F9q N9q k9q)))) | ((k_dflt ((with_reducible show wpAny _ _ (call (Value.ref 61) _) _ _ _); (rename Fr _ _ _ _ => F9q); (rename News _ _ _ _ => N9q); (refine c_word (by (exact ⟨Frag.In.keeps (by assumption) (Fr.keep (by assumption)), ⟨_, _, _, _, _, Top.keeps (by assumption) (Fr.keep (by assumption))⟩, rfl, by (simp only [Around.deeper, Around.in1]; decide), by (simp only [Around.deeper, Around.in1]; decide)⟩)) (by with_reducible assumption) (by with_reducible assumption) (by with_reducible assumption) (by with_reducible assumption) ?_; intro _ _ _ k9q; (have F8q := Fr.keepsK F9q k9q); (have N8q := News.keepsK N9q k9q); clear F9q N9q k9q)))) | (((with_reducible show wpAny _ _ (eval (Expr.Name _ _) (compEnvC _ _ _ _)) _ _ _); k_dflt (first | (refine blk_C (by assumption) (by rfl) (by k_mem) (by assumption) ?_ (by rfl) (by rfl) (by decide)) | (refine blk_L (by assumption) (by rfl) (by assumption) ?_ (by rfl) (by rfl) (by decide))))) | ((with_reducible show wpAny _ _ (compareOp CmpOp.NotEq (Value.bytes _ _) (Value.bytes _ _)) _ _ _); (k_dflt (refine ne_same ?_))) | ((k_dflt ((with_reducible show wpAny _ _ (call (Value.ref 21) _) _ _ _); (refine c_ap (by (exact ⟨Frag.In.keeps (by assumption) (Fr.keep (by assumption)), ⟨_, _, _, _, _, Top.keeps (by assumption) (Fr.keep (by assumption))⟩, rfl, by (simp only [Around.deeper, Around.in1]; decide), by (simp only [Around.deeper, Around.in1]; decide)⟩)) (by with_reducible assumption) (by with_reducible assumption) (by with_reducible assumption) (by with_reducible assumption) ?_; intro _ _ _ k9q; (rename Fr _ _ _ _ => F9q); (rename News _ _ _ _ => N9q); (have F8q := Fr.keepsK F9q k9q); (have N8q := News.keepsK N9q k9q); clear F9q N9q k9q)))) | ((k_dflt ((with_reducible show wpAny _ _ (call (Value.ref 56) _) _ _ _); (rename Fr _ _ _ _ => F9q); (rename News _ _ _ _ => N9q); (refine c_number (by (exact ⟨Frag.In.keeps (by assumption) (Fr.keep (by assumption)), ⟨_, _, _, _, _, Top.keeps (by assumption) (Fr.keep (by assumption))⟩, rfl, by (simp only [Around.deeper, Around.in1]; decide), by (simp only [Around.deeper, Around.in1]; decide)⟩)) (isList_news N9q (by k_memK)) (by with_reducible assumption) ?_; intro _ _ _ k9q; (have F8q := Fr.keepsK F9q k9q); (have N8q := News.keepsK N9q k9q); clear F9q N9q k9q)))) | ((k_dflt ((with_reducible show wpAny _ _ (call (Value.builtin "len") [Value.ref _]) _ _ _); (rename News _ _ _ _ => N9q); (refine len_news N9q (by k_memK) (by with_reducible assumption) (by omega) ?_)))) | ((k_dflt ((with_reducible show wpAny _ _ (call (Value.type _) [Value.ref _]) _ _ _); (refine list_range _ (by rfl) (by assumption) (by assumption) (by assumption) (by exact small_mine (by omega) (by omega) (by omega)) (by assumption) (by omega) ?_; intro _ _ _ _ _ _ l1q _ _; (try k_lt l1q))))) | ((k_dflt ((with_reducible show wpAny _ _ (call (Value.type _) [Value.int _ _, Value.int _ _]) _ _ _); (refine rng2 (by assumption) (by assumption) ?_); intro _ _ _ _ _ _ _ _ _))) | ((k_dflt ((with_reducible show wpAny _ _ (binaryOp _ (Value.int (_ + 1) _) (Value.int 4 _)) _ _ _); (refine div_q2 (by exact fmod4 _) ?_)))) | walk1 | (dsimp only; walk1) | (leave1; try dsimp only))))
    refine' ExitW.here () ?Fe3 ?Ne3 ?ne3 ?hpe3 trivial
    case Fe3 => assumption
    case Ne3 => assumption
    case hpe3 => ((repeat' (first | exact List.forall_mem_nil _ | (refine List.forall_mem_cons.mpr ⟨by with_unfolding_all rfl, ?_⟩))))
    case ne3 => ((repeat' (first | exact List.forall_mem_nil _ | (refine List.forall_mem_cons.mpr ⟨by k_memK, ?_⟩))))
    --}
  case e3d =>
  clear F1 N1
  rintro - u h tk - F1 N1
  try dsimp only at F1 N1 ⊢
  obtain ⟨p0, hp0, ep0⟩ := mod8 (z.fdiv 16)
  refine execs_mid (σ := Obj × Nat × Nat) (L := s1.heap.objs.size) s1.heap (fun c => (lt, listOf vt.toArray kt) :: (ls, listOf vs.toArray ks) :: [(s1.heap.objs.size + 1, c.1)]) (fun c => [(Str.ofString "place", .int (p0 : Int) c.2.1), (Str.ofString "figures", .int ((0 : Nat) : Int) c.2.2), (Str.ofString "steps", .ref lt), (Str.ofString "start", .ref ls), (Str.ofString "share", .float sa ts), (Str.ofString "level", .float va tl), (Str.ofString "number", .int (N : Int) tN), (Str.ofString "whole", .int z tz)]) (fun c => c.1.data = .cell (some (.ref ls))) ?e4 ?e4d
  case e4 =>
    --{
    (repeat' (first | (k_unfold; (try dsimp only)) | ((with_reducible show wpAny _ _ (PySem.exec (PySem.Stmt.Return (some (PySem.Expr.Constant (PySem.Const.bool false) _ _)) _) _) _ _ _); exfalso; first | assumption | contradiction | omega) | ((fail_if_success (with_reducible show wpAny _ _ (PySem.exec (PySem.Stmt.For _ _ _ _ _) _) _ _ _)); (fail_if_success (with_reducible show wpAny _ _ (PySem.call (PySem.Value.type "bytes") _) _ _ _)); (fail_if_success (with_reducible show wpAny _ _ (PySem.call (PySem.Value.ref 68) _) _ _ _)); first | ((k_dflt ((with_reducible show wpAny _ _ (call (Value.ref 49) _) _ _ _); (rename Fr _ _ _ _ => F9q); (rename News _ _ _ _ => N9q); (refine c_lev (by (exact ⟨Frag.In.keeps (by assumption) (Fr.keep (by assumption)), ⟨_, _, _, _, _, Top.keeps (by assumption) (Fr.keep (by assumption))⟩, rfl, by (simp only [Around.deeper, Around.in1]; decide), by (simp only [Around.deeper, Around.in1]; decide)⟩)) (by with_reducible assumption) (by with_reducible assumption) (by with_reducible assumption) (by with_reducible assumption) ?_; intro _ _ _ k9q; (have F8q := Fr.keepsK F9q k9q); (have N8q := News.keepsK N9q k9q); clear F9q N9q k9q)))) | ((k_dflt ((with_reducible show wpAny _ _ (call (Value.ref 61) _) _ _ _); (rename Fr _ _ _ _ => F9q); (rename News _ _ _ _ => N9q); (refine c_word (by (exact ⟨Frag.In.keeps (by assumption) (Fr.keep (by assumption)), ⟨_, _, _, _, _, Top.keeps (by assumption) (Fr.keep (by assumption))⟩, rfl, by (simp only [Around.deeper, Around.in1]; decide), by (simp only [Around.deeper, Around.in1]; decide)⟩)) (by with_reducible assumption) (by with_reducible assumption) (by with_reducible assumption) (by with_reducible assumption) ?_; intro _ _ _ k9q; (have F8q := Fr.keepsK F9q k9q); (have N8q := News.keepsK N9q k9q); clear F9q N9q k9q)))) | (((with_reducible show wpAny _ _ (eval (Expr.Name _ _) (compEnvC _ _ _ _)) _ _ _); k_dflt (first | (refine blk_C (by assumption) (by rfl) (by k_mem) (by assumption) ?_ (by rfl) (by rfl) (by decide)) | (refine blk_L (by assumption) (by rfl) (by assumption) ?_ (by rfl) (by rfl) (by decide))))) | ((with_reducible show wpAny _ _ (compareOp CmpOp.NotEq (Value.bytes _ _) (Value.bytes _ _)) _ _ _); (k_dflt (refine ne_same ?_))) | ((k_dflt ((with_reducible show wpAny _ _ (call (Value.ref 21) _) _ _ _); (refine c_ap (by (exact ⟨Frag.In.keeps (by assumption) (Fr.keep (by assumption)), ⟨_, _, _, _, _, Top.keeps (by assumption) (Fr.keep (by assumption))⟩, rfl, by (simp only [Around.deeper, Around.in1]; decide), by (simp only [Around.deeper, Around.in1]; decide)⟩)) (by with_reducible assumption) (by with_reducible assumption) (by with_reducible assumption) (by with_reducible assumption) ?_; intro _ _ _ k9q; (rename Fr _ _ _ _ => F9q); (rename News _ _ _ _ => N9q); (have F8q := Fr.keepsK F9q k9q); (have N8q := News.keepsK N9q k9q); clear F9q N9q k9q)))) | ((k_dflt ((with_reducible show wpAny _ _ (call (Value.ref 56) _) _ _ _); (rename Fr _ _ _ _ => F9q); (rename News _ _ _ _ => N9q); (refine c_number (by (exact ⟨Frag.In.keeps (by assumption) (Fr.keep (by assumption)), ⟨_, _, _, _, _, Top.keeps (by assumption) (Fr.keep (by assumption))⟩, rfl, by (simp only [Around.deeper, Around.in1]; decide), by (simp only [Around.deeper, Around.in1]; decide)⟩)) (isList_news N9q (by k_memK)) (by with_reducible assumption) ?_; intro _ _ _ k9q; (have F8q := Fr.keepsK F9q k9q); (have N8q := News.keepsK N9q k9q); clear F9q N9q k9q)))) | ((k_dflt ((with_reducible show wpAny _ _ (call (Value.builtin "len") [Value.ref _]) _ _ _); (rename News _ _ _ _ => N9q); (refine len_news N9q (by k_memK) (by with_reducible assumption) (by omega) ?_)))) | ((k_dflt ((with_reducible show wpAny _ _ (call (Value.type _) [Value.ref _]) _ _ _); (refine list_range _ (by rfl) (by assumption) (by assumption) (by assumption) (by exact small_mine (by omega) (by omega) (by omega)) (by assumption) (by omega) ?_; intro _ _ _ _ _ _ l1q _ _; (try k_lt l1q))))) | ((k_dflt ((with_reducible show wpAny _ _ (call (Value.type _) [Value.int _ _, Value.int _ _]) _ _ _); (refine rng2 (by assumption) (by assumption) ?_); intro _ _ _ _ _ _ _ _ _))) | ((k_dflt ((with_reducible show wpAny _ _ (binaryOp _ (Value.int (_ + 1) _) (Value.int 4 _)) _ _ _); (refine div_q2 (by exact fmod4 _) ?_)))) | walk1 | (dsimp only; walk1) | (leave1; try dsimp only))))
    rename Fr _ _ _ _ => F2
    rw [ep0] at F2
    refine' ExitW.here (_, _, _) F2 ?Ne4 ?ne4 ?hpe4 ?Pe4
    case Ne4 => assumption
    case hpe4 => ((repeat' (first | exact List.forall_mem_nil _ | (refine List.forall_mem_cons.mpr ⟨by with_unfolding_all rfl, ?_⟩))))
    case ne4 => ((repeat' (first | exact List.forall_mem_nil _ | (refine List.forall_mem_cons.mpr ⟨by k_memK, ?_⟩))))
    case Pe4 => assumption
    --}
  case e4d =>
  clear F1 N1
  rintro ⟨o4, tp, tf⟩ u h tk hdk4 F1 N1
  dsimp only at hdk4 F1 N1 ⊢
  have hfol : (castsI ds).getD p0 0 = ((ds.getD p0 0 : Nat) : Int) := by simp [castsI, List.getD_eq_getElem?_getD, hlen, hp0]
  refine execs_mid (σ := Tok) (L := s1.heap.objs.size) s1.heap (fun c => (lt, listOf vt.toArray kt) :: (ls, listOf vs.toArray ks) :: [(s1.heap.objs.size + 1, o4)]) (fun c => [(Str.ofString "followed", .int ((ds.getD p0 0 : Nat) : Int) c), (Str.ofString "place", .int (p0 : Int) tp), (Str.ofString "figures", .int ((0 : Nat) : Int) tf), (Str.ofString "steps", .ref lt), (Str.ofString "start", .ref ls), (Str.ofString "share", .float sa ts), (Str.ofString "level", .float va tl), (Str.ofString "number", .int (N : Int) tN)]) (fun _ => True) ?e5 ?e5d
  case e5 =>
    --{
    (repeat' (first | (k_unfold; (try dsimp only)) | ((fail_if_success (with_reducible show wpAny _ _ (subscriptTail _ _ (Value.ref _) (Value.int _ _)) _ _ _)); (fail_if_success (with_reducible show wpAny _ _ (PySem.call (PySem.Value.ref _) _) _ _ _)); (fail_if_success (with_reducible show wpAny _ _ (PySem.pyIter _) _ _ _)); first | ((k_dflt ((with_reducible show wpAny _ _ (call (Value.ref 49) _) _ _ _); (rename Fr _ _ _ _ => F9q); (rename News _ _ _ _ => N9q); (refine c_lev (by (exact ⟨Frag.In.keeps (by assumption) (Fr.keep (by assumption)), ⟨_, _, _, _, _, Top.keeps (by assumption) (Fr.keep (by assumption))⟩, rfl, by (simp only [Around.deeper, Around.in1]; decide), by (simp only [Around.deeper, Around.in1]; decide)⟩)) (by with_reducible assumption) (by with_reducible assumption) (by with_reducible assumption) (by with_reducible assumption) ?_; intro _ _ _ k9q; (have F8q := Fr.keepsK F9q k9q); (have N8q := News.keepsK N9q k9q); clear F9q N9q k9q)))) | ((k_dflt ((with_reducible show wpAny _ _ (call (Value.ref 61) _) _ _ _); (rename Fr _ _ _ _ => F9q); (rename News _ _ _ _ => N9q); (refine c_word (by (exact ⟨Frag.In.keeps (by assumption) (Fr.keep (by assumption)), ⟨_, _, _, _, _, Top.keeps (by assumption) (Fr.keep (by assumption))⟩, rfl, by (simp only [Around.deeper, Around.in1]; decide), by (simp only [Around.deeper, Around.in1]; decide)⟩)) (by with_reducible assumption) (by with_reducible assumption) (by with_reducible assumption) (by with_reducible assumption) ?_; intro _ _ _ k9q; (have F8q := Fr.keepsK F9q k9q); (have N8q := News.keepsK N9q k9q); clear F9q N9q k9q)))) | (((with_reducible show wpAny _ _ (eval (Expr.Name _ _) (compEnvC _ _ _ _)) _ _ _); k_dflt (first | (refine blk_C (by assumption) (by rfl) (by k_mem) (by assumption) ?_ (by rfl) (by rfl) (by decide)) | (refine blk_L (by assumption) (by rfl) (by assumption) ?_ (by rfl) (by rfl) (by decide))))) | ((with_reducible show wpAny _ _ (compareOp CmpOp.NotEq (Value.bytes _ _) (Value.bytes _ _)) _ _ _); (k_dflt (refine ne_same ?_))) | ((k_dflt ((with_reducible show wpAny _ _ (call (Value.ref 21) _) _ _ _); (refine c_ap (by (exact ⟨Frag.In.keeps (by assumption) (Fr.keep (by assumption)), ⟨_, _, _, _, _, Top.keeps (by assumption) (Fr.keep (by assumption))⟩, rfl, by (simp only [Around.deeper, Around.in1]; decide), by (simp only [Around.deeper, Around.in1]; decide)⟩)) (by with_reducible assumption) (by with_reducible assumption) (by with_reducible assumption) (by with_reducible assumption) ?_; intro _ _ _ k9q; (rename Fr _ _ _ _ => F9q); (rename News _ _ _ _ => N9q); (have F8q := Fr.keepsK F9q k9q); (have N8q := News.keepsK N9q k9q); clear F9q N9q k9q)))) | ((k_dflt ((with_reducible show wpAny _ _ (call (Value.ref 56) _) _ _ _); (rename Fr _ _ _ _ => F9q); (rename News _ _ _ _ => N9q); (refine c_number (by (exact ⟨Frag.In.keeps (by assumption) (Fr.keep (by assumption)), ⟨_, _, _, _, _, Top.keeps (by assumption) (Fr.keep (by assumption))⟩, rfl, by (simp only [Around.deeper, Around.in1]; decide), by (simp only [Around.deeper, Around.in1]; decide)⟩)) (isList_news N9q (by k_memK)) (by with_reducible assumption) ?_; intro _ _ _ k9q; (have F8q := Fr.keepsK F9q k9q); (have N8q := News.keepsK N9q k9q); clear F9q N9q k9q)))) | ((k_dflt ((with_reducible show wpAny _ _ (call (Value.builtin "len") [Value.ref _]) _ _ _); (rename News _ _ _ _ => N9q); (refine len_news N9q (by k_memK) (by with_reducible assumption) (by omega) ?_)))) | ((k_dflt ((with_reducible show wpAny _ _ (call (Value.type _) [Value.ref _]) _ _ _); (refine list_range _ (by rfl) (by assumption) (by assumption) (by assumption) (by exact small_mine (by omega) (by omega) (by omega)) (by assumption) (by omega) ?_; intro _ _ _ _ _ _ l1q _ _; (try k_lt l1q))))) | ((k_dflt ((with_reducible show wpAny _ _ (call (Value.type _) [Value.int _ _, Value.int _ _]) _ _ _); (refine rng2 (by assumption) (by assumption) ?_); intro _ _ _ _ _ _ _ _ _))) | ((k_dflt ((with_reducible show wpAny _ _ (binaryOp _ (Value.int (_ + 1) _) (Value.int 4 _)) _ _ _); (refine div_q2 (by exact fmod4 _) ?_)))) | walk1 | (dsimp only; walk1) | (leave1; try dsimp only))))
    rename News _ _ _ _ => N2
    refine at_listE (p := p0) (isList_news N2 (k := ks) (by k_memK)) his hfol rfl (by omega) (by omega) ?_
    intro tfo
    (repeat' (first | (k_unfold; (try dsimp only)) | ((fail_if_success (with_reducible show wpAny _ _ (subscriptTail _ _ (Value.ref _) (Value.int _ _)) _ _ _)); (fail_if_success (with_reducible show wpAny _ _ (PySem.call (PySem.Value.ref _) _) _ _ _)); (fail_if_success (with_reducible show wpAny _ _ (PySem.pyIter _) _ _ _)); first | ((k_dflt ((with_reducible show wpAny _ _ (call (Value.ref 49) _) _ _ _); (rename Fr _ _ _ _ => F9q); (rename News _ _ _ _ => N9q); (refine c_lev (by (exact ⟨Frag.In.keeps (by assumption) (Fr.keep (by assumption)), ⟨_, _, _, _, _, Top.keeps (by assumption) (Fr.keep (by assumption))⟩, rfl, by (simp only [Around.deeper, Around.in1]; decide), by (simp only [Around.deeper, Around.in1]; decide)⟩)) (by with_reducible assumption) (by with_reducible assumption) (by with_reducible assumption) (by with_reducible assumption) ?_; intro _ _ _ k9q; (have F8q := Fr.keepsK F9q k9q); (have N8q := News.keepsK N9q k9q); clear F9q N9q k9q)))) | ((k_dflt ((with_reducible show wpAny _ _ (call (Value.ref 61) _) _ _ _); (rename Fr _ _ _ _ => F9q); (rename News _ _ _ _ => N9q); (refine c_word (by (exact ⟨Frag.In.keeps (by assumption) (Fr.keep (by assumption)), ⟨_, _, _, _, _, Top.keeps (by assumption) (Fr.keep (by assumption))⟩, rfl, by (simp only [Around.deeper, Around.in1]; decide), by (simp only [Around.deeper, Around.in1]; decide)⟩)) (by with_reducible assumption) (by with_reducible assumption) (by with_reducible assumption) (by with_reducible assumption) ?_; intro _ _ _ k9q; (have F8q := Fr.keepsK F9q k9q); (have N8q := News.keepsK N9q k9q); clear F9q N9q k9q)))) | (((with_reducible show wpAny _ _ (eval (Expr.Name _ _) (compEnvC _ _ _ _)) _ _ _); k_dflt (first | (refine blk_C (by assumption) (by rfl) (by k_mem) (by assumption) ?_ (by rfl) (by rfl) (by decide)) | (refine blk_L (by assumption) (by rfl) (by assumption) ?_ (by rfl) (by rfl) (by decide))))) | ((with_reducible show wpAny _ _ (compareOp CmpOp.NotEq (Value.bytes _ _) (Value.bytes _ _)) _ _ _); (k_dflt (refine ne_same ?_))) | ((k_dflt ((with_reducible show wpAny _ _ (call (Value.ref 21) _) _ _ _); (refine c_ap (by (exact ⟨Frag.In.keeps (by assumption) (Fr.keep (by assumption)), ⟨_, _, _, _, _, Top.keeps (by assumption) (Fr.keep (by assumption))⟩, rfl, by (simp only [Around.deeper, Around.in1]; decide), by (simp only [Around.deeper, Around.in1]; decide)⟩)) (by with_reducible assumption) (by with_reducible assumption) (by with_reducible assumption) (by with_reducible assumption) ?_; intro _ _ _ k9q; (rename Fr _ _ _ _ => F9q); (rename News _ _ _ _ => N9q); (have F8q := Fr.keepsK F9q k9q); (have N8q := News.keepsK N9q k9q); clear F9q N9q k9q)))) | ((k_dflt ((with_reducible show wpAny _ _ (call (Value.ref 56) _) _ _ _); (rename Fr _ _ _ _ => F9q); (rename News _ _ _ _ => N9q); (refine c_number (by (exact ⟨Frag.In.keeps (by assumption) (Fr.keep (by assumption)), ⟨_, _, _, _, _, Top.keeps (by assumption) (Fr.keep (by assumption))⟩, rfl, by (simp only [Around.deeper, Around.in1]; decide), by (simp only [Around.deeper, Around.in1]; decide)⟩)) (isList_news N9q (by k_memK)) (by with_reducible assumption) ?_; intro _ _ _ k9q; (have F8q := Fr.keepsK F9q k9q); (have N8q := News.keepsK N9q k9q); clear F9q N9q k9q)))) | ((k_dflt ((with_reducible show wpAny _ _ (call (Value.builtin "len") [Value.ref _]) _ _ _); (rename News _ _ _ _ => N9q); (refine len_news N9q (by k_memK) (by with_reducible assumption) (by omega) ?_)))) | ((k_dflt ((with_reducible show wpAny _ _ (call (Value.type _) [Value.ref _]) _ _ _); (refine list_range _ (by rfl) (by assumption) (by assumption) (by assumption) (by exact small_mine (by omega) (by omega) (by omega)) (by assumption) (by omega) ?_; intro _ _ _ _ _ _ l1q _ _; (try k_lt l1q))))) | ((k_dflt ((with_reducible show wpAny _ _ (call (Value.type _) [Value.int _ _, Value.int _ _]) _ _ _); (refine rng2 (by assumption) (by assumption) ?_); intro _ _ _ _ _ _ _ _ _))) | ((k_dflt ((with_reducible show wpAny _ _ (binaryOp _ (Value.int (_ + 1) _) (Value.int 4 _)) _ _ _); (refine div_q2 (by exact fmod4 _) ?_)))) | walk1 | (dsimp only; walk1) | (leave1; try dsimp only))))
    refine' ExitW.here _ ?Fe5 ?Ne5 ?ne5 ?hpe5 trivial
    case Fe5 => assumption
    case Ne5 => assumption
    case hpe5 => ((repeat' (first | exact List.forall_mem_nil _ | (refine List.forall_mem_cons.mpr ⟨by with_unfolding_all rfl, ?_⟩))))
    case ne5 => ((repeat' (first | exact List.forall_mem_nil _ | (refine List.forall_mem_cons.mpr ⟨by k_memK, ?_⟩))))
    --}
  case e5d =>
  clear F1 N1
  rintro tfo u h tk - F1 N1
  try dsimp only at F1 N1 ⊢
  (repeat' (first | (k_unfold; (try dsimp only)) | ((with_reducible show wpAny _ _ (PySem.exec (PySem.Stmt.Return (some (PySem.Expr.Constant (PySem.Const.bool false) _ _)) _) _) _ _ _); exfalso; first | assumption | contradiction | omega) | ((fail_if_success (with_reducible show wpAny _ _ (PySem.exec (PySem.Stmt.For _ _ _ _ _) _) _ _ _)); (fail_if_success (with_reducible show wpAny _ _ (PySem.call (PySem.Value.ref _) _) _ _ _)); (fail_if_success (with_reducible show wpAny _ _ (PySem.pyIter _) _ _ _)); first | ((k_dflt ((with_reducible show wpAny _ _ (call (Value.ref 49) _) _ _ _); (rename Fr _ _ _ _ => F9q); (rename News _ _ _ _ => N9q); (refine c_lev (by (exact ⟨Frag.In.keeps (by assumption) (Fr.keep (by assumption)), ⟨_, _, _, _, _, Top.keeps (by assumption) (Fr.keep (by assumption))⟩, rfl, by (simp only [Around.deeper, Around.in1]; decide), by (simp only [Around.deeper, Around.in1]; decide)⟩)) (by with_reducible assumption) (by with_reducible assumption) (by with_reducible assumption) (by with_reducible assumption) ?_; intro _ _ _ k9q; (have F8q := Fr.keepsK F9q k9q); (have N8q := News.keepsK N9q k9q); clear F9q N9q k9q)))) | ((k_dflt ((with_reducible show wpAny _ _ (call (Value.ref 61) _) _ _ _); (rename Fr _ _ _ _ => F9q); (rename News _ _ _ _ => N9q); (refine c_word (by (exact ⟨Frag.In.keeps (by assumption) (Fr.keep (by assumption)), ⟨_, _, _, _, _, Top.keeps (by assumption) (Fr.keep (by assumption))⟩, rfl, by (simp only [Around.deeper, Around.in1]; decide), by (simp only [Around.deeper, Around.in1]; decide)⟩)) (by with_reducible assumption) (by with_reducible assumption) (by with_reducible assumption) (by with_reducible assumption) ?_; intro _ _ _ k9q; (have F8q := Fr.keepsK F9q k9q); (have N8q := News.keepsK N9q k9q); clear F9q N9q k9q)))) | (((with_reducible show wpAny _ _ (eval (Expr.Name _ _) (compEnvC _ _ _ _)) _ _ _); k_dflt (first | (refine blk_C (by assumption) (by rfl) (by k_mem) (by assumption) ?_ (by rfl) (by rfl) (by decide)) | (refine blk_L (by assumption) (by rfl) (by assumption) ?_ (by rfl) (by rfl) (by decide))))) | ((with_reducible show wpAny _ _ (compareOp CmpOp.NotEq (Value.bytes _ _) (Value.bytes _ _)) _ _ _); (k_dflt (refine ne_same ?_))) | ((k_dflt ((with_reducible show wpAny _ _ (call (Value.ref 21) _) _ _ _); (refine c_ap (by (exact ⟨Frag.In.keeps (by assumption) (Fr.keep (by assumption)), ⟨_, _, _, _, _, Top.keeps (by assumption) (Fr.keep (by assumption))⟩, rfl, by (simp only [Around.deeper, Around.in1]; decide), by (simp only [Around.deeper, Around.in1]; decide)⟩)) (by with_reducible assumption) (by with_reducible assumption) (by with_reducible assumption) (by with_reducible assumption) ?_; intro _ _ _ k9q; (rename Fr _ _ _ _ => F9q); (rename News _ _ _ _ => N9q); (have F8q := Fr.keepsK F9q k9q); (have N8q := News.keepsK N9q k9q); clear F9q N9q k9q)))) | ((k_dflt ((with_reducible show wpAny _ _ (call (Value.ref 56) _) _ _ _); (rename Fr _ _ _ _ => F9q); (rename News _ _ _ _ => N9q); (refine c_number (by (exact ⟨Frag.In.keeps (by assumption) (Fr.keep (by assumption)), ⟨_, _, _, _, _, Top.keeps (by assumption) (Fr.keep (by assumption))⟩, rfl, by (simp only [Around.deeper, Around.in1]; decide), by (simp only [Around.deeper, Around.in1]; decide)⟩)) (isList_news N9q (by k_memK)) (by with_reducible assumption) ?_; intro _ _ _ k9q; (have F8q := Fr.keepsK F9q k9q); (have N8q := News.keepsK N9q k9q); clear F9q N9q k9q)))) | ((k_dflt ((with_reducible show wpAny _ _ (call (Value.builtin "len") [Value.ref _]) _ _ _); (rename News _ _ _ _ => N9q); (refine len_news N9q (by k_memK) (by with_reducible assumption) (by omega) ?_)))) | ((k_dflt ((with_reducible show wpAny _ _ (call (Value.type _) [Value.ref _]) _ _ _); (refine list_range _ (by rfl) (by assumption) (by assumption) (by assumption) (by exact small_mine (by omega) (by omega) (by omega)) (by assumption) (by omega) ?_; intro _ _ _ _ _ _ l1q _ _; (try k_lt l1q))))) | ((k_dflt ((with_reducible show wpAny _ _ (call (Value.type _) [Value.int _ _, Value.int _ _]) _ _ _); (refine rng2 (by assumption) (by assumption) ?_); intro _ _ _ _ _ _ _ _ _))) | ((k_dflt ((with_reducible show wpAny _ _ (binaryOp _ (Value.int (_ + 1) _) (Value.int 4 _)) _ _ _); (refine div_q2 (by exact fmod4 _) ?_)))) | walk1 | (dsimp only; walk1) | (leave1; try dsimp only))))
  refine For_invV s1.heap rfl rfl ?_
  (repeat' (first | (k_unfold; (try dsimp only)) | ((with_reducible show wpAny _ _ (PySem.exec (PySem.Stmt.Return (some (PySem.Expr.Constant (PySem.Const.bool false) _ _)) _) _) _ _ _); exfalso; first | assumption | contradiction | omega) | ((fail_if_success (with_reducible show wpAny _ _ (PySem.exec (PySem.Stmt.For _ _ _ _ _) _) _ _ _)); (fail_if_success (with_reducible show wpAny _ _ (PySem.call (PySem.Value.ref _) _) _ _ _)); (fail_if_success (with_reducible show wpAny _ _ (PySem.pyIter _) _ _ _)); first | ((k_dflt ((with_reducible show wpAny _ _ (call (Value.ref 49) _) _ _ _); (rename Fr _ _ _ _ => F9q); (rename News _ _ _ _ => N9q); (refine c_lev (by (exact ⟨Frag.In.keeps (by assumption) (Fr.keep (by assumption)), ⟨_, _, _, _, _, Top.keeps (by assumption) (Fr.keep (by assumption))⟩, rfl, by (simp only [Around.deeper, Around.in1]; decide), by (simp only [Around.deeper, Around.in1]; decide)⟩)) (by with_reducible assumption) (by with_reducible assumption) (by with_reducible assumption) (by with_reducible assumption) ?_; intro _ _ _ k9q; (have F8q := Fr.keepsK F9q k9q); (have N8q := News.keepsK N9q k9q); clear F9q N9q k9q)))) | ((k_dflt ((with_reducible show wpAny _ _ (call (Value.ref 61) _) _ _ _); (rename Fr _ _ _ _ => F9q); (rename News _ _ _ _ => N9q); (refine c_word (by (exact ⟨Frag.In.keeps (by assumption) (Fr.keep (by assumption)), ⟨_, _, _, _, _, Top.keeps (by assumption) (Fr.keep (by assumption))⟩, rfl, by (simp only [Around.deeper, Around.in1]; decide), by (simp only [Around.deeper, Around.in1]; decide)⟩)) (by with_reducible assumption) (by with_reducible assumption) (by with_reducible assumption) (by with_reducible assumption) ?_; intro _ _ _ k9q; (have F8q := Fr.keepsK F9q k9q); (have N8q := News.keepsK N9q k9q); clear F9q N9q k9q)))) | (((with_reducible show wpAny _ _ (eval (Expr.Name _ _) (compEnvC _ _ _ _)) _ _ _); k_dflt (first | (refine blk_C (by assumption) (by rfl) (by k_mem) (by assumption) ?_ (by rfl) (by rfl) (by decide)) | (refine blk_L (by assumption) (by rfl) (by assumption) ?_ (by rfl) (by rfl) (by decide))))) | ((with_reducible show wpAny _ _ (compareOp CmpOp.NotEq (Value.bytes _ _) (Value.bytes _ _)) _ _ _); (k_dflt (refine ne_same ?_))) | ((k_dflt ((with_reducible show wpAny _ _ (call (Value.ref 21) _) _ _ _); (refine c_ap (by (exact ⟨Frag.In.keeps (by assumption) (Fr.keep (by assumption)), ⟨_, _, _, _, _, Top.keeps (by assumption) (Fr.keep (by assumption))⟩, rfl, by (simp only [Around.deeper, Around.in1]; decide), by (simp only [Around.deeper, Around.in1]; decide)⟩)) (by with_reducible assumption) (by with_reducible assumption) (by with_reducible assumption) (by with_reducible assumption) ?_; intro _ _ _ k9q; (rename Fr _ _ _ _ => F9q); (rename News _ _ _ _ => N9q); (have F8q := Fr.keepsK F9q k9q); (have N8q := News.keepsK N9q k9q); clear F9q N9q k9q)))) | ((k_dflt ((with_reducible show wpAny _ _ (call (Value.ref 56) _) _ _ _); (rename Fr _ _ _ _ => F9q); (rename News _ _ _ _ => N9q); (refine c_number (by (exact ⟨Frag.In.keeps (by assumption) (Fr.keep (by assumption)), ⟨_, _, _, _, _, Top.keeps (by assumption) (Fr.keep (by assumption))⟩, rfl, by (simp only [Around.deeper, Around.in1]; decide), by (simp only [Around.deeper, Around.in1]; decide)⟩)) (isList_news N9q (by k_memK)) (by with_reducible assumption) ?_; intro _ _ _ k9q; (have F8q := Fr.keepsK F9q k9q); (have N8q := News.keepsK N9q k9q); clear F9q N9q k9q)))) | ((k_dflt ((with_reducible show wpAny _ _ (call (Value.builtin "len") [Value.ref _]) _ _ _); (rename News _ _ _ _ => N9q); (refine len_news N9q (by k_memK) (by with_reducible assumption) (by omega) ?_)))) | ((k_dflt ((with_reducible show wpAny _ _ (call (Value.type _) [Value.ref _]) _ _ _); (refine list_range _ (by rfl) (by assumption) (by assumption) (by assumption) (by exact small_mine (by omega) (by omega) (by omega)) (by assumption) (by omega) ?_; intro _ _ _ _ _ _ l1q _ _; (try k_lt l1q))))) | ((k_dflt ((with_reducible show wpAny _ _ (call (Value.type _) [Value.int _ _, Value.int _ _]) _ _ _); (refine rng2 (by assumption) (by assumption) ?_); intro _ _ _ _ _ _ _ _ _))) | ((k_dflt ((with_reducible show wpAny _ _ (binaryOp _ (Value.int (_ + 1) _) (Value.int 4 _)) _ _ _); (refine div_q2 (by exact fmod4 _) ?_)))) | walk1 | (dsimp only; walk1) | (leave1; try dsimp only))))
  rename Fr _ _ _ _ => F2
  rename News _ _ _ _ => N2
  refine' for_range (σ := ST) 12 (fun i => (i : Int)) [(lt, listOf vt.toArray kt), (ls, listOf vs.toArray ks)] (fun c => [(s1.heap.objs.size + 1, c.o), (c.l, listOf c.v.toArray c.k)])
    (fun c => [(Str.ofString "followed", .int ((ds.getD p0 0 : Nat) : Int) tfo), (Str.ofString "place", .int (c.p : Int) c.tp), (Str.ofString "figures", .int (c.x : Int) c.tx), (Str.ofString "steps", .ref lt), (Str.ofString "start", .ref ls), (Str.ofString "share", .float sa ts), (Str.ofString "level", .float va tl), (Str.ofString "number", .int (N : Int) tN)])
    (fun t c => c.o.data = .cell (some (.ref c.l)) ∧ IntsAre c.v (deckI ds (piAt N t)) ∧ c.p = pAt N p0 t ∧ c.x = xAt N t ∧ @Ne Nat c.l (s1.heap.objs.size + 1)) ⟨o4, ls, vs, ks, p0, tp, 0, tf⟩ ?hhT ?hrT ?hsT ?hnT ?hgT F2 N2 ?hnewsT ?hp0T ?hjT ?turnT ?doneT
  case hhT => rfl
  case hrT => assumption
  case hsT => decide
  case hnT => decide
  case hgT => intro i; omega
  case hp0T => ((repeat' (first | exact List.forall_mem_nil _ | (refine List.forall_mem_cons.mpr ⟨by with_unfolding_all rfl, ?_⟩))))
  case hnewsT => ((repeat' (first | exact List.forall_mem_nil _ | (refine List.forall_mem_cons.mpr ⟨by k_memK, ?_⟩))))
  case hjT => exact ⟨hdk4, (deckI_range hlen).symm ▸ his, rfl, rfl, Nat.ne_of_gt hcls⟩
  case doneT =>
    clear F2 N2
    rintro c u4 h4 tk4 - F1 N1
    (repeat' (first | (k_unfold; (try dsimp only)) | ((with_reducible show wpAny _ _ (PySem.exec (PySem.Stmt.Return (some (PySem.Expr.Constant (PySem.Const.bool false) _ _)) _) _) _ _ _); exfalso; first | assumption | contradiction | omega) | ((fail_if_success (with_reducible show wpAny _ _ (PySem.exec (PySem.Stmt.For _ _ _ _ _) _) _ _ _)); (fail_if_success (with_reducible show wpAny _ _ (PySem.call (PySem.Value.ref _) _) _ _ _)); (fail_if_success (with_reducible show wpAny _ _ (PySem.pyIter _) _ _ _)); first | ((k_dflt ((with_reducible show wpAny _ _ (call (Value.ref 49) _) _ _ _); (rename Fr _ _ _ _ => F9q); (rename News _ _ _ _ => N9q); (refine c_lev (by (exact ⟨Frag.In.keeps (by assumption) (Fr.keep (by assumption)), ⟨_, _, _, _, _, Top.keeps (by assumption) (Fr.keep (by assumption))⟩, rfl, by (simp only [Around.deeper, Around.in1]; decide), by (simp only [Around.deeper, Around.in1]; decide)⟩)) (by with_reducible assumption) (by with_reducible assumption) (by with_reducible assumption) (by with_reducible assumption) ?_; intro _ _ _ k9q; (have F8q := Fr.keepsK F9q k9q); (have N8q := News.keepsK N9q k9q); clear F9q N9q k9q)))) | ((k_dflt ((with_reducible show wpAny _ _ (call (Value.ref 61) _) _ _ _); (rename Fr _ _ _ _ => F9q); (rename News _ _ _ _ => N9q); (refine c_word (by (exact ⟨Frag.In.keeps (by assumption) (Fr.keep (by assumption)), ⟨_, _, _, _, _, Top.keeps (by assumption) (Fr.keep (by assumption))⟩, rfl, by (simp only [Around.deeper, Around.in1]; decide), by (simp only [Around.deeper, Around.in1]; decide)⟩)) (by with_reducible assumption) (by with_reducible assumption) (by with_reducible assumption) (by with_reducible assumption) ?_; intro _ _ _ k9q; (have F8q := Fr.keepsK F9q k9q); (have N8q := News.keepsK N9q k9q); clear F9q N9q k9q)))) | (((with_reducible show wpAny _ _ (eval (Expr.Name _ _) (compEnvC _ _ _ _)) _ _ _); k_dflt (first | (refine blk_C (by assumption) (by rfl) (by k_mem) (by assumption) ?_ (by rfl) (by rfl) (by decide)) | (refine blk_L (by assumption) (by rfl) (by assumption) ?_ (by rfl) (by rfl) (by decide))))) | ((with_reducible show wpAny _ _ (compareOp CmpOp.NotEq (Value.bytes _ _) (Value.bytes _ _)) _ _ _); (k_dflt (refine ne_same ?_))) | ((k_dflt ((with_reducible show wpAny _ _ (call (Value.ref 21) _) _ _ _); (refine c_ap (by (exact ⟨Frag.In.keeps (by assumption) (Fr.keep (by assumption)), ⟨_, _, _, _, _, Top.keeps (by assumption) (Fr.keep (by assumption))⟩, rfl, by (simp only [Around.deeper, Around.in1]; decide), by (simp only [Around.deeper, Around.in1]; decide)⟩)) (by with_reducible assumption) (by with_reducible assumption) (by with_reducible assumption) (by with_reducible assumption) ?_; intro _ _ _ k9q; (rename Fr _ _ _ _ => F9q); (rename News _ _ _ _ => N9q); (have F8q := Fr.keepsK F9q k9q); (have N8q := News.keepsK N9q k9q); clear F9q N9q k9q)))) | ((k_dflt ((with_reducible show wpAny _ _ (call (Value.ref 56) _) _ _ _); (rename Fr _ _ _ _ => F9q); (rename News _ _ _ _ => N9q); (refine c_number (by (exact ⟨Frag.In.keeps (by assumption) (Fr.keep (by assumption)), ⟨_, _, _, _, _, Top.keeps (by assumption) (Fr.keep (by assumption))⟩, rfl, by (simp only [Around.deeper, Around.in1]; decide), by (simp only [Around.deeper, Around.in1]; decide)⟩)) (isList_news N9q (by k_memK)) (by with_reducible assumption) ?_; intro _ _ _ k9q; (have F8q := Fr.keepsK F9q k9q); (have N8q := News.keepsK N9q k9q); clear F9q N9q k9q)))) | ((k_dflt ((with_reducible show wpAny _ _ (call (Value.builtin "len") [Value.ref _]) _ _ _); (rename News _ _ _ _ => N9q); (refine len_news N9q (by k_memK) (by with_reducible assumption) (by omega) ?_)))) | ((k_dflt ((with_reducible show wpAny _ _ (call (Value.type _) [Value.ref _]) _ _ _); (refine list_range _ (by rfl) (by assumption) (by assumption) (by assumption) (by exact small_mine (by omega) (by omega) (by omega)) (by assumption) (by omega) ?_; intro _ _ _ _ _ _ l1q _ _; (try k_lt l1q))))) | ((k_dflt ((with_reducible show wpAny _ _ (call (Value.type _) [Value.int _ _, Value.int _ _]) _ _ _); (refine rng2 (by assumption) (by assumption) ?_); intro _ _ _ _ _ _ _ _ _))) | ((k_dflt ((with_reducible show wpAny _ _ (binaryOp _ (Value.int (_ + 1) _) (Value.int 4 _)) _ _ _); (refine div_q2 (by exact fmod4 _) ?_)))) | walk1 | (dsimp only; walk1) | (leave1; try dsimp only))))
    exact goodW_bool F1 (by assumption) (fun _ => by with_unfolding_all rfl) (by with_unfolding_all rfl)
  case turnT =>
  clear F2 N2
  rintro i ti ⟨o, l, v, k, p, tp', x, tx⟩ u4 h4 tk4 I io hi ⟨hdo, hiv, hpe, hxe, hll⟩ hio F4 N4 hI1 hI2
  dsimp only at hdo hiv hpe hxe hll F4 N4 hI1 ⊢
  simp only [List.cons_append, List.nil_append] at N4
  have hIo : @Ne Nat (s1.heap.objs.size + 1) I := hI1 _ (.head _)
  obtain ⟨hp8, hpp⟩ := pAt_at N hp0 i
  rw [← hpe] at hp8
  have hb := sb_lt N i
  have hst := steps_at hN hi
  obtain ⟨b, hbe⟩ : ∃ b, sb N i = b := ⟨_, rfl⟩
  rw [hbe] at hb hst
  refine execs_mid (σ := Tok) (L := s1.heap.objs.size) s1.heap (fun _ => (s1.heap.objs.size + 1, o) :: (I, io) :: (lt, listOf vt.toArray kt) :: (ls, listOf vs.toArray ks) :: [(l, listOf v.toArray k)]) (fun c => [(Str.ofString "step", .int (b : Int) c), (Str.ofString "turn", .int (i : Int) ti), (Str.ofString "followed", .int ((ds.getD p0 0 : Nat) : Int) tfo), (Str.ofString "place", .int (p : Int) tp'), (Str.ofString "figures", .int (x : Int) tx), (Str.ofString "steps", .ref lt), (Str.ofString "start", .ref ls), (Str.ofString "share", .float sa ts), (Str.ofString "level", .float va tl), (Str.ofString "number", .int (N : Int) tN)]) (fun _ => True) ?u1 ?u1d
  case u1 =>
    --{
    (repeat' (first | (k_unfold; (try dsimp only)) | ((fail_if_success (with_reducible show wpAny _ _ (subscriptTail _ _ (Value.ref _) (Value.int _ _)) _ _ _)); (fail_if_success (with_reducible show wpAny _ _ (PySem.call (PySem.Value.ref _) _) _ _ _)); (fail_if_success (with_reducible show wpAny _ _ (PySem.pyIter _) _ _ _)); first | ((k_dflt ((with_reducible show wpAny _ _ (call (Value.ref 49) _) _ _ _); (rename Fr _ _ _ _ => F9q); (rename News _ _ _ _ => N9q); (refine c_lev (by (exact ⟨Frag.In.keeps (by assumption) (Fr.keep (by assumption)), ⟨_, _, _, _, _, Top.keeps (by assumption) (Fr.keep (by assumption))⟩, rfl, by (simp only [Around.deeper, Around.in1]; decide), by (simp only [Around.deeper, Around.in1]; decide)⟩)) (by with_reducible assumption) (by with_reducible assumption) (by with_reducible assumption) (by with_reducible assumption) ?_; intro _ _ _ k9q; (have F8q := Fr.keepsK F9q k9q); (have N8q := News.keepsK N9q k9q); clear F9q N9q k9q)))) | ((k_dflt ((with_reducible show wpAny _ _ (call (Value.ref 61) _) _ _ _); (rename Fr _ _ _ _ => F9q); (rename News _ _ _ _ => N9q); (refine c_word (by (exact ⟨Frag.In.keeps (by assumption) (Fr.keep (by assumption)), ⟨_, _, _, _, _, Top.keeps (by assumption) (Fr.keep (by assumption))⟩, rfl, by (simp only [Around.deeper, Around.in1]; decide), by (simp only [Around.deeper, Around.in1]; decide)⟩)) (by with_reducible assumption) (by with_reducible assumption) (by with_reducible assumption) (by with_reducible assumption) ?_; intro _ _ _ k9q; (have F8q := Fr.keepsK F9q k9q); (have N8q := News.keepsK N9q k9q); clear F9q N9q k9q)))) | (((with_reducible show wpAny _ _ (eval (Expr.Name _ _) (compEnvC _ _ _ _)) _ _ _); k_dflt (first | (refine blk_C (by assumption) (by rfl) (by k_mem) (by assumption) ?_ (by rfl) (by rfl) (by decide)) | (refine blk_L (by assumption) (by rfl) (by assumption) ?_ (by rfl) (by rfl) (by decide))))) | ((with_reducible show wpAny _ _ (compareOp CmpOp.NotEq (Value.bytes _ _) (Value.bytes _ _)) _ _ _); (k_dflt (refine ne_same ?_))) | ((k_dflt ((with_reducible show wpAny _ _ (call (Value.ref 21) _) _ _ _); (refine c_ap (by (exact ⟨Frag.In.keeps (by assumption) (Fr.keep (by assumption)), ⟨_, _, _, _, _, Top.keeps (by assumption) (Fr.keep (by assumption))⟩, rfl, by (simp only [Around.deeper, Around.in1]; decide), by (simp only [Around.deeper, Around.in1]; decide)⟩)) (by with_reducible assumption) (by with_reducible assumption) (by with_reducible assumption) (by with_reducible assumption) ?_; intro _ _ _ k9q; (rename Fr _ _ _ _ => F9q); (rename News _ _ _ _ => N9q); (have F8q := Fr.keepsK F9q k9q); (have N8q := News.keepsK N9q k9q); clear F9q N9q k9q)))) | ((k_dflt ((with_reducible show wpAny _ _ (call (Value.ref 56) _) _ _ _); (rename Fr _ _ _ _ => F9q); (rename News _ _ _ _ => N9q); (refine c_number (by (exact ⟨Frag.In.keeps (by assumption) (Fr.keep (by assumption)), ⟨_, _, _, _, _, Top.keeps (by assumption) (Fr.keep (by assumption))⟩, rfl, by (simp only [Around.deeper, Around.in1]; decide), by (simp only [Around.deeper, Around.in1]; decide)⟩)) (isList_news N9q (by k_memK)) (by with_reducible assumption) ?_; intro _ _ _ k9q; (have F8q := Fr.keepsK F9q k9q); (have N8q := News.keepsK N9q k9q); clear F9q N9q k9q)))) | ((k_dflt ((with_reducible show wpAny _ _ (call (Value.builtin "len") [Value.ref _]) _ _ _); (rename News _ _ _ _ => N9q); (refine len_news N9q (by k_memK) (by with_reducible assumption) (by omega) ?_)))) | ((k_dflt ((with_reducible show wpAny _ _ (call (Value.type _) [Value.ref _]) _ _ _); (refine list_range _ (by rfl) (by assumption) (by assumption) (by assumption) (by exact small_mine (by omega) (by omega) (by omega)) (by assumption) (by omega) ?_; intro _ _ _ _ _ _ l1q _ _; (try k_lt l1q))))) | ((k_dflt ((with_reducible show wpAny _ _ (call (Value.type _) [Value.int _ _, Value.int _ _]) _ _ _); (refine rng2 (by assumption) (by assumption) ?_); intro _ _ _ _ _ _ _ _ _))) | ((k_dflt ((with_reducible show wpAny _ _ (binaryOp _ (Value.int (_ + 1) _) (Value.int 4 _)) _ _ _); (refine div_q2 (by exact fmod4 _) ?_)))) | walk1 | (dsimp only; walk1) | (leave1; try dsimp only))))
    rename News _ _ _ _ => N2
    refine at_listE (p := i) (isList_news N2 (k := kt) (by k_memK)) hit hst rfl (by omega) (by omega) ?_
    intro tst
    (repeat' (first | (k_unfold; (try dsimp only)) | ((fail_if_success (with_reducible show wpAny _ _ (subscriptTail _ _ (Value.ref _) (Value.int _ _)) _ _ _)); (fail_if_success (with_reducible show wpAny _ _ (PySem.call (PySem.Value.ref _) _) _ _ _)); (fail_if_success (with_reducible show wpAny _ _ (PySem.pyIter _) _ _ _)); first | ((k_dflt ((with_reducible show wpAny _ _ (call (Value.ref 49) _) _ _ _); (rename Fr _ _ _ _ => F9q); (rename News _ _ _ _ => N9q); (refine c_lev (by (exact ⟨Frag.In.keeps (by assumption) (Fr.keep (by assumption)), ⟨_, _, _, _, _, Top.keeps (by assumption) (Fr.keep (by assumption))⟩, rfl, by (simp only [Around.deeper, Around.in1]; decide), by (simp only [Around.deeper, Around.in1]; decide)⟩)) (by with_reducible assumption) (by with_reducible assumption) (by with_reducible assumption) (by with_reducible assumption) ?_; intro _ _ _ k9q; (have F8q := Fr.keepsK F9q k9q); (have N8q := News.keepsK N9q k9q); clear F9q N9q k9q)))) | ((k_dflt ((with_reducible show wpAny _ _ (call (Value.ref 61) _) _ _ _); (rename Fr _ _ _ _ => F9q); (rename News _ _ _ _ => N9q); (refine c_word (by (exact ⟨Frag.In.keeps (by assumption) (Fr.keep (by assumption)), ⟨_, _, _, _, _, Top.keeps (by assumption) (Fr.keep (by assumption))⟩, rfl, by (simp only [Around.deeper, Around.in1]; decide), by (simp only [Around.deeper, Around.in1]; decide)⟩)) (by with_reducible assumption) (by with_reducible assumption) (by with_reducible assumption) (by with_reducible assumption) ?_; intro _ _ _ k9q; (have F8q := Fr.keepsK F9q k9q); (have N8q := News.keepsK N9q k9q); clear F9q N9q k9q)))) | (((with_reducible show wpAny _ _ (eval (Expr.Name _ _) (compEnvC _ _ _ _)) _ _ _); k_dflt (first | (refine blk_C (by assumption) (by rfl) (by k_mem) (by assumption) ?_ (by rfl) (by rfl) (by decide)) | (refine blk_L (by assumption) (by rfl) (by assumption) ?_ (by rfl) (by rfl) (by decide))))) | ((with_reducible show wpAny _ _ (compareOp CmpOp.NotEq (Value.bytes _ _) (Value.bytes _ _)) _ _ _); (k_dflt (refine ne_same ?_))) | ((k_dflt ((with_reducible show wpAny _ _ (call (Value.ref 21) _) _ _ _); (refine c_ap (by (exact ⟨Frag.In.keeps (by assumption) (Fr.keep (by assumption)), ⟨_, _, _, _, _, Top.keeps (by assumption) (Fr.keep (by assumption))⟩, rfl, by (simp only [Around.deeper, Around.in1]; decide), by (simp only [Around.deeper, Around.in1]; decide)⟩)) (by with_reducible assumption) (by with_reducible assumption) (by with_reducible assumption) (by with_reducible assumption) ?_; intro _ _ _ k9q; (rename Fr _ _ _ _ => F9q); (rename News _ _ _ _ => N9q); (have F8q := Fr.keepsK F9q k9q); (have N8q := News.keepsK N9q k9q); clear F9q N9q k9q)))) | ((k_dflt ((with_reducible show wpAny _ _ (call (Value.ref 56) _) _ _ _); (rename Fr _ _ _ _ => F9q); (rename News _ _ _ _ => N9q); (refine c_number (by (exact ⟨Frag.In.keeps (by assumption) (Fr.keep (by assumption)), ⟨_, _, _, _, _, Top.keeps (by assumption) (Fr.keep (by assumption))⟩, rfl, by (simp only [Around.deeper, Around.in1]; decide), by (simp only [Around.deeper, Around.in1]; decide)⟩)) (isList_news N9q (by k_memK)) (by with_reducible assumption) ?_; intro _ _ _ k9q; (have F8q := Fr.keepsK F9q k9q); (have N8q := News.keepsK N9q k9q); clear F9q N9q k9q)))) | ((k_dflt ((with_reducible show wpAny _ _ (call (Value.builtin "len") [Value.ref _]) _ _ _); (rename News _ _ _ _ => N9q); (refine len_news N9q (by k_memK) (by with_reducible assumption) (by omega) ?_)))) | ((k_dflt ((with_reducible show wpAny _ _ (call (Value.type _) [Value.ref _]) _ _ _); (refine list_range _ (by rfl) (by assumption) (by assumption) (by assumption) (by exact small_mine (by omega) (by omega) (by omega)) (by assumption) (by omega) ?_; intro _ _ _ _ _ _ l1q _ _; (try k_lt l1q))))) | ((k_dflt ((with_reducible show wpAny _ _ (call (Value.type _) [Value.int _ _, Value.int _ _]) _ _ _); (refine rng2 (by assumption) (by assumption) ?_); intro _ _ _ _ _ _ _ _ _))) | ((k_dflt ((with_reducible show wpAny _ _ (binaryOp _ (Value.int (_ + 1) _) (Value.int 4 _)) _ _ _); (refine div_q2 (by exact fmod4 _) ?_)))) | walk1 | (dsimp only; walk1) | (leave1; try dsimp only))))
    refine' ExitW.here _ ?Fu1 ?Nu1 ?nu1 ?hpu1 trivial
    case Fu1 => assumption
    case Nu1 => assumption
    case hpu1 => ((repeat' (first | exact List.forall_mem_nil _ | (refine List.forall_mem_cons.mpr ⟨by with_unfolding_all rfl, ?_⟩))))
    case nu1 => ((repeat' (first | exact List.forall_mem_nil _ | (refine List.forall_mem_cons.mpr ⟨by k_memK, ?_⟩))))
    --}
  case u1d =>
  clear F4 N4
  rintro tst u5 h5 tk5 - F4 N4
  try dsimp only at F4 N4 ⊢
  have ew : 7 + 2 * (b : Int) = ((7 + 2 * b : Nat) : Int) := by omega
  refine execs_mid (σ := Tok) (L := s1.heap.objs.size) s1.heap (fun _ => (s1.heap.objs.size + 1, o) :: (I, io) :: (lt, listOf vt.toArray kt) :: (ls, listOf vs.toArray ks) :: [(l, listOf v.toArray k)]) (fun c => [(Str.ofString "wheel", .int ((7 + 2 * b : Nat) : Int) c), (Str.ofString "step", .int (b : Int) tst), (Str.ofString "turn", .int (i : Int) ti), (Str.ofString "followed", .int ((ds.getD p0 0 : Nat) : Int) tfo), (Str.ofString "place", .int (p : Int) tp'), (Str.ofString "figures", .int (x : Int) tx), (Str.ofString "steps", .ref lt), (Str.ofString "start", .ref ls), (Str.ofString "share", .float sa ts), (Str.ofString "level", .float va tl), (Str.ofString "number", .int (N : Int) tN)]) (fun _ => True) ?u2 ?u2d
  case u2 =>
    --{
    (repeat' (first | (k_unfold; (try dsimp only)) | ((fail_if_success (with_reducible show wpAny _ _ (subscriptTail _ _ (Value.ref _) (Value.int _ _)) _ _ _)); (fail_if_success (with_reducible show wpAny _ _ (PySem.call (PySem.Value.ref _) _) _ _ _)); (fail_if_success (with_reducible show wpAny _ _ (PySem.pyIter _) _ _ _)); first | ((k_dflt ((with_reducible show wpAny _ _ (call (Value.ref 49) _) _ _ _); (rename Fr _ _ _ _ => F9q); (rename News _ _ _ _ => N9q); (refine c_lev (by (exact ⟨Frag.In.keeps (by assumption) (Fr.keep (by assumption)), ⟨_, _, _, _, _, Top.keeps (by assumption) (Fr.keep (by assumption))⟩, rfl, by (simp only [Around.deeper, Around.in1]; decide), by (simp only [Around.deeper, Around.in1]; decide)⟩)) (by with_reducible assumption) (by with_reducible assumption) (by with_reducible assumption) (by with_reducible assumption) ?_; intro _ _ _ k9q; (have F8q := Fr.keepsK F9q k9q); (have N8q := News.keepsK N9q k9q); clear F9q N9q k9q)))) | ((k_dflt ((with_reducible show wpAny _ _ (call (Value.ref 61) _) _ _ _); (rename Fr _ _ _ _ => F9q); (rename News _ _ _ _ => N9q); (refine c_word (by (exact ⟨Frag.In.keeps (by assumption) (Fr.keep (by assumption)), ⟨_, _, _, _, _, Top.keeps (by assumption) (Fr.keep (by assumption))⟩, rfl, by (simp only [Around.deeper, Around.in1]; decide), by (simp only [Around.deeper, Around.in1]; decide)⟩)) (by with_reducible assumption) (by with_reducible assumption) (by with_reducible assumption) (by with_reducible assumption) ?_; intro _ _ _ k9q; (have F8q := Fr.keepsK F9q k9q); (have N8q := News.keepsK N9q k9q); clear F9q N9q k9q)))) | (((with_reducible show wpAny _ _ (eval (Expr.Name _ _) (compEnvC _ _ _ _)) _ _ _); k_dflt (first | (refine blk_C (by assumption) (by rfl) (by k_mem) (by assumption) ?_ (by rfl) (by rfl) (by decide)) | (refine blk_L (by assumption) (by rfl) (by assumption) ?_ (by rfl) (by rfl) (by decide))))) | ((with_reducible show wpAny _ _ (compareOp CmpOp.NotEq (Value.bytes _ _) (Value.bytes _ _)) _ _ _); (k_dflt (refine ne_same ?_))) | ((k_dflt ((with_reducible show wpAny _ _ (call (Value.ref 21) _) _ _ _); (refine c_ap (by (exact ⟨Frag.In.keeps (by assumption) (Fr.keep (by assumption)), ⟨_, _, _, _, _, Top.keeps (by assumption) (Fr.keep (by assumption))⟩, rfl, by (simp only [Around.deeper, Around.in1]; decide), by (simp only [Around.deeper, Around.in1]; decide)⟩)) (by with_reducible assumption) (by with_reducible assumption) (by with_reducible assumption) (by with_reducible assumption) ?_; intro _ _ _ k9q; (rename Fr _ _ _ _ => F9q); (rename News _ _ _ _ => N9q); (have F8q := Fr.keepsK F9q k9q); (have N8q := News.keepsK N9q k9q); clear F9q N9q k9q)))) | ((k_dflt ((with_reducible show wpAny _ _ (call (Value.ref 56) _) _ _ _); (rename Fr _ _ _ _ => F9q); (rename News _ _ _ _ => N9q); (refine c_number (by (exact ⟨Frag.In.keeps (by assumption) (Fr.keep (by assumption)), ⟨_, _, _, _, _, Top.keeps (by assumption) (Fr.keep (by assumption))⟩, rfl, by (simp only [Around.deeper, Around.in1]; decide), by (simp only [Around.deeper, Around.in1]; decide)⟩)) (isList_news N9q (by k_memK)) (by with_reducible assumption) ?_; intro _ _ _ k9q; (have F8q := Fr.keepsK F9q k9q); (have N8q := News.keepsK N9q k9q); clear F9q N9q k9q)))) | ((k_dflt ((with_reducible show wpAny _ _ (call (Value.builtin "len") [Value.ref _]) _ _ _); (rename News _ _ _ _ => N9q); (refine len_news N9q (by k_memK) (by with_reducible assumption) (by omega) ?_)))) | ((k_dflt ((with_reducible show wpAny _ _ (call (Value.type _) [Value.ref _]) _ _ _); (refine list_range _ (by rfl) (by assumption) (by assumption) (by assumption) (by exact small_mine (by omega) (by omega) (by omega)) (by assumption) (by omega) ?_; intro _ _ _ _ _ _ l1q _ _; (try k_lt l1q))))) | ((k_dflt ((with_reducible show wpAny _ _ (call (Value.type _) [Value.int _ _, Value.int _ _]) _ _ _); (refine rng2 (by assumption) (by assumption) ?_); intro _ _ _ _ _ _ _ _ _))) | ((k_dflt ((with_reducible show wpAny _ _ (binaryOp _ (Value.int (_ + 1) _) (Value.int 4 _)) _ _ _); (refine div_q2 (by exact fmod4 _) ?_)))) | walk1 | (dsimp only; walk1) | (leave1; try dsimp only))))
    rename Fr _ _ _ _ => F5
    rw [ew] at F5
    refine' ExitW.here _ F5 ?Nu2 ?nu2 ?hpu2 trivial
    case Nu2 => assumption
    case hpu2 => ((repeat' (first | exact List.forall_mem_nil _ | (refine List.forall_mem_cons.mpr ⟨by with_unfolding_all rfl, ?_⟩))))
    case nu2 => ((repeat' (first | exact List.forall_mem_nil _ | (refine List.forall_mem_cons.mpr ⟨by k_memK, ?_⟩))))
    --}
  case u2d =>
  clear F4 N4
  rintro twh u5 h5 tk5 - F4 N4
  try dsimp only at F4 N4 ⊢
  obtain ⟨H, q1, H2, q2, T1, T2, hm1, hm2⟩ := hpaint b p hb hp8
  obtain ⟨R1, G1, B1, S1, V1, a1, a2, a3, a4, a5, a6, a7⟩ := T1
  obtain ⟨R2, G2, B2, S2, V2, c1, c2, c3, c4, c5, c6, c7⟩ := T2
  refine execs_mid (σ := STo) (L := s1.heap.objs.size) s1.heap (fun c => (c.D, tup3 H S1 V1 c.t c.u c.v) :: (s1.heap.objs.size + 1, o) :: (I, io) :: (lt, listOf vt.toArray kt) :: (ls, listOf vs.toArray ks) :: [(l, listOf v.toArray k)]) (fun c => [(Str.ofString "told", .ref c.D), (Str.ofString "wheel", .int ((7 + 2 * b : Nat) : Int) twh), (Str.ofString "step", .int (b : Int) tst), (Str.ofString "turn", .int (i : Int) ti), (Str.ofString "followed", .int ((ds.getD p0 0 : Nat) : Int) tfo), (Str.ofString "place", .int (p : Int) tp'), (Str.ofString "figures", .int (x : Int) tx), (Str.ofString "steps", .ref lt), (Str.ofString "start", .ref ls), (Str.ofString "share", .float sa ts), (Str.ofString "level", .float va tl), (Str.ofString "number", .int (N : Int) tN)])
    (fun c => c.u ≠ 0 ∧ c.v ≠ 0 ∧ @Ne Nat c.D (s1.heap.objs.size + 1)) ?u3 ?u3d
  case u3 =>
    --{
    (repeat' (first | (k_unfold; (try dsimp only)) | ((with_reducible show wpAny _ _ (PySem.exec (PySem.Stmt.Return (some (PySem.Expr.Constant (PySem.Const.bool false) _ _)) _) _) _ _ _); exfalso; first | assumption | contradiction | omega) | ((fail_if_success (with_reducible show wpAny _ _ (PySem.binaryOp PySem.Operator.Div (Value.int _ _) (Value.int _ _)) _ _ _)); (fail_if_success (with_reducible show wpAny _ _ (PySem.call (PySem.Value.ref _) _) _ _ _)); first | ((k_dflt ((with_reducible show wpAny _ _ (call (Value.ref 49) _) _ _ _); (rename Fr _ _ _ _ => F9q); (rename News _ _ _ _ => N9q); (refine c_lev (by (exact ⟨Frag.In.keeps (by assumption) (Fr.keep (by assumption)), ⟨_, _, _, _, _, Top.keeps (by assumption) (Fr.keep (by assumption))⟩, rfl, by (simp only [Around.deeper, Around.in1]; decide), by (simp only [Around.deeper, Around.in1]; decide)⟩)) (by with_reducible assumption) (by with_reducible assumption) (by with_reducible assumption) (by with_reducible assumption) ?_; intro _ _ _ k9q; (have F8q := Fr.keepsK F9q k9q); (have N8q := News.keepsK N9q k9q); clear F9q N9q k9q)))) | ((k_dflt ((with_reducible show wpAny _ _ (call (Value.ref 61) _) _ _ _); (rename Fr _ _ _ _ => F9q); (rename News _ _ _ _ => N9q); (refine c_word (by (exact ⟨Frag.In.keeps (by assumption) (Fr.keep (by assumption)), ⟨_, _, _, _, _, Top.keeps (by assumption) (Fr.keep (by assumption))⟩, rfl, by (simp only [Around.deeper, Around.in1]; decide), by (simp only [Around.deeper, Around.in1]; decide)⟩)) (by with_reducible assumption) (by with_reducible assumption) (by with_reducible assumption) (by with_reducible assumption) ?_; intro _ _ _ k9q; (have F8q := Fr.keepsK F9q k9q); (have N8q := News.keepsK N9q k9q); clear F9q N9q k9q)))) | (((with_reducible show wpAny _ _ (eval (Expr.Name _ _) (compEnvC _ _ _ _)) _ _ _); k_dflt (first | (refine blk_C (by assumption) (by rfl) (by k_mem) (by assumption) ?_ (by rfl) (by rfl) (by decide)) | (refine blk_L (by assumption) (by rfl) (by assumption) ?_ (by rfl) (by rfl) (by decide))))) | ((with_reducible show wpAny _ _ (compareOp CmpOp.NotEq (Value.bytes _ _) (Value.bytes _ _)) _ _ _); (k_dflt (refine ne_same ?_))) | ((k_dflt ((with_reducible show wpAny _ _ (call (Value.ref 21) _) _ _ _); (refine c_ap (by (exact ⟨Frag.In.keeps (by assumption) (Fr.keep (by assumption)), ⟨_, _, _, _, _, Top.keeps (by assumption) (Fr.keep (by assumption))⟩, rfl, by (simp only [Around.deeper, Around.in1]; decide), by (simp only [Around.deeper, Around.in1]; decide)⟩)) (by with_reducible assumption) (by with_reducible assumption) (by with_reducible assumption) (by with_reducible assumption) ?_; intro _ _ _ k9q; (rename Fr _ _ _ _ => F9q); (rename News _ _ _ _ => N9q); (have F8q := Fr.keepsK F9q k9q); (have N8q := News.keepsK N9q k9q); clear F9q N9q k9q)))) | ((k_dflt ((with_reducible show wpAny _ _ (call (Value.ref 56) _) _ _ _); (rename Fr _ _ _ _ => F9q); (rename News _ _ _ _ => N9q); (refine c_number (by (exact ⟨Frag.In.keeps (by assumption) (Fr.keep (by assumption)), ⟨_, _, _, _, _, Top.keeps (by assumption) (Fr.keep (by assumption))⟩, rfl, by (simp only [Around.deeper, Around.in1]; decide), by (simp only [Around.deeper, Around.in1]; decide)⟩)) (isList_news N9q (by k_memK)) (by with_reducible assumption) ?_; intro _ _ _ k9q; (have F8q := Fr.keepsK F9q k9q); (have N8q := News.keepsK N9q k9q); clear F9q N9q k9q)))) | ((k_dflt ((with_reducible show wpAny _ _ (call (Value.builtin "len") [Value.ref _]) _ _ _); (rename News _ _ _ _ => N9q); (refine len_news N9q (by k_memK) (by with_reducible assumption) (by omega) ?_)))) | ((k_dflt ((with_reducible show wpAny _ _ (call (Value.type _) [Value.ref _]) _ _ _); (refine list_range _ (by rfl) (by assumption) (by assumption) (by assumption) (by exact small_mine (by omega) (by omega) (by omega)) (by assumption) (by omega) ?_; intro _ _ _ _ _ _ l1q _ _; (try k_lt l1q))))) | ((k_dflt ((with_reducible show wpAny _ _ (call (Value.type _) [Value.int _ _, Value.int _ _]) _ _ _); (refine rng2 (by assumption) (by assumption) ?_); intro _ _ _ _ _ _ _ _ _))) | ((k_dflt ((with_reducible show wpAny _ _ (binaryOp _ (Value.int (_ + 1) _) (Value.int 4 _)) _ _ _); (refine div_q2 (by exact fmod4 _) ?_)))) | walk1 | (dsimp only; walk1) | (leave1; try dsimp only))))
    refine div_pw hp8 hb ?_
    (repeat' (first | (k_unfold; (try dsimp only)) | ((with_reducible show wpAny _ _ (PySem.exec (PySem.Stmt.Return (some (PySem.Expr.Constant (PySem.Const.bool false) _ _)) _) _) _ _ _); exfalso; first | assumption | contradiction | omega) | ((fail_if_success (with_reducible show wpAny _ _ (PySem.binaryOp PySem.Operator.Div (Value.int _ _) (Value.int _ _)) _ _ _)); (fail_if_success (with_reducible show wpAny _ _ (PySem.call (PySem.Value.ref _) _) _ _ _)); first | ((k_dflt ((with_reducible show wpAny _ _ (call (Value.ref 49) _) _ _ _); (rename Fr _ _ _ _ => F9q); (rename News _ _ _ _ => N9q); (refine c_lev (by (exact ⟨Frag.In.keeps (by assumption) (Fr.keep (by assumption)), ⟨_, _, _, _, _, Top.keeps (by assumption) (Fr.keep (by assumption))⟩, rfl, by (simp only [Around.deeper, Around.in1]; decide), by (simp only [Around.deeper, Around.in1]; decide)⟩)) (by with_reducible assumption) (by with_reducible assumption) (by with_reducible assumption) (by with_reducible assumption) ?_; intro _ _ _ k9q; (have F8q := Fr.keepsK F9q k9q); (have N8q := News.keepsK N9q k9q); clear F9q N9q k9q)))) | ((k_dflt ((with_reducible show wpAny _ _ (call (Value.ref 61) _) _ _ _); (rename Fr _ _ _ _ => F9q); (rename News _ _ _ _ => N9q); (refine c_word (by (exact ⟨Frag.In.keeps (by assumption) (Fr.keep (by assumption)), ⟨_, _, _, _, _, Top.keeps (by assumption) (Fr.keep (by assumption))⟩, rfl, by (simp only [Around.deeper, Around.in1]; decide), by (simp only [Around.deeper, Around.in1]; decide)⟩)) (by with_reducible assumption) (by with_reducible assumption) (by with_reducible assumption) (by with_reducible assumption) ?_; intro _ _ _ k9q; (have F8q := Fr.keepsK F9q k9q); (have N8q := News.keepsK N9q k9q); clear F9q N9q k9q)))) | (((with_reducible show wpAny _ _ (eval (Expr.Name _ _) (compEnvC _ _ _ _)) _ _ _); k_dflt (first | (refine blk_C (by assumption) (by rfl) (by k_mem) (by assumption) ?_ (by rfl) (by rfl) (by decide)) | (refine blk_L (by assumption) (by rfl) (by assumption) ?_ (by rfl) (by rfl) (by decide))))) | ((with_reducible show wpAny _ _ (compareOp CmpOp.NotEq (Value.bytes _ _) (Value.bytes _ _)) _ _ _); (k_dflt (refine ne_same ?_))) | ((k_dflt ((with_reducible show wpAny _ _ (call (Value.ref 21) _) _ _ _); (refine c_ap (by (exact ⟨Frag.In.keeps (by assumption) (Fr.keep (by assumption)), ⟨_, _, _, _, _, Top.keeps (by assumption) (Fr.keep (by assumption))⟩, rfl, by (simp only [Around.deeper, Around.in1]; decide), by (simp only [Around.deeper, Around.in1]; decide)⟩)) (by with_reducible assumption) (by with_reducible assumption) (by with_reducible assumption) (by with_reducible assumption) ?_; intro _ _ _ k9q; (rename Fr _ _ _ _ => F9q); (rename News _ _ _ _ => N9q); (have F8q := Fr.keepsK F9q k9q); (have N8q := News.keepsK N9q k9q); clear F9q N9q k9q)))) | ((k_dflt ((with_reducible show wpAny _ _ (call (Value.ref 56) _) _ _ _); (rename Fr _ _ _ _ => F9q); (rename News _ _ _ _ => N9q); (refine c_number (by (exact ⟨Frag.In.keeps (by assumption) (Fr.keep (by assumption)), ⟨_, _, _, _, _, Top.keeps (by assumption) (Fr.keep (by assumption))⟩, rfl, by (simp only [Around.deeper, Around.in1]; decide), by (simp only [Around.deeper, Around.in1]; decide)⟩)) (isList_news N9q (by k_memK)) (by with_reducible assumption) ?_; intro _ _ _ k9q; (have F8q := Fr.keepsK F9q k9q); (have N8q := News.keepsK N9q k9q); clear F9q N9q k9q)))) | ((k_dflt ((with_reducible show wpAny _ _ (call (Value.builtin "len") [Value.ref _]) _ _ _); (rename News _ _ _ _ => N9q); (refine len_news N9q (by k_memK) (by with_reducible assumption) (by omega) ?_)))) | ((k_dflt ((with_reducible show wpAny _ _ (call (Value.type _) [Value.ref _]) _ _ _); (refine list_range _ (by rfl) (by assumption) (by assumption) (by assumption) (by exact small_mine (by omega) (by omega) (by omega)) (by assumption) (by omega) ?_; intro _ _ _ _ _ _ l1q _ _; (try k_lt l1q))))) | ((k_dflt ((with_reducible show wpAny _ _ (call (Value.type _) [Value.int _ _, Value.int _ _]) _ _ _); (refine rng2 (by assumption) (by assumption) ?_); intro _ _ _ _ _ _ _ _ _))) | ((k_dflt ((with_reducible show wpAny _ _ (binaryOp _ (Value.int (_ + 1) _) (Value.int 4 _)) _ _ _); (refine div_q2 (by exact fmod4 _) ?_)))) | walk1 | (dsimp only; walk1) | (leave1; try dsimp only))))
    rename Fr _ _ _ _ => F5
    rename News _ _ _ _ => N5
    refine' c_told ?Cu3 htl a1 a2 ?_
    case Cu3 => (exact ⟨Frag.In.keeps (by assumption) (Fr.keep (by assumption)), ⟨_, _, _, _, _, Top.keeps (by assumption) (Fr.keep (by assumption))⟩, rfl, by (simp only [Around.deeper, Around.in1]; decide), by (simp only [Around.deeper, Around.in1]; decide)⟩)
    intro D1 t1 t2 t3 h6 tk6 kk hnone hsome ht2 ht3
    have hDL : @Ne Nat D1 (s1.heap.objs.size + 1) := ne_made N5 (by k_memK) hnone
    have F6 := Fr.keepsK F5 kk
    have N6 := News.addK F5 N5 kk hnone hsome
    clear F5 N5 kk hnone hsome
    (repeat' (first | (k_unfold; (try dsimp only)) | ((with_reducible show wpAny _ _ (PySem.exec (PySem.Stmt.Return (some (PySem.Expr.Constant (PySem.Const.bool false) _ _)) _) _) _ _ _); exfalso; first | assumption | contradiction | omega) | ((fail_if_success (with_reducible show wpAny _ _ (PySem.binaryOp PySem.Operator.Div (Value.int _ _) (Value.int _ _)) _ _ _)); (fail_if_success (with_reducible show wpAny _ _ (PySem.call (PySem.Value.ref _) _) _ _ _)); first | ((k_dflt ((with_reducible show wpAny _ _ (call (Value.ref 49) _) _ _ _); (rename Fr _ _ _ _ => F9q); (rename News _ _ _ _ => N9q); (refine c_lev (by (exact ⟨Frag.In.keeps (by assumption) (Fr.keep (by assumption)), ⟨_, _, _, _, _, Top.keeps (by assumption) (Fr.keep (by assumption))⟩, rfl, by (simp only [Around.deeper, Around.in1]; decide), by (simp only [Around.deeper, Around.in1]; decide)⟩)) (by with_reducible assumption) (by with_reducible assumption) (by with_reducible assumption) (by with_reducible assumption) ?_; intro _ _ _ k9q; (have F8q := Fr.keepsK F9q k9q); (have N8q := News.keepsK N9q k9q); clear F9q N9q k9q)))) | ((k_dflt ((with_reducible show wpAny _ _ (call (Value.ref 61) _) _ _ _); (rename Fr _ _ _ _ => F9q); (rename News _ _ _ _ => N9q); (refine c_word (by (exact ⟨Frag.In.keeps (by assumption) (Fr.keep (by assumption)), ⟨_, _, _, _, _, Top.keeps (by assumption) (Fr.keep (by assumption))⟩, rfl, by (simp only [Around.deeper, Around.in1]; decide), by (simp only [Around.deeper, Around.in1]; decide)⟩)) (by with_reducible assumption) (by with_reducible assumption) (by with_reducible assumption) (by with_reducible assumption) ?_; intro _ _ _ k9q; (have F8q := Fr.keepsK F9q k9q); (have N8q := News.keepsK N9q k9q); clear F9q N9q k9q)))) | (((with_reducible show wpAny _ _ (eval (Expr.Name _ _) (compEnvC _ _ _ _)) _ _ _); k_dflt (first | (refine blk_C (by assumption) (by rfl) (by k_mem) (by assumption) ?_ (by rfl) (by rfl) (by decide)) | (refine blk_L (by assumption) (by rfl) (by assumption) ?_ (by rfl) (by rfl) (by decide))))) | ((with_reducible show wpAny _ _ (compareOp CmpOp.NotEq (Value.bytes _ _) (Value.bytes _ _)) _ _ _); (k_dflt (refine ne_same ?_))) | ((k_dflt ((with_reducible show wpAny _ _ (call (Value.ref 21) _) _ _ _); (refine c_ap (by (exact ⟨Frag.In.keeps (by assumption) (Fr.keep (by assumption)), ⟨_, _, _, _, _, Top.keeps (by assumption) (Fr.keep (by assumption))⟩, rfl, by (simp only [Around.deeper, Around.in1]; decide), by (simp only [Around.deeper, Around.in1]; decide)⟩)) (by with_reducible assumption) (by with_reducible assumption) (by with_reducible assumption) (by with_reducible assumption) ?_; intro _ _ _ k9q; (rename Fr _ _ _ _ => F9q); (rename News _ _ _ _ => N9q); (have F8q := Fr.keepsK F9q k9q); (have N8q := News.keepsK N9q k9q); clear F9q N9q k9q)))) | ((k_dflt ((with_reducible show wpAny _ _ (call (Value.ref 56) _) _ _ _); (rename Fr _ _ _ _ => F9q); (rename News _ _ _ _ => N9q); (refine c_number (by (exact ⟨Frag.In.keeps (by assumption) (Fr.keep (by assumption)), ⟨_, _, _, _, _, Top.keeps (by assumption) (Fr.keep (by assumption))⟩, rfl, by (simp only [Around.deeper, Around.in1]; decide), by (simp only [Around.deeper, Around.in1]; decide)⟩)) (isList_news N9q (by k_memK)) (by with_reducible assumption) ?_; intro _ _ _ k9q; (have F8q := Fr.keepsK F9q k9q); (have N8q := News.keepsK N9q k9q); clear F9q N9q k9q)))) | ((k_dflt ((with_reducible show wpAny _ _ (call (Value.builtin "len") [Value.ref _]) _ _ _); (rename News _ _ _ _ => N9q); (refine len_news N9q (by k_memK) (by with_reducible assumption) (by omega) ?_)))) | ((k_dflt ((with_reducible show wpAny _ _ (call (Value.type _) [Value.ref _]) _ _ _); (refine list_range _ (by rfl) (by assumption) (by assumption) (by assumption) (by exact small_mine (by omega) (by omega) (by omega)) (by assumption) (by omega) ?_; intro _ _ _ _ _ _ l1q _ _; (try k_lt l1q))))) | ((k_dflt ((with_reducible show wpAny _ _ (call (Value.type _) [Value.int _ _, Value.int _ _]) _ _ _); (refine rng2 (by assumption) (by assumption) ?_); intro _ _ _ _ _ _ _ _ _))) | ((k_dflt ((with_reducible show wpAny _ _ (binaryOp _ (Value.int (_ + 1) _) (Value.int 4 _)) _ _ _); (refine div_q2 (by exact fmod4 _) ?_)))) | walk1 | (dsimp only; walk1) | (leave1; try dsimp only))))
    refine' ExitW.here ⟨D1, t1, t2, t3⟩ ?Fu3 ?Nu3 ?nu3 ?hpu3 ⟨ht2, ht3, hDL⟩
    case Fu3 => assumption
    case Nu3 => assumption
    case hpu3 => ((repeat' (first | exact List.forall_mem_nil _ | (refine List.forall_mem_cons.mpr ⟨by with_unfolding_all rfl, ?_⟩))))
    case nu3 => ((repeat' (first | exact List.forall_mem_nil _ | (refine List.forall_mem_cons.mpr ⟨by k_memK, ?_⟩))))
    --}
  case u3d =>
  clear F4 N4
  rintro ⟨D1, t1, t2, t3⟩ u5 h5 tk5 ⟨ht2, ht3, hD1⟩ F4 N4
  dsimp only at ht2 ht3 hD1 F4 N4 ⊢
  rw [← a7] at hm1
  rw [← c7] at hm2
  simp only [hueI] at a5 a6 hm1 c5 c6 hm2
  rw [Int.natCast_add] at hm1
  refine execs_mid (σ := Unit) (L := s1.heap.objs.size) s1.heap (fun _ => (D1, tup3 H S1 V1 t1 t2 t3) :: (s1.heap.objs.size + 1, o) :: (I, io) :: (lt, listOf vt.toArray kt) :: (ls, listOf vs.toArray ks) :: [(l, listOf v.toArray k)]) (fun _ => [(Str.ofString "told", .ref D1), (Str.ofString "wheel", .int ((7 + 2 * b : Nat) : Int) twh), (Str.ofString "step", .int (b : Int) tst), (Str.ofString "turn", .int (i : Int) ti), (Str.ofString "followed", .int ((ds.getD p0 0 : Nat) : Int) tfo), (Str.ofString "place", .int (p : Int) tp'), (Str.ofString "figures", .int (x : Int) tx), (Str.ofString "steps", .ref lt), (Str.ofString "start", .ref ls), (Str.ofString "share", .float sa ts), (Str.ofString "level", .float va tl), (Str.ofString "number", .int (N : Int) tN)])
    (fun _ => True) ?u4 ?u4d
  case u4 =>
    --{
    (repeat' (first | (k_unfold; (try dsimp only)) | ((with_reducible show wpAny _ _ (PySem.exec (PySem.Stmt.Return (some (PySem.Expr.Constant (PySem.Const.bool false) _ _)) _) _) _ _ _); exfalso; first | assumption | contradiction | omega) | ((fail_if_success (with_reducible show wpAny _ _ (PySem.binaryOp PySem.Operator.Div (Value.int _ _) (Value.int _ _)) _ _ _)); (fail_if_success (with_reducible show wpAny _ _ (PySem.call (PySem.Value.ref _) _) _ _ _)); first | ((k_dflt ((with_reducible show wpAny _ _ (call (Value.ref 49) _) _ _ _); (rename Fr _ _ _ _ => F9q); (rename News _ _ _ _ => N9q); (refine c_lev (by (exact ⟨Frag.In.keeps (by assumption) (Fr.keep (by assumption)), ⟨_, _, _, _, _, Top.keeps (by assumption) (Fr.keep (by assumption))⟩, rfl, by (simp only [Around.deeper, Around.in1]; decide), by (simp only [Around.deeper, Around.in1]; decide)⟩)) (by with_reducible assumption) (by with_reducible assumption) (by with_reducible assumption) (by with_reducible assumption) ?_; intro _ _ _ k9q; (have F8q := Fr.keepsK F9q k9q); (have N8q := News.keepsK N9q k9q); clear F9q N9q k9q)))) | ((k_dflt ((with_reducible show wpAny _ _ (call (Value.ref 61) _) _ _ _); (rename Fr _ _ _ _ => F9q); (rename News _ _ _ _ => N9q); (refine c_word (by (exact ⟨Frag.In.keeps (by assumption) (Fr.keep (by assumption)), ⟨_, _, _, _, _, Top.keeps (by assumption) (Fr.keep (by assumption))⟩, rfl, by (simp only [Around.deeper, Around.in1]; decide), by (simp only [Around.deeper, Around.in1]; decide)⟩)) (by with_reducible assumption) (by with_reducible assumption) (by with_reducible assumption) (by with_reducible assumption) ?_; intro _ _ _ k9q; (have F8q := Fr.keepsK F9q k9q); (have N8q := News.keepsK N9q k9q); clear F9q N9q k9q)))) | (((with_reducible show wpAny _ _ (eval (Expr.Name _ _) (compEnvC _ _ _ _)) _ _ _); k_dflt (first | (refine blk_C (by assumption) (by rfl) (by k_mem) (by assumption) ?_ (by rfl) (by rfl) (by decide)) | (refine blk_L (by assumption) (by rfl) (by assumption) ?_ (by rfl) (by rfl) (by decide))))) | ((with_reducible show wpAny _ _ (compareOp CmpOp.NotEq (Value.bytes _ _) (Value.bytes _ _)) _ _ _); (k_dflt (refine ne_same ?_))) | ((k_dflt ((with_reducible show wpAny _ _ (call (Value.ref 21) _) _ _ _); (refine c_ap (by (exact ⟨Frag.In.keeps (by assumption) (Fr.keep (by assumption)), ⟨_, _, _, _, _, Top.keeps (by assumption) (Fr.keep (by assumption))⟩, rfl, by (simp only [Around.deeper, Around.in1]; decide), by (simp only [Around.deeper, Around.in1]; decide)⟩)) (by with_reducible assumption) (by with_reducible assumption) (by with_reducible assumption) (by with_reducible assumption) ?_; intro _ _ _ k9q; (rename Fr _ _ _ _ => F9q); (rename News _ _ _ _ => N9q); (have F8q := Fr.keepsK F9q k9q); (have N8q := News.keepsK N9q k9q); clear F9q N9q k9q)))) | ((k_dflt ((with_reducible show wpAny _ _ (call (Value.ref 56) _) _ _ _); (rename Fr _ _ _ _ => F9q); (rename News _ _ _ _ => N9q); (refine c_number (by (exact ⟨Frag.In.keeps (by assumption) (Fr.keep (by assumption)), ⟨_, _, _, _, _, Top.keeps (by assumption) (Fr.keep (by assumption))⟩, rfl, by (simp only [Around.deeper, Around.in1]; decide), by (simp only [Around.deeper, Around.in1]; decide)⟩)) (isList_news N9q (by k_memK)) (by with_reducible assumption) ?_; intro _ _ _ k9q; (have F8q := Fr.keepsK F9q k9q); (have N8q := News.keepsK N9q k9q); clear F9q N9q k9q)))) | ((k_dflt ((with_reducible show wpAny _ _ (call (Value.builtin "len") [Value.ref _]) _ _ _); (rename News _ _ _ _ => N9q); (refine len_news N9q (by k_memK) (by with_reducible assumption) (by omega) ?_)))) | ((k_dflt ((with_reducible show wpAny _ _ (call (Value.type _) [Value.ref _]) _ _ _); (refine list_range _ (by rfl) (by assumption) (by assumption) (by assumption) (by exact small_mine (by omega) (by omega) (by omega)) (by assumption) (by omega) ?_; intro _ _ _ _ _ _ l1q _ _; (try k_lt l1q))))) | ((k_dflt ((with_reducible show wpAny _ _ (call (Value.type _) [Value.int _ _, Value.int _ _]) _ _ _); (refine rng2 (by assumption) (by assumption) ?_); intro _ _ _ _ _ _ _ _ _))) | ((k_dflt ((with_reducible show wpAny _ _ (binaryOp _ (Value.int (_ + 1) _) (Value.int 4 _)) _ _ _); (refine div_q2 (by exact fmod4 _) ?_)))) | walk1 | (dsimp only; walk1) | (leave1; try dsimp only))))
    refine' ExitW.here () ?Fu4 ?Nu4 ?nu4 ?hpu4 trivial
    case Fu4 => assumption
    case Nu4 => assumption
    case hpu4 => ((repeat' (first | exact List.forall_mem_nil _ | (refine List.forall_mem_cons.mpr ⟨by with_unfolding_all rfl, ?_⟩))))
    case nu4 => ((repeat' (first | exact List.forall_mem_nil _ | (refine List.forall_mem_cons.mpr ⟨by k_memK, ?_⟩))))
    --}
  case u4d =>
  clear F4 N4
  rintro - u5 h5 tk5 - F4 N4
  try dsimp only at F4 N4 ⊢
  refine execs_mid (σ := STo) (L := s1.heap.objs.size) s1.heap (fun c => (c.D, tup3 H2 S2 V2 c.t c.u c.v) :: (D1, tup3 H S1 V1 t1 t2 t3) :: (s1.heap.objs.size + 1, o) :: (I, io) :: (lt, listOf vt.toArray kt) :: (ls, listOf vs.toArray ks) :: [(l, listOf v.toArray k)]) (fun c => [(Str.ofString "twice", .ref c.D), (Str.ofString "told", .ref D1), (Str.ofString "wheel", .int ((7 + 2 * b : Nat) : Int) twh), (Str.ofString "step", .int (b : Int) tst), (Str.ofString "turn", .int (i : Int) ti), (Str.ofString "followed", .int ((ds.getD p0 0 : Nat) : Int) tfo), (Str.ofString "place", .int (p : Int) tp'), (Str.ofString "figures", .int (x : Int) tx), (Str.ofString "steps", .ref lt), (Str.ofString "start", .ref ls), (Str.ofString "share", .float sa ts), (Str.ofString "level", .float va tl), (Str.ofString "number", .int (N : Int) tN)])
    (fun c => c.u ≠ 0 ∧ c.v ≠ 0 ∧ @Ne Nat c.D (s1.heap.objs.size + 1)) ?u5 ?u5d
  case u5 =>
    --{
    (repeat' (first | (k_unfold; (try dsimp only)) | ((with_reducible show wpAny _ _ (PySem.exec (PySem.Stmt.Return (some (PySem.Expr.Constant (PySem.Const.bool false) _ _)) _) _) _ _ _); exfalso; first | assumption | contradiction | omega) | ((fail_if_success (with_reducible show wpAny _ _ (PySem.binaryOp PySem.Operator.Div (Value.int _ _) (Value.int _ _)) _ _ _)); (fail_if_success (with_reducible show wpAny _ _ (PySem.call (PySem.Value.ref _) _) _ _ _)); first | ((k_dflt ((with_reducible show wpAny _ _ (call (Value.ref 49) _) _ _ _); (rename Fr _ _ _ _ => F9q); (rename News _ _ _ _ => N9q); (refine c_lev (by (exact ⟨Frag.In.keeps (by assumption) (Fr.keep (by assumption)), ⟨_, _, _, _, _, Top.keeps (by assumption) (Fr.keep (by assumption))⟩, rfl, by (simp only [Around.deeper, Around.in1]; decide), by (simp only [Around.deeper, Around.in1]; decide)⟩)) (by with_reducible assumption) (by with_reducible assumption) (by with_reducible assumption) (by with_reducible assumption) ?_; intro _ _ _ k9q; (have F8q := Fr.keepsK F9q k9q); (have N8q := News.keepsK N9q k9q); clear F9q N9q k9q)))) | ((k_dflt ((with_reducible show wpAny _ _ (call (Value.ref 61) _) _ _ _); (rename Fr _ _ _ _ => F9q); (rename News _ _ _ _ => N9q); (refine c_word (by (exact ⟨Frag.In.keeps (by assumption) (Fr.keep (by assumption)), ⟨_, _, _, _, _, Top.keeps (by assumption) (Fr.keep (by assumption))⟩, rfl, by (simp only [Around.deeper, Around.in1]; decide), by (simp only [Around.deeper, Around.in1]; decide)⟩)) (by with_reducible assumption) (by with_reducible assumption) (by with_reducible assumption) (by with_reducible assumption) ?_; intro _ _ _ k9q; (have F8q := Fr.keepsK F9q k9q); (have N8q := News.keepsK N9q k9q); clear F9q N9q k9q)))) | (((with_reducible show wpAny _ _ (eval (Expr.Name _ _) (compEnvC _ _ _ _)) _ _ _); k_dflt (first | (refine blk_C (by assumption) (by rfl) (by k_mem) (by assumption) ?_ (by rfl) (by rfl) (by decide)) | (refine blk_L (by assumption) (by rfl) (by assumption) ?_ (by rfl) (by rfl) (by decide))))) | ((with_reducible show wpAny _ _ (compareOp CmpOp.NotEq (Value.bytes _ _) (Value.bytes _ _)) _ _ _); (k_dflt (refine ne_same ?_))) | ((k_dflt ((with_reducible show wpAny _ _ (call (Value.ref 21) _) _ _ _); (refine c_ap (by (exact ⟨Frag.In.keeps (by assumption) (Fr.keep (by assumption)), ⟨_, _, _, _, _, Top.keeps (by assumption) (Fr.keep (by assumption))⟩, rfl, by (simp only [Around.deeper, Around.in1]; decide), by (simp only [Around.deeper, Around.in1]; decide)⟩)) (by with_reducible assumption) (by with_reducible assumption) (by with_reducible assumption) (by with_reducible assumption) ?_; intro _ _ _ k9q; (rename Fr _ _ _ _ => F9q); (rename News _ _ _ _ => N9q); (have F8q := Fr.keepsK F9q k9q); (have N8q := News.keepsK N9q k9q); clear F9q N9q k9q)))) | ((k_dflt ((with_reducible show wpAny _ _ (call (Value.ref 56) _) _ _ _); (rename Fr _ _ _ _ => F9q); (rename News _ _ _ _ => N9q); (refine c_number (by (exact ⟨Frag.In.keeps (by assumption) (Fr.keep (by assumption)), ⟨_, _, _, _, _, Top.keeps (by assumption) (Fr.keep (by assumption))⟩, rfl, by (simp only [Around.deeper, Around.in1]; decide), by (simp only [Around.deeper, Around.in1]; decide)⟩)) (isList_news N9q (by k_memK)) (by with_reducible assumption) ?_; intro _ _ _ k9q; (have F8q := Fr.keepsK F9q k9q); (have N8q := News.keepsK N9q k9q); clear F9q N9q k9q)))) | ((k_dflt ((with_reducible show wpAny _ _ (call (Value.builtin "len") [Value.ref _]) _ _ _); (rename News _ _ _ _ => N9q); (refine len_news N9q (by k_memK) (by with_reducible assumption) (by omega) ?_)))) | ((k_dflt ((with_reducible show wpAny _ _ (call (Value.type _) [Value.ref _]) _ _ _); (refine list_range _ (by rfl) (by assumption) (by assumption) (by assumption) (by exact small_mine (by omega) (by omega) (by omega)) (by assumption) (by omega) ?_; intro _ _ _ _ _ _ l1q _ _; (try k_lt l1q))))) | ((k_dflt ((with_reducible show wpAny _ _ (call (Value.type _) [Value.int _ _, Value.int _ _]) _ _ _); (refine rng2 (by assumption) (by assumption) ?_); intro _ _ _ _ _ _ _ _ _))) | ((k_dflt ((with_reducible show wpAny _ _ (binaryOp _ (Value.int (_ + 1) _) (Value.int 4 _)) _ _ _); (refine div_q2 (by exact fmod4 _) ?_)))) | walk1 | (dsimp only; walk1) | (leave1; try dsimp only))))
    rename Fr _ _ _ _ => F5
    rename News _ _ _ _ => N5
    refine' c_told ?Cu5 htl c1 c2 ?_
    case Cu5 => (exact ⟨Frag.In.keeps (by assumption) (Fr.keep (by assumption)), ⟨_, _, _, _, _, Top.keeps (by assumption) (Fr.keep (by assumption))⟩, rfl, by (simp only [Around.deeper, Around.in1]; decide), by (simp only [Around.deeper, Around.in1]; decide)⟩)
    intro D2 t4 t5 t6 h6 tk6 kk hnone hsome ht5 ht6
    have hDL : @Ne Nat D2 (s1.heap.objs.size + 1) := ne_made N5 (by k_memK) hnone
    have F6 := Fr.keepsK F5 kk
    have N6 := News.addK F5 N5 kk hnone hsome
    clear F5 N5 kk hnone hsome
    (repeat' (first | (k_unfold; (try dsimp only)) | ((with_reducible show wpAny _ _ (PySem.exec (PySem.Stmt.Return (some (PySem.Expr.Constant (PySem.Const.bool false) _ _)) _) _) _ _ _); exfalso; first | assumption | contradiction | omega) | ((fail_if_success (with_reducible show wpAny _ _ (PySem.binaryOp PySem.Operator.Div (Value.int _ _) (Value.int _ _)) _ _ _)); (fail_if_success (with_reducible show wpAny _ _ (PySem.call (PySem.Value.ref _) _) _ _ _)); first | ((k_dflt ((with_reducible show wpAny _ _ (call (Value.ref 49) _) _ _ _); (rename Fr _ _ _ _ => F9q); (rename News _ _ _ _ => N9q); (refine c_lev (by (exact ⟨Frag.In.keeps (by assumption) (Fr.keep (by assumption)), ⟨_, _, _, _, _, Top.keeps (by assumption) (Fr.keep (by assumption))⟩, rfl, by (simp only [Around.deeper, Around.in1]; decide), by (simp only [Around.deeper, Around.in1]; decide)⟩)) (by with_reducible assumption) (by with_reducible assumption) (by with_reducible assumption) (by with_reducible assumption) ?_; intro _ _ _ k9q; (have F8q := Fr.keepsK F9q k9q); (have N8q := News.keepsK N9q k9q); clear F9q N9q k9q)))) | ((k_dflt ((with_reducible show wpAny _ _ (call (Value.ref 61) _) _ _ _); (rename Fr _ _ _ _ => F9q); (rename News _ _ _ _ => N9q); (refine c_word (by (exact ⟨Frag.In.keeps (by assumption) (Fr.keep (by assumption)), ⟨_, _, _, _, _, Top.keeps (by assumption) (Fr.keep (by assumption))⟩, rfl, by (simp only [Around.deeper, Around.in1]; decide), by (simp only [Around.deeper, Around.in1]; decide)⟩)) (by with_reducible assumption) (by with_reducible assumption) (by with_reducible assumption) (by with_reducible assumption) ?_; intro _ _ _ k9q; (have F8q := Fr.keepsK F9q k9q); (have N8q := News.keepsK N9q k9q); clear F9q N9q k9q)))) | (((with_reducible show wpAny _ _ (eval (Expr.Name _ _) (compEnvC _ _ _ _)) _ _ _); k_dflt (first | (refine blk_C (by assumption) (by rfl) (by k_mem) (by assumption) ?_ (by rfl) (by rfl) (by decide)) | (refine blk_L (by assumption) (by rfl) (by assumption) ?_ (by rfl) (by rfl) (by decide))))) | ((with_reducible show wpAny _ _ (compareOp CmpOp.NotEq (Value.bytes _ _) (Value.bytes _ _)) _ _ _); (k_dflt (refine ne_same ?_))) | ((k_dflt ((with_reducible show wpAny _ _ (call (Value.ref 21) _) _ _ _); (refine c_ap (by (exact ⟨Frag.In.keeps (by assumption) (Fr.keep (by assumption)), ⟨_, _, _, _, _, Top.keeps (by assumption) (Fr.keep (by assumption))⟩, rfl, by (simp only [Around.deeper, Around.in1]; decide), by (simp only [Around.deeper, Around.in1]; decide)⟩)) (by with_reducible assumption) (by with_reducible assumption) (by with_reducible assumption) (by with_reducible assumption) ?_; intro _ _ _ k9q; (rename Fr _ _ _ _ => F9q); (rename News _ _ _ _ => N9q); (have F8q := Fr.keepsK F9q k9q); (have N8q := News.keepsK N9q k9q); clear F9q N9q k9q)))) | ((k_dflt ((with_reducible show wpAny _ _ (call (Value.ref 56) _) _ _ _); (rename Fr _ _ _ _ => F9q); (rename News _ _ _ _ => N9q); (refine c_number (by (exact ⟨Frag.In.keeps (by assumption) (Fr.keep (by assumption)), ⟨_, _, _, _, _, Top.keeps (by assumption) (Fr.keep (by assumption))⟩, rfl, by (simp only [Around.deeper, Around.in1]; decide), by (simp only [Around.deeper, Around.in1]; decide)⟩)) (isList_news N9q (by k_memK)) (by with_reducible assumption) ?_; intro _ _ _ k9q; (have F8q := Fr.keepsK F9q k9q); (have N8q := News.keepsK N9q k9q); clear F9q N9q k9q)))) | ((k_dflt ((with_reducible show wpAny _ _ (call (Value.builtin "len") [Value.ref _]) _ _ _); (rename News _ _ _ _ => N9q); (refine len_news N9q (by k_memK) (by with_reducible assumption) (by omega) ?_)))) | ((k_dflt ((with_reducible show wpAny _ _ (call (Value.type _) [Value.ref _]) _ _ _); (refine list_range _ (by rfl) (by assumption) (by assumption) (by assumption) (by exact small_mine (by omega) (by omega) (by omega)) (by assumption) (by omega) ?_; intro _ _ _ _ _ _ l1q _ _; (try k_lt l1q))))) | ((k_dflt ((with_reducible show wpAny _ _ (call (Value.type _) [Value.int _ _, Value.int _ _]) _ _ _); (refine rng2 (by assumption) (by assumption) ?_); intro _ _ _ _ _ _ _ _ _))) | ((k_dflt ((with_reducible show wpAny _ _ (binaryOp _ (Value.int (_ + 1) _) (Value.int 4 _)) _ _ _); (refine div_q2 (by exact fmod4 _) ?_)))) | walk1 | (dsimp only; walk1) | (leave1; try dsimp only))))
    refine' ExitW.here ⟨D2, t4, t5, t6⟩ ?Fu5 ?Nu5 ?nu5 ?hpu5 ⟨ht5, ht6, hDL⟩
    case Fu5 => assumption
    case Nu5 => assumption
    case hpu5 => ((repeat' (first | exact List.forall_mem_nil _ | (refine List.forall_mem_cons.mpr ⟨by with_unfolding_all rfl, ?_⟩))))
    case nu5 => ((repeat' (first | exact List.forall_mem_nil _ | (refine List.forall_mem_cons.mpr ⟨by k_memK, ?_⟩))))
    --}
  case u5d =>
  clear F4 N4
  rintro ⟨D2, t4, t5, t6⟩ u5 h5 tk5 ⟨ht5, ht6, hD2⟩ F4 N4
  dsimp only at ht5 ht6 hD2 F4 N4 ⊢
  refine execs_mid (σ := Unit) (L := s1.heap.objs.size) s1.heap (fun c => (D2, tup3 H2 S2 V2 t4 t5 t6) :: (s1.heap.objs.size + 1, o) :: (I, io) :: (lt, listOf vt.toArray kt) :: (ls, listOf vs.toArray ks) :: [(l, listOf v.toArray k)]) (fun c => [(Str.ofString "twice", .ref D2), (Str.ofString "wheel", .int ((7 + 2 * b : Nat) : Int) twh), (Str.ofString "step", .int (b : Int) tst), (Str.ofString "turn", .int (i : Int) ti), (Str.ofString "followed", .int ((ds.getD p0 0 : Nat) : Int) tfo), (Str.ofString "place", .int (p : Int) tp'), (Str.ofString "figures", .int (x : Int) tx), (Str.ofString "steps", .ref lt), (Str.ofString "start", .ref ls), (Str.ofString "share", .float sa ts), (Str.ofString "level", .float va tl), (Str.ofString "number", .int (N : Int) tN)])
    (fun _ => True) ?u6 ?u6d
  case u6 =>
    --{
    (repeat' (first | (k_unfold; (try dsimp only)) | ((with_reducible show wpAny _ _ (PySem.exec (PySem.Stmt.Return (some (PySem.Expr.Constant (PySem.Const.bool false) _ _)) _) _) _ _ _); exfalso; first | assumption | contradiction | omega) | ((fail_if_success (with_reducible show wpAny _ _ (subscriptTail _ _ (Value.ref _) (Value.ref _)) _ _ _)); (fail_if_success (with_reducible show wpAny _ _ (compareOp CmpOp.NotEq (Value.ref _) (Value.ref _)) _ _ _)); first | ((k_dflt ((with_reducible show wpAny _ _ (call (Value.ref 49) _) _ _ _); (rename Fr _ _ _ _ => F9q); (rename News _ _ _ _ => N9q); (refine c_lev (by (exact ⟨Frag.In.keeps (by assumption) (Fr.keep (by assumption)), ⟨_, _, _, _, _, Top.keeps (by assumption) (Fr.keep (by assumption))⟩, rfl, by (simp only [Around.deeper, Around.in1]; decide), by (simp only [Around.deeper, Around.in1]; decide)⟩)) (by with_reducible assumption) (by with_reducible assumption) (by with_reducible assumption) (by with_reducible assumption) ?_; intro _ _ _ k9q; (have F8q := Fr.keepsK F9q k9q); (have N8q := News.keepsK N9q k9q); clear F9q N9q k9q)))) | ((k_dflt ((with_reducible show wpAny _ _ (call (Value.ref 61) _) _ _ _); (rename Fr _ _ _ _ => F9q); (rename News _ _ _ _ => N9q); (refine c_word (by (exact ⟨Frag.In.keeps (by assumption) (Fr.keep (by assumption)), ⟨_, _, _, _, _, Top.keeps (by assumption) (Fr.keep (by assumption))⟩, rfl, by (simp only [Around.deeper, Around.in1]; decide), by (simp only [Around.deeper, Around.in1]; decide)⟩)) (by with_reducible assumption) (by with_reducible assumption) (by with_reducible assumption) (by with_reducible assumption) ?_; intro _ _ _ k9q; (have F8q := Fr.keepsK F9q k9q); (have N8q := News.keepsK N9q k9q); clear F9q N9q k9q)))) | (((with_reducible show wpAny _ _ (eval (Expr.Name _ _) (compEnvC _ _ _ _)) _ _ _); k_dflt (first | (refine blk_C (by assumption) (by rfl) (by k_mem) (by assumption) ?_ (by rfl) (by rfl) (by decide)) | (refine blk_L (by assumption) (by rfl) (by assumption) ?_ (by rfl) (by rfl) (by decide))))) | ((with_reducible show wpAny _ _ (compareOp CmpOp.NotEq (Value.bytes _ _) (Value.bytes _ _)) _ _ _); (k_dflt (refine ne_same ?_))) | ((k_dflt ((with_reducible show wpAny _ _ (call (Value.ref 21) _) _ _ _); (refine c_ap (by (exact ⟨Frag.In.keeps (by assumption) (Fr.keep (by assumption)), ⟨_, _, _, _, _, Top.keeps (by assumption) (Fr.keep (by assumption))⟩, rfl, by (simp only [Around.deeper, Around.in1]; decide), by (simp only [Around.deeper, Around.in1]; decide)⟩)) (by with_reducible assumption) (by with_reducible assumption) (by with_reducible assumption) (by with_reducible assumption) ?_; intro _ _ _ k9q; (rename Fr _ _ _ _ => F9q); (rename News _ _ _ _ => N9q); (have F8q := Fr.keepsK F9q k9q); (have N8q := News.keepsK N9q k9q); clear F9q N9q k9q)))) | ((k_dflt ((with_reducible show wpAny _ _ (call (Value.ref 56) _) _ _ _); (rename Fr _ _ _ _ => F9q); (rename News _ _ _ _ => N9q); (refine c_number (by (exact ⟨Frag.In.keeps (by assumption) (Fr.keep (by assumption)), ⟨_, _, _, _, _, Top.keeps (by assumption) (Fr.keep (by assumption))⟩, rfl, by (simp only [Around.deeper, Around.in1]; decide), by (simp only [Around.deeper, Around.in1]; decide)⟩)) (isList_news N9q (by k_memK)) (by with_reducible assumption) ?_; intro _ _ _ k9q; (have F8q := Fr.keepsK F9q k9q); (have N8q := News.keepsK N9q k9q); clear F9q N9q k9q)))) | ((k_dflt ((with_reducible show wpAny _ _ (call (Value.builtin "len") [Value.ref _]) _ _ _); (rename News _ _ _ _ => N9q); (refine len_news N9q (by k_memK) (by with_reducible assumption) (by omega) ?_)))) | ((k_dflt ((with_reducible show wpAny _ _ (call (Value.type _) [Value.ref _]) _ _ _); (refine list_range _ (by rfl) (by assumption) (by assumption) (by assumption) (by exact small_mine (by omega) (by omega) (by omega)) (by assumption) (by omega) ?_; intro _ _ _ _ _ _ l1q _ _; (try k_lt l1q))))) | ((k_dflt ((with_reducible show wpAny _ _ (call (Value.type _) [Value.int _ _, Value.int _ _]) _ _ _); (refine rng2 (by assumption) (by assumption) ?_); intro _ _ _ _ _ _ _ _ _))) | ((k_dflt ((with_reducible show wpAny _ _ (binaryOp _ (Value.int (_ + 1) _) (Value.int 4 _)) _ _ _); (refine div_q2 (by exact fmod4 _) ?_)))) | walk1 | (dsimp only; walk1) | (leave1; try dsimp only))))
    rename Fr _ _ _ _ => F5
    rename News _ _ _ _ => N5
    refine cutT3 (s := ⟨_, _, _, _, _⟩) (T := D1) F5 N5 (by k_memK) ?_
    intro E1 h6 F6 N6 hE1
    clear F5 N5 hE1
    (repeat' (first | (k_unfold; (try dsimp only)) | ((with_reducible show wpAny _ _ (PySem.exec (PySem.Stmt.Return (some (PySem.Expr.Constant (PySem.Const.bool false) _ _)) _) _) _ _ _); exfalso; first | assumption | contradiction | omega) | ((fail_if_success (with_reducible show wpAny _ _ (subscriptTail _ _ (Value.ref _) (Value.ref _)) _ _ _)); (fail_if_success (with_reducible show wpAny _ _ (compareOp CmpOp.NotEq (Value.ref _) (Value.ref _)) _ _ _)); first | ((k_dflt ((with_reducible show wpAny _ _ (call (Value.ref 49) _) _ _ _); (rename Fr _ _ _ _ => F9q); (rename News _ _ _ _ => N9q); (refine c_lev (by (exact ⟨Frag.In.keeps (by assumption) (Fr.keep (by assumption)), ⟨_, _, _, _, _, Top.keeps (by assumption) (Fr.keep (by assumption))⟩, rfl, by (simp only [Around.deeper, Around.in1]; decide), by (simp only [Around.deeper, Around.in1]; decide)⟩)) (by with_reducible assumption) (by with_reducible assumption) (by with_reducible assumption) (by with_reducible assumption) ?_; intro _ _ _ k9q; (have F8q := Fr.keepsK F9q k9q); (have N8q := News.keepsK N9q k9q); clear F9q N9q k9q)))) | ((k_dflt ((with_reducible show wpAny _ _ (call (Value.ref 61) _) _ _ _); (rename Fr _ _ _ _ => F9q); (rename News _ _ _ _ => N9q); (refine c_word (by (exact ⟨Frag.In.keeps (by assumption) (Fr.keep (by assumption)), ⟨_, _, _, _, _, Top.keeps (by assumption) (Fr.keep (by assumption))⟩, rfl, by (simp only [Around.deeper, Around.in1]; decide), by (simp only [Around.deeper, Around.in1]; decide)⟩)) (by with_reducible assumption) (by with_reducible assumption) (by with_reducible assumption) (by with_reducible assumption) ?_; intro _ _ _ k9q; (have F8q := Fr.keepsK F9q k9q); (have N8q := News.keepsK N9q k9q); clear F9q N9q k9q)))) | (((with_reducible show wpAny _ _ (eval (Expr.Name _ _) (compEnvC _ _ _ _)) _ _ _); k_dflt (first | (refine blk_C (by assumption) (by rfl) (by k_mem) (by assumption) ?_ (by rfl) (by rfl) (by decide)) | (refine blk_L (by assumption) (by rfl) (by assumption) ?_ (by rfl) (by rfl) (by decide))))) | ((with_reducible show wpAny _ _ (compareOp CmpOp.NotEq (Value.bytes _ _) (Value.bytes _ _)) _ _ _); (k_dflt (refine ne_same ?_))) | ((k_dflt ((with_reducible show wpAny _ _ (call (Value.ref 21) _) _ _ _); (refine c_ap (by (exact ⟨Frag.In.keeps (by assumption) (Fr.keep (by assumption)), ⟨_, _, _, _, _, Top.keeps (by assumption) (Fr.keep (by assumption))⟩, rfl, by (simp only [Around.deeper, Around.in1]; decide), by (simp only [Around.deeper, Around.in1]; decide)⟩)) (by with_reducible assumption) (by with_reducible assumption) (by with_reducible assumption) (by with_reducible assumption) ?_; intro _ _ _ k9q; (rename Fr _ _ _ _ => F9q); (rename News _ _ _ _ => N9q); (have F8q := Fr.keepsK F9q k9q); (have N8q := News.keepsK N9q k9q); clear F9q N9q k9q)))) | ((k_dflt ((with_reducible show wpAny _ _ (call (Value.ref 56) _) _ _ _); (rename Fr _ _ _ _ => F9q); (rename News _ _ _ _ => N9q); (refine c_number (by (exact ⟨Frag.In.keeps (by assumption) (Fr.keep (by assumption)), ⟨_, _, _, _, _, Top.keeps (by assumption) (Fr.keep (by assumption))⟩, rfl, by (simp only [Around.deeper, Around.in1]; decide), by (simp only [Around.deeper, Around.in1]; decide)⟩)) (isList_news N9q (by k_memK)) (by with_reducible assumption) ?_; intro _ _ _ k9q; (have F8q := Fr.keepsK F9q k9q); (have N8q := News.keepsK N9q k9q); clear F9q N9q k9q)))) | ((k_dflt ((with_reducible show wpAny _ _ (call (Value.builtin "len") [Value.ref _]) _ _ _); (rename News _ _ _ _ => N9q); (refine len_news N9q (by k_memK) (by with_reducible assumption) (by omega) ?_)))) | ((k_dflt ((with_reducible show wpAny _ _ (call (Value.type _) [Value.ref _]) _ _ _); (refine list_range _ (by rfl) (by assumption) (by assumption) (by assumption) (by exact small_mine (by omega) (by omega) (by omega)) (by assumption) (by omega) ?_; intro _ _ _ _ _ _ l1q _ _; (try k_lt l1q))))) | ((k_dflt ((with_reducible show wpAny _ _ (call (Value.type _) [Value.int _ _, Value.int _ _]) _ _ _); (refine rng2 (by assumption) (by assumption) ?_); intro _ _ _ _ _ _ _ _ _))) | ((k_dflt ((with_reducible show wpAny _ _ (binaryOp _ (Value.int (_ + 1) _) (Value.int 4 _)) _ _ _); (refine div_q2 (by exact fmod4 _) ?_)))) | walk1 | (dsimp only; walk1) | (leave1; try dsimp only))))
    rename Fr _ _ _ _ => F5
    rename News _ _ _ _ => N5
    refine ne_tup2 (News.get N5 (o := tup2 S1 V1 t2 t3) (by k_memK)) (News.get N5 (o := tup2 sa va ts tl) (by k_memK)) a3 a4 ht2 ht3 hts htl (noneBooked_of (Frag.In.keeps (by assumption) (Fr.keep F5))) (by simp only [Around.deeper, Around.in1]; decide) ?_
    (repeat' (first | (k_unfold; (try dsimp only)) | ((with_reducible show wpAny _ _ (PySem.exec (PySem.Stmt.Return (some (PySem.Expr.Constant (PySem.Const.bool false) _ _)) _) _) _ _ _); exfalso; first | assumption | contradiction | omega) | ((fail_if_success (with_reducible show wpAny _ _ (subscriptTail _ _ (Value.ref _) (Value.ref _)) _ _ _)); (fail_if_success (with_reducible show wpAny _ _ (compareOp CmpOp.NotEq (Value.ref _) (Value.ref _)) _ _ _)); first | ((k_dflt ((with_reducible show wpAny _ _ (call (Value.ref 49) _) _ _ _); (rename Fr _ _ _ _ => F9q); (rename News _ _ _ _ => N9q); (refine c_lev (by (exact ⟨Frag.In.keeps (by assumption) (Fr.keep (by assumption)), ⟨_, _, _, _, _, Top.keeps (by assumption) (Fr.keep (by assumption))⟩, rfl, by (simp only [Around.deeper, Around.in1]; decide), by (simp only [Around.deeper, Around.in1]; decide)⟩)) (by with_reducible assumption) (by with_reducible assumption) (by with_reducible assumption) (by with_reducible assumption) ?_; intro _ _ _ k9q; (have F8q := Fr.keepsK F9q k9q); (have N8q := News.keepsK N9q k9q); clear F9q N9q k9q)))) | ((k_dflt ((with_reducible show wpAny _ _ (call (Value.ref 61) _) _ _ _); (rename Fr _ _ _ _ => F9q); (rename News _ _ _ _ => N9q); (refine c_word (by (exact ⟨Frag.In.keeps (by assumption) (Fr.keep (by assumption)), ⟨_, _, _, _, _, Top.keeps (by assumption) (Fr.keep (by assumption))⟩, rfl, by (simp only [Around.deeper, Around.in1]; decide), by (simp only [Around.deeper, Around.in1]; decide)⟩)) (by with_reducible assumption) (by with_reducible assumption) (by with_reducible assumption) (by with_reducible assumption) ?_; intro _ _ _ k9q; (have F8q := Fr.keepsK F9q k9q); (have N8q := News.keepsK N9q k9q); clear F9q N9q k9q)))) | (((with_reducible show wpAny _ _ (eval (Expr.Name _ _) (compEnvC _ _ _ _)) _ _ _); k_dflt (first | (refine blk_C (by assumption) (by rfl) (by k_mem) (by assumption) ?_ (by rfl) (by rfl) (by decide)) | (refine blk_L (by assumption) (by rfl) (by assumption) ?_ (by rfl) (by rfl) (by decide))))) | ((with_reducible show wpAny _ _ (compareOp CmpOp.NotEq (Value.bytes _ _) (Value.bytes _ _)) _ _ _); (k_dflt (refine ne_same ?_))) | ((k_dflt ((with_reducible show wpAny _ _ (call (Value.ref 21) _) _ _ _); (refine c_ap (by (exact ⟨Frag.In.keeps (by assumption) (Fr.keep (by assumption)), ⟨_, _, _, _, _, Top.keeps (by assumption) (Fr.keep (by assumption))⟩, rfl, by (simp only [Around.deeper, Around.in1]; decide), by (simp only [Around.deeper, Around.in1]; decide)⟩)) (by with_reducible assumption) (by with_reducible assumption) (by with_reducible assumption) (by with_reducible assumption) ?_; intro _ _ _ k9q; (rename Fr _ _ _ _ => F9q); (rename News _ _ _ _ => N9q); (have F8q := Fr.keepsK F9q k9q); (have N8q := News.keepsK N9q k9q); clear F9q N9q k9q)))) | ((k_dflt ((with_reducible show wpAny _ _ (call (Value.ref 56) _) _ _ _); (rename Fr _ _ _ _ => F9q); (rename News _ _ _ _ => N9q); (refine c_number (by (exact ⟨Frag.In.keeps (by assumption) (Fr.keep (by assumption)), ⟨_, _, _, _, _, Top.keeps (by assumption) (Fr.keep (by assumption))⟩, rfl, by (simp only [Around.deeper, Around.in1]; decide), by (simp only [Around.deeper, Around.in1]; decide)⟩)) (isList_news N9q (by k_memK)) (by with_reducible assumption) ?_; intro _ _ _ k9q; (have F8q := Fr.keepsK F9q k9q); (have N8q := News.keepsK N9q k9q); clear F9q N9q k9q)))) | ((k_dflt ((with_reducible show wpAny _ _ (call (Value.builtin "len") [Value.ref _]) _ _ _); (rename News _ _ _ _ => N9q); (refine len_news N9q (by k_memK) (by with_reducible assumption) (by omega) ?_)))) | ((k_dflt ((with_reducible show wpAny _ _ (call (Value.type _) [Value.ref _]) _ _ _); (refine list_range _ (by rfl) (by assumption) (by assumption) (by assumption) (by exact small_mine (by omega) (by omega) (by omega)) (by assumption) (by omega) ?_; intro _ _ _ _ _ _ l1q _ _; (try k_lt l1q))))) | ((k_dflt ((with_reducible show wpAny _ _ (call (Value.type _) [Value.int _ _, Value.int _ _]) _ _ _); (refine rng2 (by assumption) (by assumption) ?_); intro _ _ _ _ _ _ _ _ _))) | ((k_dflt ((with_reducible show wpAny _ _ (binaryOp _ (Value.int (_ + 1) _) (Value.int 4 _)) _ _ _); (refine div_q2 (by exact fmod4 _) ?_)))) | walk1 | (dsimp only; walk1) | (leave1; try dsimp only))))
    rename Fr _ _ _ _ => F5
    rename News _ _ _ _ => N5
    refine cutT3 (s := ⟨_, _, _, _, _⟩) (T := D2) F5 N5 (by k_memK) ?_
    intro E2 h7 F6 N6 hE2
    clear F5 N5 hE2
    (repeat' (first | (k_unfold; (try dsimp only)) | ((with_reducible show wpAny _ _ (PySem.exec (PySem.Stmt.Return (some (PySem.Expr.Constant (PySem.Const.bool false) _ _)) _) _) _ _ _); exfalso; first | assumption | contradiction | omega) | ((fail_if_success (with_reducible show wpAny _ _ (subscriptTail _ _ (Value.ref _) (Value.ref _)) _ _ _)); (fail_if_success (with_reducible show wpAny _ _ (compareOp CmpOp.NotEq (Value.ref _) (Value.ref _)) _ _ _)); first | ((k_dflt ((with_reducible show wpAny _ _ (call (Value.ref 49) _) _ _ _); (rename Fr _ _ _ _ => F9q); (rename News _ _ _ _ => N9q); (refine c_lev (by (exact ⟨Frag.In.keeps (by assumption) (Fr.keep (by assumption)), ⟨_, _, _, _, _, Top.keeps (by assumption) (Fr.keep (by assumption))⟩, rfl, by (simp only [Around.deeper, Around.in1]; decide), by (simp only [Around.deeper, Around.in1]; decide)⟩)) (by with_reducible assumption) (by with_reducible assumption) (by with_reducible assumption) (by with_reducible assumption) ?_; intro _ _ _ k9q; (have F8q := Fr.keepsK F9q k9q); (have N8q := News.keepsK N9q k9q); clear F9q N9q k9q)))) | ((k_dflt ((with_reducible show wpAny _ _ (call (Value.ref 61) _) _ _ _); (rename Fr _ _ _ _ => F9q); (rename News _ _ _ _ => N9q); (refine c_word (by (exact ⟨Frag.In.keeps (by assumption) (Fr.keep (by assumption)), ⟨_, _, _, _, _, Top.keeps (by assumption) (Fr.keep (by assumption))⟩, rfl, by (simp only [Around.deeper, Around.in1]; decide), by (simp only [Around.deeper, Around.in1]; decide)⟩)) (by with_reducible assumption) (by with_reducible assumption) (by with_reducible assumption) (by with_reducible assumption) ?_; intro _ _ _ k9q; (have F8q := Fr.keepsK F9q k9q); (have N8q := News.keepsK N9q k9q); clear F9q N9q k9q)))) | (((with_reducible show wpAny _ _ (eval (Expr.Name _ _) (compEnvC _ _ _ _)) _ _ _); k_dflt (first | (refine blk_C (by assumption) (by rfl) (by k_mem) (by assumption) ?_ (by rfl) (by rfl) (by decide)) | (refine blk_L (by assumption) (by rfl) (by assumption) ?_ (by rfl) (by rfl) (by decide))))) | ((with_reducible show wpAny _ _ (compareOp CmpOp.NotEq (Value.bytes _ _) (Value.bytes _ _)) _ _ _); (k_dflt (refine ne_same ?_))) | ((k_dflt ((with_reducible show wpAny _ _ (call (Value.ref 21) _) _ _ _); (refine c_ap (by (exact ⟨Frag.In.keeps (by assumption) (Fr.keep (by assumption)), ⟨_, _, _, _, _, Top.keeps (by assumption) (Fr.keep (by assumption))⟩, rfl, by (simp only [Around.deeper, Around.in1]; decide), by (simp only [Around.deeper, Around.in1]; decide)⟩)) (by with_reducible assumption) (by with_reducible assumption) (by with_reducible assumption) (by with_reducible assumption) ?_; intro _ _ _ k9q; (rename Fr _ _ _ _ => F9q); (rename News _ _ _ _ => N9q); (have F8q := Fr.keepsK F9q k9q); (have N8q := News.keepsK N9q k9q); clear F9q N9q k9q)))) | ((k_dflt ((with_reducible show wpAny _ _ (call (Value.ref 56) _) _ _ _); (rename Fr _ _ _ _ => F9q); (rename News _ _ _ _ => N9q); (refine c_number (by (exact ⟨Frag.In.keeps (by assumption) (Fr.keep (by assumption)), ⟨_, _, _, _, _, Top.keeps (by assumption) (Fr.keep (by assumption))⟩, rfl, by (simp only [Around.deeper, Around.in1]; decide), by (simp only [Around.deeper, Around.in1]; decide)⟩)) (isList_news N9q (by k_memK)) (by with_reducible assumption) ?_; intro _ _ _ k9q; (have F8q := Fr.keepsK F9q k9q); (have N8q := News.keepsK N9q k9q); clear F9q N9q k9q)))) | ((k_dflt ((with_reducible show wpAny _ _ (call (Value.builtin "len") [Value.ref _]) _ _ _); (rename News _ _ _ _ => N9q); (refine len_news N9q (by k_memK) (by with_reducible assumption) (by omega) ?_)))) | ((k_dflt ((with_reducible show wpAny _ _ (call (Value.type _) [Value.ref _]) _ _ _); (refine list_range _ (by rfl) (by assumption) (by assumption) (by assumption) (by exact small_mine (by omega) (by omega) (by omega)) (by assumption) (by omega) ?_; intro _ _ _ _ _ _ l1q _ _; (try k_lt l1q))))) | ((k_dflt ((with_reducible show wpAny _ _ (call (Value.type _) [Value.int _ _, Value.int _ _]) _ _ _); (refine rng2 (by assumption) (by assumption) ?_); intro _ _ _ _ _ _ _ _ _))) | ((k_dflt ((with_reducible show wpAny _ _ (binaryOp _ (Value.int (_ + 1) _) (Value.int 4 _)) _ _ _); (refine div_q2 (by exact fmod4 _) ?_)))) | walk1 | (dsimp only; walk1) | (leave1; try dsimp only))))
    rename Fr _ _ _ _ => F5
    rename News _ _ _ _ => N5
    refine ne_tup2 (News.get N5 (o := tup2 S2 V2 t5 t6) (by k_memK)) (News.get N5 (o := tup2 sa va ts tl) (by k_memK)) c3 c4 ht5 ht6 hts htl (noneBooked_of (Frag.In.keeps (by assumption) (Fr.keep F5))) (by simp only [Around.deeper, Around.in1]; decide) ?_
    (repeat' (first | (k_unfold; (try dsimp only)) | ((with_reducible show wpAny _ _ (PySem.exec (PySem.Stmt.Return (some (PySem.Expr.Constant (PySem.Const.bool false) _ _)) _) _) _ _ _); exfalso; first | assumption | contradiction | omega) | ((fail_if_success (with_reducible show wpAny _ _ (subscriptTail _ _ (Value.ref _) (Value.ref _)) _ _ _)); (fail_if_success (with_reducible show wpAny _ _ (compareOp CmpOp.NotEq (Value.ref _) (Value.ref _)) _ _ _)); first | ((k_dflt ((with_reducible show wpAny _ _ (call (Value.ref 49) _) _ _ _); (rename Fr _ _ _ _ => F9q); (rename News _ _ _ _ => N9q); (refine c_lev (by (exact ⟨Frag.In.keeps (by assumption) (Fr.keep (by assumption)), ⟨_, _, _, _, _, Top.keeps (by assumption) (Fr.keep (by assumption))⟩, rfl, by (simp only [Around.deeper, Around.in1]; decide), by (simp only [Around.deeper, Around.in1]; decide)⟩)) (by with_reducible assumption) (by with_reducible assumption) (by with_reducible assumption) (by with_reducible assumption) ?_; intro _ _ _ k9q; (have F8q := Fr.keepsK F9q k9q); (have N8q := News.keepsK N9q k9q); clear F9q N9q k9q)))) | ((k_dflt ((with_reducible show wpAny _ _ (call (Value.ref 61) _) _ _ _); (rename Fr _ _ _ _ => F9q); (rename News _ _ _ _ => N9q); (refine c_word (by (exact ⟨Frag.In.keeps (by assumption) (Fr.keep (by assumption)), ⟨_, _, _, _, _, Top.keeps (by assumption) (Fr.keep (by assumption))⟩, rfl, by (simp only [Around.deeper, Around.in1]; decide), by (simp only [Around.deeper, Around.in1]; decide)⟩)) (by with_reducible assumption) (by with_reducible assumption) (by with_reducible assumption) (by with_reducible assumption) ?_; intro _ _ _ k9q; (have F8q := Fr.keepsK F9q k9q); (have N8q := News.keepsK N9q k9q); clear F9q N9q k9q)))) | (((with_reducible show wpAny _ _ (eval (Expr.Name _ _) (compEnvC _ _ _ _)) _ _ _); k_dflt (first | (refine blk_C (by assumption) (by rfl) (by k_mem) (by assumption) ?_ (by rfl) (by rfl) (by decide)) | (refine blk_L (by assumption) (by rfl) (by assumption) ?_ (by rfl) (by rfl) (by decide))))) | ((with_reducible show wpAny _ _ (compareOp CmpOp.NotEq (Value.bytes _ _) (Value.bytes _ _)) _ _ _); (k_dflt (refine ne_same ?_))) | ((k_dflt ((with_reducible show wpAny _ _ (call (Value.ref 21) _) _ _ _); (refine c_ap (by (exact ⟨Frag.In.keeps (by assumption) (Fr.keep (by assumption)), ⟨_, _, _, _, _, Top.keeps (by assumption) (Fr.keep (by assumption))⟩, rfl, by (simp only [Around.deeper, Around.in1]; decide), by (simp only [Around.deeper, Around.in1]; decide)⟩)) (by with_reducible assumption) (by with_reducible assumption) (by with_reducible assumption) (by with_reducible assumption) ?_; intro _ _ _ k9q; (rename Fr _ _ _ _ => F9q); (rename News _ _ _ _ => N9q); (have F8q := Fr.keepsK F9q k9q); (have N8q := News.keepsK N9q k9q); clear F9q N9q k9q)))) | ((k_dflt ((with_reducible show wpAny _ _ (call (Value.ref 56) _) _ _ _); (rename Fr _ _ _ _ => F9q); (rename News _ _ _ _ => N9q); (refine c_number (by (exact ⟨Frag.In.keeps (by assumption) (Fr.keep (by assumption)), ⟨_, _, _, _, _, Top.keeps (by assumption) (Fr.keep (by assumption))⟩, rfl, by (simp only [Around.deeper, Around.in1]; decide), by (simp only [Around.deeper, Around.in1]; decide)⟩)) (isList_news N9q (by k_memK)) (by with_reducible assumption) ?_; intro _ _ _ k9q; (have F8q := Fr.keepsK F9q k9q); (have N8q := News.keepsK N9q k9q); clear F9q N9q k9q)))) | ((k_dflt ((with_reducible show wpAny _ _ (call (Value.builtin "len") [Value.ref _]) _ _ _); (rename News _ _ _ _ => N9q); (refine len_news N9q (by k_memK) (by with_reducible assumption) (by omega) ?_)))) | ((k_dflt ((with_reducible show wpAny _ _ (call (Value.type _) [Value.ref _]) _ _ _); (refine list_range _ (by rfl) (by assumption) (by assumption) (by assumption) (by exact small_mine (by omega) (by omega) (by omega)) (by assumption) (by omega) ?_; intro _ _ _ _ _ _ l1q _ _; (try k_lt l1q))))) | ((k_dflt ((with_reducible show wpAny _ _ (call (Value.type _) [Value.int _ _, Value.int _ _]) _ _ _); (refine rng2 (by assumption) (by assumption) ?_); intro _ _ _ _ _ _ _ _ _))) | ((k_dflt ((with_reducible show wpAny _ _ (binaryOp _ (Value.int (_ + 1) _) (Value.int 4 _)) _ _ _); (refine div_q2 (by exact fmod4 _) ?_)))) | walk1 | (dsimp only; walk1) | (leave1; try dsimp only))))
    refine' ExitW.here () ?Fu6 ?Nu6 ?nu6 ?hpu6 trivial
    case Fu6 => assumption
    case Nu6 => assumption
    case hpu6 => ((repeat' (first | exact List.forall_mem_nil _ | (refine List.forall_mem_cons.mpr ⟨by with_unfolding_all rfl, ?_⟩))))
    case nu6 => ((repeat' (first | exact List.forall_mem_nil _ | (refine List.forall_mem_cons.mpr ⟨by k_memK, ?_⟩))))
    --}
  case u6d =>
  clear F4 N4
  rintro - u5 h5 tk5 - F4 N4
  try dsimp only at F4 N4 ⊢
  refine execs_mid (σ := Obj × Row) (L := s1.heap.objs.size) s1.heap (fun c => (s1.heap.objs.size + 1, c.1) :: (D2, tup3 H2 S2 V2 t4 t5 t6) :: (I, io) :: (lt, listOf vt.toArray kt) :: (ls, listOf vs.toArray ks) :: [(c.2.l, listOf c.2.vs.toArray c.2.k)]) (fun c => [(Str.ofString "twice", .ref D2), (Str.ofString "wheel", .int ((7 + 2 * b : Nat) : Int) twh), (Str.ofString "step", .int (b : Int) tst), (Str.ofString "turn", .int (i : Int) ti), (Str.ofString "followed", .int ((ds.getD p0 0 : Nat) : Int) tfo), (Str.ofString "place", .int (p : Int) tp'), (Str.ofString "figures", .int (x : Int) tx), (Str.ofString "steps", .ref lt), (Str.ofString "start", .ref ls), (Str.ofString "share", .float sa ts), (Str.ofString "level", .float va tl), (Str.ofString "number", .int (N : Int) tN)])
    (fun c => c.1.data = .cell (some (.ref c.2.l)) ∧ IntsAre c.2.vs (deckI ds (piAt N (i + 1))) ∧ @Ne Nat c.2.l (s1.heap.objs.size + 1) ∧ @Ne Nat c.2.l I) ?u7 ?u7d
  case u7 =>
    (repeat' (first | (k_unfold; (try dsimp only)) | ((with_reducible show wpAny _ _ (PySem.exec (PySem.Stmt.Return (some (PySem.Expr.Constant (PySem.Const.bool false) _ _)) _) _) _ _ _); exfalso; first | assumption | contradiction | omega) | ((fail_if_success (with_reducible show wpAny _ _ (PySem.binaryOp PySem.Operator.Div (Value.int _ _) (Value.int _ _)) _ _ _)); (fail_if_success (with_reducible show wpAny _ _ (PySem.call (PySem.Value.ref _) _) _ _ _)); first | ((k_dflt ((with_reducible show wpAny _ _ (call (Value.ref 49) _) _ _ _); (rename Fr _ _ _ _ => F9q); (rename News _ _ _ _ => N9q); (refine c_lev (by (exact ⟨Frag.In.keeps (by assumption) (Fr.keep (by assumption)), ⟨_, _, _, _, _, Top.keeps (by assumption) (Fr.keep (by assumption))⟩, rfl, by (simp only [Around.deeper, Around.in1]; decide), by (simp only [Around.deeper, Around.in1]; decide)⟩)) (by with_reducible assumption) (by with_reducible assumption) (by with_reducible assumption) (by with_reducible assumption) ?_; intro _ _ _ k9q; (have F8q := Fr.keepsK F9q k9q); (have N8q := News.keepsK N9q k9q); clear F9q N9q k9q)))) | ((k_dflt ((with_reducible show wpAny _ _ (call (Value.ref 61) _) _ _ _); (rename Fr _ _ _ _ => F9q); (rename News _ _ _ _ => N9q); (refine c_word (by (exact ⟨Frag.In.keeps (by assumption) (Fr.keep (by assumption)), ⟨_, _, _, _, _, Top.keeps (by assumption) (Fr.keep (by assumption))⟩, rfl, by (simp only [Around.deeper, Around.in1]; decide), by (simp only [Around.deeper, Around.in1]; decide)⟩)) (by with_reducible assumption) (by with_reducible assumption) (by with_reducible assumption) (by with_reducible assumption) ?_; intro _ _ _ k9q; (have F8q := Fr.keepsK F9q k9q); (have N8q := News.keepsK N9q k9q); clear F9q N9q k9q)))) | (((with_reducible show wpAny _ _ (eval (Expr.Name _ _) (compEnvC _ _ _ _)) _ _ _); k_dflt (first | (refine blk_C (by assumption) (by rfl) (by k_mem) (by assumption) ?_ (by rfl) (by rfl) (by decide)) | (refine blk_L (by assumption) (by rfl) (by assumption) ?_ (by rfl) (by rfl) (by decide))))) | ((with_reducible show wpAny _ _ (compareOp CmpOp.NotEq (Value.bytes _ _) (Value.bytes _ _)) _ _ _); (k_dflt (refine ne_same ?_))) | ((k_dflt ((with_reducible show wpAny _ _ (call (Value.ref 21) _) _ _ _); (refine c_ap (by (exact ⟨Frag.In.keeps (by assumption) (Fr.keep (by assumption)), ⟨_, _, _, _, _, Top.keeps (by assumption) (Fr.keep (by assumption))⟩, rfl, by (simp only [Around.deeper, Around.in1]; decide), by (simp only [Around.deeper, Around.in1]; decide)⟩)) (by with_reducible assumption) (by with_reducible assumption) (by with_reducible assumption) (by with_reducible assumption) ?_; intro _ _ _ k9q; (rename Fr _ _ _ _ => F9q); (rename News _ _ _ _ => N9q); (have F8q := Fr.keepsK F9q k9q); (have N8q := News.keepsK N9q k9q); clear F9q N9q k9q)))) | ((k_dflt ((with_reducible show wpAny _ _ (call (Value.ref 56) _) _ _ _); (rename Fr _ _ _ _ => F9q); (rename News _ _ _ _ => N9q); (refine c_number (by (exact ⟨Frag.In.keeps (by assumption) (Fr.keep (by assumption)), ⟨_, _, _, _, _, Top.keeps (by assumption) (Fr.keep (by assumption))⟩, rfl, by (simp only [Around.deeper, Around.in1]; decide), by (simp only [Around.deeper, Around.in1]; decide)⟩)) (isList_news N9q (by k_memK)) (by with_reducible assumption) ?_; intro _ _ _ k9q; (have F8q := Fr.keepsK F9q k9q); (have N8q := News.keepsK N9q k9q); clear F9q N9q k9q)))) | ((k_dflt ((with_reducible show wpAny _ _ (call (Value.builtin "len") [Value.ref _]) _ _ _); (rename News _ _ _ _ => N9q); (refine len_news N9q (by k_memK) (by with_reducible assumption) (by omega) ?_)))) | ((k_dflt ((with_reducible show wpAny _ _ (call (Value.type _) [Value.ref _]) _ _ _); (refine list_range _ (by rfl) (by assumption) (by assumption) (by assumption) (by exact small_mine (by omega) (by omega) (by omega)) (by assumption) (by omega) ?_; intro _ _ _ _ _ _ l1q _ _; (try k_lt l1q))))) | ((k_dflt ((with_reducible show wpAny _ _ (call (Value.type _) [Value.int _ _, Value.int _ _]) _ _ _); (refine rng2 (by assumption) (by assumption) ?_); intro _ _ _ _ _ _ _ _ _))) | ((k_dflt ((with_reducible show wpAny _ _ (binaryOp _ (Value.int (_ + 1) _) (Value.int 4 _)) _ _ _); (refine div_q2 (by exact fmod4 _) ?_)))) | walk1 | (dsimp only; walk1) | (leave1; try dsimp only))))
    rename Fr _ _ _ _ => F5
    rename News _ _ _ _ => N5
    refine' c_shuf ?Cu7 (isList_news N5 (k := k) (by k_memK)) hiv (by rw [deckI, List.length_map, piAt_len]) hb ?_
    case Cu7 => (exact ⟨Frag.In.keeps (by assumption) (Fr.keep (by assumption)), ⟨_, _, _, _, _, Top.keeps (by assumption) (Fr.keep (by assumption))⟩, rfl, by (simp only [Around.deeper, Around.in1]; decide), by (simp only [Around.deeper, Around.in1]; decide)⟩)
    intro lo vo ko h6 tk6 kk hio2 hnone hsome
    have hDL : @Ne Nat lo (s1.heap.objs.size + 1) := ne_made N5 (by k_memK) hnone
    have hDI : @Ne Nat lo I := ne_made N5 (o := io) (by k_memK) hnone
    have F6 := Fr.keepsK F5 kk
    have N6 := News.addK F5 N5 kk hnone hsome
    clear F5 N5 kk hnone hsome
    rw [shuf_deck (piAt_len N i), ← hbe, show shufP (sb N i) (piAt N i) = piAt N (i + 1) from rfl] at hio2
    (repeat' (first | (k_unfold; (try dsimp only)) | ((with_reducible show wpAny _ _ (PySem.exec (PySem.Stmt.Return (some (PySem.Expr.Constant (PySem.Const.bool false) _ _)) _) _) _ _ _); exfalso; first | assumption | contradiction | omega) | ((fail_if_success (with_reducible show wpAny _ _ (PySem.binaryOp PySem.Operator.Div (Value.int _ _) (Value.int _ _)) _ _ _)); (fail_if_success (with_reducible show wpAny _ _ (PySem.call (PySem.Value.ref _) _) _ _ _)); first | ((k_dflt ((with_reducible show wpAny _ _ (call (Value.ref 49) _) _ _ _); (rename Fr _ _ _ _ => F9q); (rename News _ _ _ _ => N9q); (refine c_lev (by (exact ⟨Frag.In.keeps (by assumption) (Fr.keep (by assumption)), ⟨_, _, _, _, _, Top.keeps (by assumption) (Fr.keep (by assumption))⟩, rfl, by (simp only [Around.deeper, Around.in1]; decide), by (simp only [Around.deeper, Around.in1]; decide)⟩)) (by with_reducible assumption) (by with_reducible assumption) (by with_reducible assumption) (by with_reducible assumption) ?_; intro _ _ _ k9q; (have F8q := Fr.keepsK F9q k9q); (have N8q := News.keepsK N9q k9q); clear F9q N9q k9q)))) | ((k_dflt ((with_reducible show wpAny _ _ (call (Value.ref 61) _) _ _ _); (rename Fr _ _ _ _ => F9q); (rename News _ _ _ _ => N9q); (refine c_word (by (exact ⟨Frag.In.keeps (by assumption) (Fr.keep (by assumption)), ⟨_, _, _, _, _, Top.keeps (by assumption) (Fr.keep (by assumption))⟩, rfl, by (simp only [Around.deeper, Around.in1]; decide), by (simp only [Around.deeper, Around.in1]; decide)⟩)) (by with_reducible assumption) (by with_reducible assumption) (by with_reducible assumption) (by with_reducible assumption) ?_; intro _ _ _ k9q; (have F8q := Fr.keepsK F9q k9q); (have N8q := News.keepsK N9q k9q); clear F9q N9q k9q)))) | (((with_reducible show wpAny _ _ (eval (Expr.Name _ _) (compEnvC _ _ _ _)) _ _ _); k_dflt (first | (refine blk_C (by assumption) (by rfl) (by k_mem) (by assumption) ?_ (by rfl) (by rfl) (by decide)) | (refine blk_L (by assumption) (by rfl) (by assumption) ?_ (by rfl) (by rfl) (by decide))))) | ((with_reducible show wpAny _ _ (compareOp CmpOp.NotEq (Value.bytes _ _) (Value.bytes _ _)) _ _ _); (k_dflt (refine ne_same ?_))) | ((k_dflt ((with_reducible show wpAny _ _ (call (Value.ref 21) _) _ _ _); (refine c_ap (by (exact ⟨Frag.In.keeps (by assumption) (Fr.keep (by assumption)), ⟨_, _, _, _, _, Top.keeps (by assumption) (Fr.keep (by assumption))⟩, rfl, by (simp only [Around.deeper, Around.in1]; decide), by (simp only [Around.deeper, Around.in1]; decide)⟩)) (by with_reducible assumption) (by with_reducible assumption) (by with_reducible assumption) (by with_reducible assumption) ?_; intro _ _ _ k9q; (rename Fr _ _ _ _ => F9q); (rename News _ _ _ _ => N9q); (have F8q := Fr.keepsK F9q k9q); (have N8q := News.keepsK N9q k9q); clear F9q N9q k9q)))) | ((k_dflt ((with_reducible show wpAny _ _ (call (Value.ref 56) _) _ _ _); (rename Fr _ _ _ _ => F9q); (rename News _ _ _ _ => N9q); (refine c_number (by (exact ⟨Frag.In.keeps (by assumption) (Fr.keep (by assumption)), ⟨_, _, _, _, _, Top.keeps (by assumption) (Fr.keep (by assumption))⟩, rfl, by (simp only [Around.deeper, Around.in1]; decide), by (simp only [Around.deeper, Around.in1]; decide)⟩)) (isList_news N9q (by k_memK)) (by with_reducible assumption) ?_; intro _ _ _ k9q; (have F8q := Fr.keepsK F9q k9q); (have N8q := News.keepsK N9q k9q); clear F9q N9q k9q)))) | ((k_dflt ((with_reducible show wpAny _ _ (call (Value.builtin "len") [Value.ref _]) _ _ _); (rename News _ _ _ _ => N9q); (refine len_news N9q (by k_memK) (by with_reducible assumption) (by omega) ?_)))) | ((k_dflt ((with_reducible show wpAny _ _ (call (Value.type _) [Value.ref _]) _ _ _); (refine list_range _ (by rfl) (by assumption) (by assumption) (by assumption) (by exact small_mine (by omega) (by omega) (by omega)) (by assumption) (by omega) ?_; intro _ _ _ _ _ _ l1q _ _; (try k_lt l1q))))) | ((k_dflt ((with_reducible show wpAny _ _ (call (Value.type _) [Value.int _ _, Value.int _ _]) _ _ _); (refine rng2 (by assumption) (by assumption) ?_); intro _ _ _ _ _ _ _ _ _))) | ((k_dflt ((with_reducible show wpAny _ _ (binaryOp _ (Value.int (_ + 1) _) (Value.int 4 _)) _ _ _); (refine div_q2 (by exact fmod4 _) ?_)))) | walk1 | (dsimp only; walk1) | (leave1; try dsimp only))))
    refine' ExitW.here (_, ⟨lo, vo, ko⟩) ?Fu7 ?Nu7 ?nu7 ?hpu7 ⟨?Pu7, hio2, hDL, hDI⟩
    case Fu7 => assumption
    case Nu7 => assumption
    case hpu7 => ((repeat' (first | exact List.forall_mem_nil _ | (refine List.forall_mem_cons.mpr ⟨by with_unfolding_all rfl, ?_⟩))))
    case nu7 => ((repeat' (first | exact List.forall_mem_nil _ | (refine List.forall_mem_cons.mpr ⟨by k_memK, ?_⟩))))
    case Pu7 => assumption
  case u7d =>
  clear F4 N4
  rintro ⟨o7, lo, vo, ko⟩ u5 h5 tk5 ⟨hd7, hio2, hlo, hloI⟩ F4 N4
  dsimp only at hd7 hio2 hlo hloI F4 N4 ⊢
  obtain ⟨p2, hp2⟩ : ∃ p2, pAt N p0 (i + 1) = p2 := ⟨_, rfl⟩
  obtain ⟨hp28, hp2at⟩ := pAt_at N hp0 (i + 1)
  rw [hp2] at hp28 hp2at
  have hp2e : shP b p = p2 := by rw [← hp2, hpe, ← hbe]; rfl
  rw [hp2e, Int.natCast_add] at hm2
  have hperm := piAt_perm N (i + 1)
  have hlen2 := piAt_len N (i + 1)
  have hdl2 : (deckI ds (piAt N (i + 1))).length = 8 := by rw [deckI, List.length_map, hlen2]
  have hnd2 := deck_nodup hnod hlen hperm
  refine execs_mid (σ := Tok) (L := s1.heap.objs.size) s1.heap (fun _ => (s1.heap.objs.size + 1, o7) :: (D2, tup3 H2 S2 V2 t4 t5 t6) :: (I, io) :: (lt, listOf vt.toArray kt) :: (ls, listOf vs.toArray ks) :: [(lo, listOf vo.toArray ko)]) (fun c => [(Str.ofString "place", .int (p2 : Int) c), (Str.ofString "twice", .ref D2), (Str.ofString "wheel", .int ((7 + 2 * b : Nat) : Int) twh), (Str.ofString "step", .int (b : Int) tst), (Str.ofString "turn", .int (i : Int) ti), (Str.ofString "followed", .int ((ds.getD p0 0 : Nat) : Int) tfo), (Str.ofString "figures", .int (x : Int) tx), (Str.ofString "steps", .ref lt), (Str.ofString "start", .ref ls), (Str.ofString "share", .float sa ts), (Str.ofString "level", .float va tl), (Str.ofString "number", .int (N : Int) tN)])
    (fun _ => True) ?u8 ?u8d
  case u8 =>
    --{
    (repeat' (first | (k_unfold; (try dsimp only)) | ((with_reducible show wpAny _ _ (PySem.exec (PySem.Stmt.Return (some (PySem.Expr.Constant (PySem.Const.bool false) _ _)) _) _) _ _ _); exfalso; first | assumption | contradiction | omega) | ((fail_if_success (with_reducible show wpAny _ _ (PySem.binaryOp PySem.Operator.BitXor _ _) _ _ _)); (fail_if_success (with_reducible show wpAny _ _ (PySem.call (PySem.Value.builtin "list.index") _) _ _ _)); (fail_if_success (with_reducible show wpAny _ _ (PySem.call (PySem.Value.type "bytes") _) _ _ _)); (fail_if_success (with_reducible show wpAny _ _ (PySem.binaryOp PySem.Operator.Pow _ _) _ _ _)); (fail_if_success (with_reducible show wpAny _ _ (PySem.eval (PySem.Expr.ListComp _ _ _ _) _) _ _ _)); first | ((k_dflt ((with_reducible show wpAny _ _ (call (Value.ref 49) _) _ _ _); (rename Fr _ _ _ _ => F9q); (rename News _ _ _ _ => N9q); (refine c_lev (by (exact ⟨Frag.In.keeps (by assumption) (Fr.keep (by assumption)), ⟨_, _, _, _, _, Top.keeps (by assumption) (Fr.keep (by assumption))⟩, rfl, by (simp only [Around.deeper, Around.in1]; decide), by (simp only [Around.deeper, Around.in1]; decide)⟩)) (by with_reducible assumption) (by with_reducible assumption) (by with_reducible assumption) (by with_reducible assumption) ?_; intro _ _ _ k9q; (have F8q := Fr.keepsK F9q k9q); (have N8q := News.keepsK N9q k9q); clear F9q N9q k9q)))) | ((k_dflt ((with_reducible show wpAny _ _ (call (Value.ref 61) _) _ _ _); (rename Fr _ _ _ _ => F9q); (rename News _ _ _ _ => N9q); (refine c_word (by (exact ⟨Frag.In.keeps (by assumption) (Fr.keep (by assumption)), ⟨_, _, _, _, _, Top.keeps (by assumption) (Fr.keep (by assumption))⟩, rfl, by (simp only [Around.deeper, Around.in1]; decide), by (simp only [Around.deeper, Around.in1]; decide)⟩)) (by with_reducible assumption) (by with_reducible assumption) (by with_reducible assumption) (by with_reducible assumption) ?_; intro _ _ _ k9q; (have F8q := Fr.keepsK F9q k9q); (have N8q := News.keepsK N9q k9q); clear F9q N9q k9q)))) | (((with_reducible show wpAny _ _ (eval (Expr.Name _ _) (compEnvC _ _ _ _)) _ _ _); k_dflt (first | (refine blk_C (by assumption) (by rfl) (by k_mem) (by assumption) ?_ (by rfl) (by rfl) (by decide)) | (refine blk_L (by assumption) (by rfl) (by assumption) ?_ (by rfl) (by rfl) (by decide))))) | ((with_reducible show wpAny _ _ (compareOp CmpOp.NotEq (Value.bytes _ _) (Value.bytes _ _)) _ _ _); (k_dflt (refine ne_same ?_))) | ((k_dflt ((with_reducible show wpAny _ _ (call (Value.ref 21) _) _ _ _); (refine c_ap (by (exact ⟨Frag.In.keeps (by assumption) (Fr.keep (by assumption)), ⟨_, _, _, _, _, Top.keeps (by assumption) (Fr.keep (by assumption))⟩, rfl, by (simp only [Around.deeper, Around.in1]; decide), by (simp only [Around.deeper, Around.in1]; decide)⟩)) (by with_reducible assumption) (by with_reducible assumption) (by with_reducible assumption) (by with_reducible assumption) ?_; intro _ _ _ k9q; (rename Fr _ _ _ _ => F9q); (rename News _ _ _ _ => N9q); (have F8q := Fr.keepsK F9q k9q); (have N8q := News.keepsK N9q k9q); clear F9q N9q k9q)))) | ((k_dflt ((with_reducible show wpAny _ _ (call (Value.ref 56) _) _ _ _); (rename Fr _ _ _ _ => F9q); (rename News _ _ _ _ => N9q); (refine c_number (by (exact ⟨Frag.In.keeps (by assumption) (Fr.keep (by assumption)), ⟨_, _, _, _, _, Top.keeps (by assumption) (Fr.keep (by assumption))⟩, rfl, by (simp only [Around.deeper, Around.in1]; decide), by (simp only [Around.deeper, Around.in1]; decide)⟩)) (isList_news N9q (by k_memK)) (by with_reducible assumption) ?_; intro _ _ _ k9q; (have F8q := Fr.keepsK F9q k9q); (have N8q := News.keepsK N9q k9q); clear F9q N9q k9q)))) | ((k_dflt ((with_reducible show wpAny _ _ (call (Value.builtin "len") [Value.ref _]) _ _ _); (rename News _ _ _ _ => N9q); (refine len_news N9q (by k_memK) (by with_reducible assumption) (by omega) ?_)))) | ((k_dflt ((with_reducible show wpAny _ _ (call (Value.type _) [Value.ref _]) _ _ _); (refine list_range _ (by rfl) (by assumption) (by assumption) (by assumption) (by exact small_mine (by omega) (by omega) (by omega)) (by assumption) (by omega) ?_; intro _ _ _ _ _ _ l1q _ _; (try k_lt l1q))))) | ((k_dflt ((with_reducible show wpAny _ _ (call (Value.type _) [Value.int _ _, Value.int _ _]) _ _ _); (refine rng2 (by assumption) (by assumption) ?_); intro _ _ _ _ _ _ _ _ _))) | ((k_dflt ((with_reducible show wpAny _ _ (binaryOp _ (Value.int (_ + 1) _) (Value.int 4 _)) _ _ _); (refine div_q2 (by exact fmod4 _) ?_)))) | walk1 | (dsimp only; walk1) | (leave1; try dsimp only))))
    rename News _ _ _ _ => N5
    refine index_deck (j := p2) N5 (D := lo) (n := ko) (by k_memK) hio2 hnd2 (by omega) (by rw [deckI_getD (by omega), hp2at]) (by omega) ?_
    (repeat' (first | (k_unfold; (try dsimp only)) | ((with_reducible show wpAny _ _ (PySem.exec (PySem.Stmt.Return (some (PySem.Expr.Constant (PySem.Const.bool false) _ _)) _) _) _ _ _); exfalso; first | assumption | contradiction | omega) | ((fail_if_success (with_reducible show wpAny _ _ (PySem.binaryOp PySem.Operator.BitXor _ _) _ _ _)); (fail_if_success (with_reducible show wpAny _ _ (PySem.call (PySem.Value.builtin "list.index") _) _ _ _)); (fail_if_success (with_reducible show wpAny _ _ (PySem.call (PySem.Value.type "bytes") _) _ _ _)); (fail_if_success (with_reducible show wpAny _ _ (PySem.binaryOp PySem.Operator.Pow _ _) _ _ _)); (fail_if_success (with_reducible show wpAny _ _ (PySem.eval (PySem.Expr.ListComp _ _ _ _) _) _ _ _)); first | ((k_dflt ((with_reducible show wpAny _ _ (call (Value.ref 49) _) _ _ _); (rename Fr _ _ _ _ => F9q); (rename News _ _ _ _ => N9q); (refine c_lev (by (exact ⟨Frag.In.keeps (by assumption) (Fr.keep (by assumption)), ⟨_, _, _, _, _, Top.keeps (by assumption) (Fr.keep (by assumption))⟩, rfl, by (simp only [Around.deeper, Around.in1]; decide), by (simp only [Around.deeper, Around.in1]; decide)⟩)) (by with_reducible assumption) (by with_reducible assumption) (by with_reducible assumption) (by with_reducible assumption) ?_; intro _ _ _ k9q; (have F8q := Fr.keepsK F9q k9q); (have N8q := News.keepsK N9q k9q); clear F9q N9q k9q)))) | ((k_dflt ((with_reducible show wpAny _ _ (call (Value.ref 61) _) _ _ _); (rename Fr _ _ _ _ => F9q); (rename News _ _ _ _ => N9q); (refine c_word (by (exact ⟨Frag.In.keeps (by assumption) (Fr.keep (by assumption)), ⟨_, _, _, _, _, Top.keeps (by assumption) (Fr.keep (by assumption))⟩, rfl, by (simp only [Around.deeper, Around.in1]; decide), by (simp only [Around.deeper, Around.in1]; decide)⟩)) (by with_reducible assumption) (by with_reducible assumption) (by with_reducible assumption) (by with_reducible assumption) ?_; intro _ _ _ k9q; (have F8q := Fr.keepsK F9q k9q); (have N8q := News.keepsK N9q k9q); clear F9q N9q k9q)))) | (((with_reducible show wpAny _ _ (eval (Expr.Name _ _) (compEnvC _ _ _ _)) _ _ _); k_dflt (first | (refine blk_C (by assumption) (by rfl) (by k_mem) (by assumption) ?_ (by rfl) (by rfl) (by decide)) | (refine blk_L (by assumption) (by rfl) (by assumption) ?_ (by rfl) (by rfl) (by decide))))) | ((with_reducible show wpAny _ _ (compareOp CmpOp.NotEq (Value.bytes _ _) (Value.bytes _ _)) _ _ _); (k_dflt (refine ne_same ?_))) | ((k_dflt ((with_reducible show wpAny _ _ (call (Value.ref 21) _) _ _ _); (refine c_ap (by (exact ⟨Frag.In.keeps (by assumption) (Fr.keep (by assumption)), ⟨_, _, _, _, _, Top.keeps (by assumption) (Fr.keep (by assumption))⟩, rfl, by (simp only [Around.deeper, Around.in1]; decide), by (simp only [Around.deeper, Around.in1]; decide)⟩)) (by with_reducible assumption) (by with_reducible assumption) (by with_reducible assumption) (by with_reducible assumption) ?_; intro _ _ _ k9q; (rename Fr _ _ _ _ => F9q); (rename News _ _ _ _ => N9q); (have F8q := Fr.keepsK F9q k9q); (have N8q := News.keepsK N9q k9q); clear F9q N9q k9q)))) | ((k_dflt ((with_reducible show wpAny _ _ (call (Value.ref 56) _) _ _ _); (rename Fr _ _ _ _ => F9q); (rename News _ _ _ _ => N9q); (refine c_number (by (exact ⟨Frag.In.keeps (by assumption) (Fr.keep (by assumption)), ⟨_, _, _, _, _, Top.keeps (by assumption) (Fr.keep (by assumption))⟩, rfl, by (simp only [Around.deeper, Around.in1]; decide), by (simp only [Around.deeper, Around.in1]; decide)⟩)) (isList_news N9q (by k_memK)) (by with_reducible assumption) ?_; intro _ _ _ k9q; (have F8q := Fr.keepsK F9q k9q); (have N8q := News.keepsK N9q k9q); clear F9q N9q k9q)))) | ((k_dflt ((with_reducible show wpAny _ _ (call (Value.builtin "len") [Value.ref _]) _ _ _); (rename News _ _ _ _ => N9q); (refine len_news N9q (by k_memK) (by with_reducible assumption) (by omega) ?_)))) | ((k_dflt ((with_reducible show wpAny _ _ (call (Value.type _) [Value.ref _]) _ _ _); (refine list_range _ (by rfl) (by assumption) (by assumption) (by assumption) (by exact small_mine (by omega) (by omega) (by omega)) (by assumption) (by omega) ?_; intro _ _ _ _ _ _ l1q _ _; (try k_lt l1q))))) | ((k_dflt ((with_reducible show wpAny _ _ (call (Value.type _) [Value.int _ _, Value.int _ _]) _ _ _); (refine rng2 (by assumption) (by assumption) ?_); intro _ _ _ _ _ _ _ _ _))) | ((k_dflt ((with_reducible show wpAny _ _ (binaryOp _ (Value.int (_ + 1) _) (Value.int 4 _)) _ _ _); (refine div_q2 (by exact fmod4 _) ?_)))) | walk1 | (dsimp only; walk1) | (leave1; try dsimp only))))
    refine' ExitW.here _ ?Fu8 ?Nu8 ?nu8 ?hpu8 trivial
    case Fu8 => assumption
    case Nu8 => assumption
    case hpu8 => ((repeat' (first | exact List.forall_mem_nil _ | (refine List.forall_mem_cons.mpr ⟨by with_unfolding_all rfl, ?_⟩))))
    case nu8 => ((repeat' (first | exact List.forall_mem_nil _ | (refine List.forall_mem_cons.mpr ⟨by k_memK, ?_⟩))))
    --}
  case u8d =>
  clear F4 N4
  rintro tp2 u5 h5 tk5 - F4 N4
  try dsimp only at F4 N4 ⊢
  refine execs_mid (σ := Unit) (L := s1.heap.objs.size) s1.heap (fun _ => (s1.heap.objs.size + 1, o7) :: (I, io) :: (lt, listOf vt.toArray kt) :: (ls, listOf vs.toArray ks) :: [(lo, listOf vo.toArray ko)]) (fun c => [(Str.ofString "figures", .int (x : Int) tx), (Str.ofString "place", .int (p2 : Int) tp2), (Str.ofString "turn", .int (i : Int) ti), (Str.ofString "followed", .int ((ds.getD p0 0 : Nat) : Int) tfo), (Str.ofString "steps", .ref lt), (Str.ofString "start", .ref ls), (Str.ofString "share", .float sa ts), (Str.ofString "level", .float va tl), (Str.ofString "number", .int (N : Int) tN)]) (fun _ => True) ?u9 ?u9d
  case u9 =>
    --{
    (repeat' (first | (k_unfold; (try dsimp only)) | ((with_reducible show wpAny _ _ (PySem.exec (PySem.Stmt.Return (some (PySem.Expr.Constant (PySem.Const.bool false) _ _)) _) _) _ _ _); exfalso; first | assumption | contradiction | omega) | ((fail_if_success (with_reducible show wpAny _ _ (PySem.binaryOp PySem.Operator.Div (Value.int _ _) (Value.int _ _)) _ _ _)); (fail_if_success (with_reducible show wpAny _ _ (PySem.call (PySem.Value.ref _) _) _ _ _)); first | ((k_dflt ((with_reducible show wpAny _ _ (call (Value.ref 49) _) _ _ _); (rename Fr _ _ _ _ => F9q); (rename News _ _ _ _ => N9q); (refine c_lev (by (exact ⟨Frag.In.keeps (by assumption) (Fr.keep (by assumption)), ⟨_, _, _, _, _, Top.keeps (by assumption) (Fr.keep (by assumption))⟩, rfl, by (simp only [Around.deeper, Around.in1]; decide), by (simp only [Around.deeper, Around.in1]; decide)⟩)) (by with_reducible assumption) (by with_reducible assumption) (by with_reducible assumption) (by with_reducible assumption) ?_; intro _ _ _ k9q; (have F8q := Fr.keepsK F9q k9q); (have N8q := News.keepsK N9q k9q); clear F9q N9q k9q)))) | ((k_dflt ((with_reducible show wpAny _ _ (call (Value.ref 61) _) _ _ _); (rename Fr _ _ _ _ => F9q); (rename News _ _ _ _ => N9q); (refine c_word (by (exact ⟨Frag.In.keeps (by assumption) (Fr.keep (by assumption)), ⟨_, _, _, _, _, Top.keeps (by assumption) (Fr.keep (by assumption))⟩, rfl, by (simp only [Around.deeper, Around.in1]; decide), by (simp only [Around.deeper, Around.in1]; decide)⟩)) (by with_reducible assumption) (by with_reducible assumption) (by with_reducible assumption) (by with_reducible assumption) ?_; intro _ _ _ k9q; (have F8q := Fr.keepsK F9q k9q); (have N8q := News.keepsK N9q k9q); clear F9q N9q k9q)))) | (((with_reducible show wpAny _ _ (eval (Expr.Name _ _) (compEnvC _ _ _ _)) _ _ _); k_dflt (first | (refine blk_C (by assumption) (by rfl) (by k_mem) (by assumption) ?_ (by rfl) (by rfl) (by decide)) | (refine blk_L (by assumption) (by rfl) (by assumption) ?_ (by rfl) (by rfl) (by decide))))) | ((with_reducible show wpAny _ _ (compareOp CmpOp.NotEq (Value.bytes _ _) (Value.bytes _ _)) _ _ _); (k_dflt (refine ne_same ?_))) | ((k_dflt ((with_reducible show wpAny _ _ (call (Value.ref 21) _) _ _ _); (refine c_ap (by (exact ⟨Frag.In.keeps (by assumption) (Fr.keep (by assumption)), ⟨_, _, _, _, _, Top.keeps (by assumption) (Fr.keep (by assumption))⟩, rfl, by (simp only [Around.deeper, Around.in1]; decide), by (simp only [Around.deeper, Around.in1]; decide)⟩)) (by with_reducible assumption) (by with_reducible assumption) (by with_reducible assumption) (by with_reducible assumption) ?_; intro _ _ _ k9q; (rename Fr _ _ _ _ => F9q); (rename News _ _ _ _ => N9q); (have F8q := Fr.keepsK F9q k9q); (have N8q := News.keepsK N9q k9q); clear F9q N9q k9q)))) | ((k_dflt ((with_reducible show wpAny _ _ (call (Value.ref 56) _) _ _ _); (rename Fr _ _ _ _ => F9q); (rename News _ _ _ _ => N9q); (refine c_number (by (exact ⟨Frag.In.keeps (by assumption) (Fr.keep (by assumption)), ⟨_, _, _, _, _, Top.keeps (by assumption) (Fr.keep (by assumption))⟩, rfl, by (simp only [Around.deeper, Around.in1]; decide), by (simp only [Around.deeper, Around.in1]; decide)⟩)) (isList_news N9q (by k_memK)) (by with_reducible assumption) ?_; intro _ _ _ k9q; (have F8q := Fr.keepsK F9q k9q); (have N8q := News.keepsK N9q k9q); clear F9q N9q k9q)))) | ((k_dflt ((with_reducible show wpAny _ _ (call (Value.builtin "len") [Value.ref _]) _ _ _); (rename News _ _ _ _ => N9q); (refine len_news N9q (by k_memK) (by with_reducible assumption) (by omega) ?_)))) | ((k_dflt ((with_reducible show wpAny _ _ (call (Value.type _) [Value.ref _]) _ _ _); (refine list_range _ (by rfl) (by assumption) (by assumption) (by assumption) (by exact small_mine (by omega) (by omega) (by omega)) (by assumption) (by omega) ?_; intro _ _ _ _ _ _ l1q _ _; (try k_lt l1q))))) | ((k_dflt ((with_reducible show wpAny _ _ (call (Value.type _) [Value.int _ _, Value.int _ _]) _ _ _); (refine rng2 (by assumption) (by assumption) ?_); intro _ _ _ _ _ _ _ _ _))) | ((k_dflt ((with_reducible show wpAny _ _ (binaryOp _ (Value.int (_ + 1) _) (Value.int 4 _)) _ _ _); (refine div_q2 (by exact fmod4 _) ?_)))) | walk1 | (dsimp only; walk1) | (leave1; try dsimp only))))
    refine' ExitW.here () ?Fu9 ?Nu9 ?nu9 ?hpu9 trivial
    case Fu9 => assumption
    case Nu9 => assumption
    case hpu9 => ((repeat' (first | exact List.forall_mem_nil _ | (refine List.forall_mem_cons.mpr ⟨by with_unfolding_all rfl, ?_⟩))))
    case nu9 => ((repeat' (first | exact List.forall_mem_nil _ | (refine List.forall_mem_cons.mpr ⟨by k_memK, ?_⟩))))
    --}
  case u9d =>
  clear F4 N4
  rintro - u5 h5 tk5 - F4 N4
  try dsimp only at F4 N4 ⊢
  obtain ⟨P, hP, eP, eF⟩ := fig_at (N := N) hi
  obtain ⟨x2, hx2⟩ : ∃ x2, xAt N (i + 1) = x2 := ⟨_, rfl⟩
  have hx28 : x2 < 8 := hx2 ▸ xAt_lt N (i + 1)
  refine execs_mid (σ := Tok) (L := s1.heap.objs.size) s1.heap (fun _ => (s1.heap.objs.size + 1, o7) :: (I, io) :: (lt, listOf vt.toArray kt) :: (ls, listOf vs.toArray ks) :: [(lo, listOf vo.toArray ko)]) (fun c => [(Str.ofString "figures", .int (x2 : Int) c), (Str.ofString "place", .int (p2 : Int) tp2), (Str.ofString "turn", .int (i : Int) ti), (Str.ofString "followed", .int ((ds.getD p0 0 : Nat) : Int) tfo), (Str.ofString "steps", .ref lt), (Str.ofString "start", .ref ls), (Str.ofString "share", .float sa ts), (Str.ofString "level", .float va tl), (Str.ofString "number", .int (N : Int) tN)]) (fun _ => True) ?u10 ?u10d
  case u10 =>
    --{
    (repeat' (first | (k_unfold; (try dsimp only)) | ((with_reducible show wpAny _ _ (PySem.exec (PySem.Stmt.Return (some (PySem.Expr.Constant (PySem.Const.bool false) _ _)) _) _) _ _ _); exfalso; first | assumption | contradiction | omega) | ((fail_if_success (with_reducible show wpAny _ _ (PySem.binaryOp PySem.Operator.BitXor _ _) _ _ _)); (fail_if_success (with_reducible show wpAny _ _ (PySem.call (PySem.Value.builtin "list.index") _) _ _ _)); (fail_if_success (with_reducible show wpAny _ _ (PySem.call (PySem.Value.type "bytes") _) _ _ _)); (fail_if_success (with_reducible show wpAny _ _ (PySem.binaryOp PySem.Operator.Pow _ _) _ _ _)); (fail_if_success (with_reducible show wpAny _ _ (PySem.eval (PySem.Expr.ListComp _ _ _ _) _) _ _ _)); first | ((k_dflt ((with_reducible show wpAny _ _ (call (Value.ref 49) _) _ _ _); (rename Fr _ _ _ _ => F9q); (rename News _ _ _ _ => N9q); (refine c_lev (by (exact ⟨Frag.In.keeps (by assumption) (Fr.keep (by assumption)), ⟨_, _, _, _, _, Top.keeps (by assumption) (Fr.keep (by assumption))⟩, rfl, by (simp only [Around.deeper, Around.in1]; decide), by (simp only [Around.deeper, Around.in1]; decide)⟩)) (by with_reducible assumption) (by with_reducible assumption) (by with_reducible assumption) (by with_reducible assumption) ?_; intro _ _ _ k9q; (have F8q := Fr.keepsK F9q k9q); (have N8q := News.keepsK N9q k9q); clear F9q N9q k9q)))) | ((k_dflt ((with_reducible show wpAny _ _ (call (Value.ref 61) _) _ _ _); (rename Fr _ _ _ _ => F9q); (rename News _ _ _ _ => N9q); (refine c_word (by (exact ⟨Frag.In.keeps (by assumption) (Fr.keep (by assumption)), ⟨_, _, _, _, _, Top.keeps (by assumption) (Fr.keep (by assumption))⟩, rfl, by (simp only [Around.deeper, Around.in1]; decide), by (simp only [Around.deeper, Around.in1]; decide)⟩)) (by with_reducible assumption) (by with_reducible assumption) (by with_reducible assumption) (by with_reducible assumption) ?_; intro _ _ _ k9q; (have F8q := Fr.keepsK F9q k9q); (have N8q := News.keepsK N9q k9q); clear F9q N9q k9q)))) | (((with_reducible show wpAny _ _ (eval (Expr.Name _ _) (compEnvC _ _ _ _)) _ _ _); k_dflt (first | (refine blk_C (by assumption) (by rfl) (by k_mem) (by assumption) ?_ (by rfl) (by rfl) (by decide)) | (refine blk_L (by assumption) (by rfl) (by assumption) ?_ (by rfl) (by rfl) (by decide))))) | ((with_reducible show wpAny _ _ (compareOp CmpOp.NotEq (Value.bytes _ _) (Value.bytes _ _)) _ _ _); (k_dflt (refine ne_same ?_))) | ((k_dflt ((with_reducible show wpAny _ _ (call (Value.ref 21) _) _ _ _); (refine c_ap (by (exact ⟨Frag.In.keeps (by assumption) (Fr.keep (by assumption)), ⟨_, _, _, _, _, Top.keeps (by assumption) (Fr.keep (by assumption))⟩, rfl, by (simp only [Around.deeper, Around.in1]; decide), by (simp only [Around.deeper, Around.in1]; decide)⟩)) (by with_reducible assumption) (by with_reducible assumption) (by with_reducible assumption) (by with_reducible assumption) ?_; intro _ _ _ k9q; (rename Fr _ _ _ _ => F9q); (rename News _ _ _ _ => N9q); (have F8q := Fr.keepsK F9q k9q); (have N8q := News.keepsK N9q k9q); clear F9q N9q k9q)))) | ((k_dflt ((with_reducible show wpAny _ _ (call (Value.ref 56) _) _ _ _); (rename Fr _ _ _ _ => F9q); (rename News _ _ _ _ => N9q); (refine c_number (by (exact ⟨Frag.In.keeps (by assumption) (Fr.keep (by assumption)), ⟨_, _, _, _, _, Top.keeps (by assumption) (Fr.keep (by assumption))⟩, rfl, by (simp only [Around.deeper, Around.in1]; decide), by (simp only [Around.deeper, Around.in1]; decide)⟩)) (isList_news N9q (by k_memK)) (by with_reducible assumption) ?_; intro _ _ _ k9q; (have F8q := Fr.keepsK F9q k9q); (have N8q := News.keepsK N9q k9q); clear F9q N9q k9q)))) | ((k_dflt ((with_reducible show wpAny _ _ (call (Value.builtin "len") [Value.ref _]) _ _ _); (rename News _ _ _ _ => N9q); (refine len_news N9q (by k_memK) (by with_reducible assumption) (by omega) ?_)))) | ((k_dflt ((with_reducible show wpAny _ _ (call (Value.type _) [Value.ref _]) _ _ _); (refine list_range _ (by rfl) (by assumption) (by assumption) (by assumption) (by exact small_mine (by omega) (by omega) (by omega)) (by assumption) (by omega) ?_; intro _ _ _ _ _ _ l1q _ _; (try k_lt l1q))))) | ((k_dflt ((with_reducible show wpAny _ _ (call (Value.type _) [Value.int _ _, Value.int _ _]) _ _ _); (refine rng2 (by assumption) (by assumption) ?_); intro _ _ _ _ _ _ _ _ _))) | ((k_dflt ((with_reducible show wpAny _ _ (binaryOp _ (Value.int (_ + 1) _) (Value.int 4 _)) _ _ _); (refine div_q2 (by exact fmod4 _) ?_)))) | walk1 | (dsimp only; walk1) | (leave1; try dsimp only))))
    · have h3 : i % 3 = 2 := fmod3 (by assumption)
      have eX : Builtin.bitXor (x : Int) ((fig N (i / 3) : Nat) : Int) = (x2 : Int) := by rw [hxe, xAt_step h3, hx2]
      have hpi : piAt N (i + 1) = xorL x2 := hx2 ▸ (at_third N hi h3).1
      obtain ⟨hL1, hL2, hL3⟩ := lieD_lt x2 hx28
      have hlie := lie_num hx28
      rw [hpi] at hio2 hperm
      refine pow_int_small (pow3 hi) (pow3b hi) (by decide) ?_
      rw [eP]
      dsimp only
      (repeat' (first | (k_unfold; (try dsimp only)) | ((with_reducible show wpAny _ _ (PySem.exec (PySem.Stmt.Return (some (PySem.Expr.Constant (PySem.Const.bool false) _ _)) _) _) _ _ _); exfalso; first | assumption | contradiction | omega) | ((fail_if_success (with_reducible show wpAny _ _ (PySem.binaryOp PySem.Operator.BitXor _ _) _ _ _)); (fail_if_success (with_reducible show wpAny _ _ (PySem.call (PySem.Value.builtin "list.index") _) _ _ _)); (fail_if_success (with_reducible show wpAny _ _ (PySem.call (PySem.Value.type "bytes") _) _ _ _)); (fail_if_success (with_reducible show wpAny _ _ (PySem.binaryOp PySem.Operator.Pow _ _) _ _ _)); (fail_if_success (with_reducible show wpAny _ _ (PySem.eval (PySem.Expr.ListComp _ _ _ _) _) _ _ _)); first | ((k_dflt ((with_reducible show wpAny _ _ (call (Value.ref 49) _) _ _ _); (rename Fr _ _ _ _ => F9q); (rename News _ _ _ _ => N9q); (refine c_lev (by (exact ⟨Frag.In.keeps (by assumption) (Fr.keep (by assumption)), ⟨_, _, _, _, _, Top.keeps (by assumption) (Fr.keep (by assumption))⟩, rfl, by (simp only [Around.deeper, Around.in1]; decide), by (simp only [Around.deeper, Around.in1]; decide)⟩)) (by with_reducible assumption) (by with_reducible assumption) (by with_reducible assumption) (by with_reducible assumption) ?_; intro _ _ _ k9q; (have F8q := Fr.keepsK F9q k9q); (have N8q := News.keepsK N9q k9q); clear F9q N9q k9q)))) | ((k_dflt ((with_reducible show wpAny _ _ (call (Value.ref 61) _) _ _ _); (rename Fr _ _ _ _ => F9q); (rename News _ _ _ _ => N9q); (refine c_word (by (exact ⟨Frag.In.keeps (by assumption) (Fr.keep (by assumption)), ⟨_, _, _, _, _, Top.keeps (by assumption) (Fr.keep (by assumption))⟩, rfl, by (simp only [Around.deeper, Around.in1]; decide), by (simp only [Around.deeper, Around.in1]; decide)⟩)) (by with_reducible assumption) (by with_reducible assumption) (by with_reducible assumption) (by with_reducible assumption) ?_; intro _ _ _ k9q; (have F8q := Fr.keepsK F9q k9q); (have N8q := News.keepsK N9q k9q); clear F9q N9q k9q)))) | (((with_reducible show wpAny _ _ (eval (Expr.Name _ _) (compEnvC _ _ _ _)) _ _ _); k_dflt (first | (refine blk_C (by assumption) (by rfl) (by k_mem) (by assumption) ?_ (by rfl) (by rfl) (by decide)) | (refine blk_L (by assumption) (by rfl) (by assumption) ?_ (by rfl) (by rfl) (by decide))))) | ((with_reducible show wpAny _ _ (compareOp CmpOp.NotEq (Value.bytes _ _) (Value.bytes _ _)) _ _ _); (k_dflt (refine ne_same ?_))) | ((k_dflt ((with_reducible show wpAny _ _ (call (Value.ref 21) _) _ _ _); (refine c_ap (by (exact ⟨Frag.In.keeps (by assumption) (Fr.keep (by assumption)), ⟨_, _, _, _, _, Top.keeps (by assumption) (Fr.keep (by assumption))⟩, rfl, by (simp only [Around.deeper, Around.in1]; decide), by (simp only [Around.deeper, Around.in1]; decide)⟩)) (by with_reducible assumption) (by with_reducible assumption) (by with_reducible assumption) (by with_reducible assumption) ?_; intro _ _ _ k9q; (rename Fr _ _ _ _ => F9q); (rename News _ _ _ _ => N9q); (have F8q := Fr.keepsK F9q k9q); (have N8q := News.keepsK N9q k9q); clear F9q N9q k9q)))) | ((k_dflt ((with_reducible show wpAny _ _ (call (Value.ref 56) _) _ _ _); (rename Fr _ _ _ _ => F9q); (rename News _ _ _ _ => N9q); (refine c_number (by (exact ⟨Frag.In.keeps (by assumption) (Fr.keep (by assumption)), ⟨_, _, _, _, _, Top.keeps (by assumption) (Fr.keep (by assumption))⟩, rfl, by (simp only [Around.deeper, Around.in1]; decide), by (simp only [Around.deeper, Around.in1]; decide)⟩)) (isList_news N9q (by k_memK)) (by with_reducible assumption) ?_; intro _ _ _ k9q; (have F8q := Fr.keepsK F9q k9q); (have N8q := News.keepsK N9q k9q); clear F9q N9q k9q)))) | ((k_dflt ((with_reducible show wpAny _ _ (call (Value.builtin "len") [Value.ref _]) _ _ _); (rename News _ _ _ _ => N9q); (refine len_news N9q (by k_memK) (by with_reducible assumption) (by omega) ?_)))) | ((k_dflt ((with_reducible show wpAny _ _ (call (Value.type _) [Value.ref _]) _ _ _); (refine list_range _ (by rfl) (by assumption) (by assumption) (by assumption) (by exact small_mine (by omega) (by omega) (by omega)) (by assumption) (by omega) ?_; intro _ _ _ _ _ _ l1q _ _; (try k_lt l1q))))) | ((k_dflt ((with_reducible show wpAny _ _ (call (Value.type _) [Value.int _ _, Value.int _ _]) _ _ _); (refine rng2 (by assumption) (by assumption) ?_); intro _ _ _ _ _ _ _ _ _))) | ((k_dflt ((with_reducible show wpAny _ _ (binaryOp _ (Value.int (_ + 1) _) (Value.int 4 _)) _ _ _); (refine div_q2 (by exact fmod4 _) ?_)))) | walk1 | (dsimp only; walk1) | (leave1; try dsimp only))))
      · exfalso; omega
      refine xor_int ?_
      rw [eF, eX]
      dsimp only
      (repeat' (first | (k_unfold; (try dsimp only)) | ((with_reducible show wpAny _ _ (PySem.exec (PySem.Stmt.Return (some (PySem.Expr.Constant (PySem.Const.bool false) _ _)) _) _) _ _ _); exfalso; first | assumption | contradiction | omega) | ((fail_if_success (with_reducible show wpAny _ _ (PySem.binaryOp PySem.Operator.BitXor _ _) _ _ _)); (fail_if_success (with_reducible show wpAny _ _ (PySem.call (PySem.Value.builtin "list.index") _) _ _ _)); (fail_if_success (with_reducible show wpAny _ _ (PySem.call (PySem.Value.type "bytes") _) _ _ _)); (fail_if_success (with_reducible show wpAny _ _ (PySem.binaryOp PySem.Operator.Pow _ _) _ _ _)); (fail_if_success (with_reducible show wpAny _ _ (PySem.eval (PySem.Expr.ListComp _ _ _ _) _) _ _ _)); first | ((k_dflt ((with_reducible show wpAny _ _ (call (Value.ref 49) _) _ _ _); (rename Fr _ _ _ _ => F9q); (rename News _ _ _ _ => N9q); (refine c_lev (by (exact ⟨Frag.In.keeps (by assumption) (Fr.keep (by assumption)), ⟨_, _, _, _, _, Top.keeps (by assumption) (Fr.keep (by assumption))⟩, rfl, by (simp only [Around.deeper, Around.in1]; decide), by (simp only [Around.deeper, Around.in1]; decide)⟩)) (by with_reducible assumption) (by with_reducible assumption) (by with_reducible assumption) (by with_reducible assumption) ?_; intro _ _ _ k9q; (have F8q := Fr.keepsK F9q k9q); (have N8q := News.keepsK N9q k9q); clear F9q N9q k9q)))) | ((k_dflt ((with_reducible show wpAny _ _ (call (Value.ref 61) _) _ _ _); (rename Fr _ _ _ _ => F9q); (rename News _ _ _ _ => N9q); (refine c_word (by (exact ⟨Frag.In.keeps (by assumption) (Fr.keep (by assumption)), ⟨_, _, _, _, _, Top.keeps (by assumption) (Fr.keep (by assumption))⟩, rfl, by (simp only [Around.deeper, Around.in1]; decide), by (simp only [Around.deeper, Around.in1]; decide)⟩)) (by with_reducible assumption) (by with_reducible assumption) (by with_reducible assumption) (by with_reducible assumption) ?_; intro _ _ _ k9q; (have F8q := Fr.keepsK F9q k9q); (have N8q := News.keepsK N9q k9q); clear F9q N9q k9q)))) | (((with_reducible show wpAny _ _ (eval (Expr.Name _ _) (compEnvC _ _ _ _)) _ _ _); k_dflt (first | (refine blk_C (by assumption) (by rfl) (by k_mem) (by assumption) ?_ (by rfl) (by rfl) (by decide)) | (refine blk_L (by assumption) (by rfl) (by assumption) ?_ (by rfl) (by rfl) (by decide))))) | ((with_reducible show wpAny _ _ (compareOp CmpOp.NotEq (Value.bytes _ _) (Value.bytes _ _)) _ _ _); (k_dflt (refine ne_same ?_))) | ((k_dflt ((with_reducible show wpAny _ _ (call (Value.ref 21) _) _ _ _); (refine c_ap (by (exact ⟨Frag.In.keeps (by assumption) (Fr.keep (by assumption)), ⟨_, _, _, _, _, Top.keeps (by assumption) (Fr.keep (by assumption))⟩, rfl, by (simp only [Around.deeper, Around.in1]; decide), by (simp only [Around.deeper, Around.in1]; decide)⟩)) (by with_reducible assumption) (by with_reducible assumption) (by with_reducible assumption) (by with_reducible assumption) ?_; intro _ _ _ k9q; (rename Fr _ _ _ _ => F9q); (rename News _ _ _ _ => N9q); (have F8q := Fr.keepsK F9q k9q); (have N8q := News.keepsK N9q k9q); clear F9q N9q k9q)))) | ((k_dflt ((with_reducible show wpAny _ _ (call (Value.ref 56) _) _ _ _); (rename Fr _ _ _ _ => F9q); (rename News _ _ _ _ => N9q); (refine c_number (by (exact ⟨Frag.In.keeps (by assumption) (Fr.keep (by assumption)), ⟨_, _, _, _, _, Top.keeps (by assumption) (Fr.keep (by assumption))⟩, rfl, by (simp only [Around.deeper, Around.in1]; decide), by (simp only [Around.deeper, Around.in1]; decide)⟩)) (isList_news N9q (by k_memK)) (by with_reducible assumption) ?_; intro _ _ _ k9q; (have F8q := Fr.keepsK F9q k9q); (have N8q := News.keepsK N9q k9q); clear F9q N9q k9q)))) | ((k_dflt ((with_reducible show wpAny _ _ (call (Value.builtin "len") [Value.ref _]) _ _ _); (rename News _ _ _ _ => N9q); (refine len_news N9q (by k_memK) (by with_reducible assumption) (by omega) ?_)))) | ((k_dflt ((with_reducible show wpAny _ _ (call (Value.type _) [Value.ref _]) _ _ _); (refine list_range _ (by rfl) (by assumption) (by assumption) (by assumption) (by exact small_mine (by omega) (by omega) (by omega)) (by assumption) (by omega) ?_; intro _ _ _ _ _ _ l1q _ _; (try k_lt l1q))))) | ((k_dflt ((with_reducible show wpAny _ _ (call (Value.type _) [Value.int _ _, Value.int _ _]) _ _ _); (refine rng2 (by assumption) (by assumption) ?_); intro _ _ _ _ _ _ _ _ _))) | ((k_dflt ((with_reducible show wpAny _ _ (binaryOp _ (Value.int (_ + 1) _) (Value.int 4 _)) _ _ _); (refine div_q2 (by exact fmod4 _) ?_)))) | walk1 | (dsimp only; walk1) | (leave1; try dsimp only))))
      refine xor_int ?_
      dsimp only
      (repeat' (first | (k_unfold; (try dsimp only)) | ((with_reducible show wpAny _ _ (PySem.exec (PySem.Stmt.Return (some (PySem.Expr.Constant (PySem.Const.bool false) _ _)) _) _) _ _ _); exfalso; first | assumption | contradiction | omega) | ((fail_if_success (with_reducible show wpAny _ _ (PySem.binaryOp PySem.Operator.BitXor _ _) _ _ _)); (fail_if_success (with_reducible show wpAny _ _ (PySem.call (PySem.Value.builtin "list.index") _) _ _ _)); (fail_if_success (with_reducible show wpAny _ _ (PySem.call (PySem.Value.type "bytes") _) _ _ _)); (fail_if_success (with_reducible show wpAny _ _ (PySem.binaryOp PySem.Operator.Pow _ _) _ _ _)); (fail_if_success (with_reducible show wpAny _ _ (PySem.eval (PySem.Expr.ListComp _ _ _ _) _) _ _ _)); first | ((k_dflt ((with_reducible show wpAny _ _ (call (Value.ref 49) _) _ _ _); (rename Fr _ _ _ _ => F9q); (rename News _ _ _ _ => N9q); (refine c_lev (by (exact ⟨Frag.In.keeps (by assumption) (Fr.keep (by assumption)), ⟨_, _, _, _, _, Top.keeps (by assumption) (Fr.keep (by assumption))⟩, rfl, by (simp only [Around.deeper, Around.in1]; decide), by (simp only [Around.deeper, Around.in1]; decide)⟩)) (by with_reducible assumption) (by with_reducible assumption) (by with_reducible assumption) (by with_reducible assumption) ?_; intro _ _ _ k9q; (have F8q := Fr.keepsK F9q k9q); (have N8q := News.keepsK N9q k9q); clear F9q N9q k9q)))) | ((k_dflt ((with_reducible show wpAny _ _ (call (Value.ref 61) _) _ _ _); (rename Fr _ _ _ _ => F9q); (rename News _ _ _ _ => N9q); (refine c_word (by (exact ⟨Frag.In.keeps (by assumption) (Fr.keep (by assumption)), ⟨_, _, _, _, _, Top.keeps (by assumption) (Fr.keep (by assumption))⟩, rfl, by (simp only [Around.deeper, Around.in1]; decide), by (simp only [Around.deeper, Around.in1]; decide)⟩)) (by with_reducible assumption) (by with_reducible assumption) (by with_reducible assumption) (by with_reducible assumption) ?_; intro _ _ _ k9q; (have F8q := Fr.keepsK F9q k9q); (have N8q := News.keepsK N9q k9q); clear F9q N9q k9q)))) | (((with_reducible show wpAny _ _ (eval (Expr.Name _ _) (compEnvC _ _ _ _)) _ _ _); k_dflt (first | (refine blk_C (by assumption) (by rfl) (by k_mem) (by assumption) ?_ (by rfl) (by rfl) (by decide)) | (refine blk_L (by assumption) (by rfl) (by assumption) ?_ (by rfl) (by rfl) (by decide))))) | ((with_reducible show wpAny _ _ (compareOp CmpOp.NotEq (Value.bytes _ _) (Value.bytes _ _)) _ _ _); (k_dflt (refine ne_same ?_))) | ((k_dflt ((with_reducible show wpAny _ _ (call (Value.ref 21) _) _ _ _); (refine c_ap (by (exact ⟨Frag.In.keeps (by assumption) (Fr.keep (by assumption)), ⟨_, _, _, _, _, Top.keeps (by assumption) (Fr.keep (by assumption))⟩, rfl, by (simp only [Around.deeper, Around.in1]; decide), by (simp only [Around.deeper, Around.in1]; decide)⟩)) (by with_reducible assumption) (by with_reducible assumption) (by with_reducible assumption) (by with_reducible assumption) ?_; intro _ _ _ k9q; (rename Fr _ _ _ _ => F9q); (rename News _ _ _ _ => N9q); (have F8q := Fr.keepsK F9q k9q); (have N8q := News.keepsK N9q k9q); clear F9q N9q k9q)))) | ((k_dflt ((with_reducible show wpAny _ _ (call (Value.ref 56) _) _ _ _); (rename Fr _ _ _ _ => F9q); (rename News _ _ _ _ => N9q); (refine c_number (by (exact ⟨Frag.In.keeps (by assumption) (Fr.keep (by assumption)), ⟨_, _, _, _, _, Top.keeps (by assumption) (Fr.keep (by assumption))⟩, rfl, by (simp only [Around.deeper, Around.in1]; decide), by (simp only [Around.deeper, Around.in1]; decide)⟩)) (isList_news N9q (by k_memK)) (by with_reducible assumption) ?_; intro _ _ _ k9q; (have F8q := Fr.keepsK F9q k9q); (have N8q := News.keepsK N9q k9q); clear F9q N9q k9q)))) | ((k_dflt ((with_reducible show wpAny _ _ (call (Value.builtin "len") [Value.ref _]) _ _ _); (rename News _ _ _ _ => N9q); (refine len_news N9q (by k_memK) (by with_reducible assumption) (by omega) ?_)))) | ((k_dflt ((with_reducible show wpAny _ _ (call (Value.type _) [Value.ref _]) _ _ _); (refine list_range _ (by rfl) (by assumption) (by assumption) (by assumption) (by exact small_mine (by omega) (by omega) (by omega)) (by assumption) (by omega) ?_; intro _ _ _ _ _ _ l1q _ _; (try k_lt l1q))))) | ((k_dflt ((with_reducible show wpAny _ _ (call (Value.type _) [Value.int _ _, Value.int _ _]) _ _ _); (refine rng2 (by assumption) (by assumption) ?_); intro _ _ _ _ _ _ _ _ _))) | ((k_dflt ((with_reducible show wpAny _ _ (binaryOp _ (Value.int (_ + 1) _) (Value.int 4 _)) _ _ _); (refine div_q2 (by exact fmod4 _) ?_)))) | walk1 | (dsimp only; walk1) | (leave1; try dsimp only))))
      refine' LC_C (fun n v => ∃ t, v = .int (73 + ((((deckI ds (xorL x2)).idxOf n : Nat) : Int))) t) (fun _ => true) ?hclos ?hcell ?hkind ?hnames ?hx ?hs ?_
      case hclos => with_unfolding_all rfl
      case hcell => decide
      case hkind => rfl
      case hnames => decide
      case hx => rfl
      case hs => intro _; rfl
      (repeat' (first | (k_unfold; (try dsimp only)) | ((with_reducible show wpAny _ _ (PySem.exec (PySem.Stmt.Return (some (PySem.Expr.Constant (PySem.Const.bool false) _ _)) _) _) _ _ _); exfalso; first | assumption | contradiction | omega) | ((fail_if_success (with_reducible show wpAny _ _ (PySem.binaryOp PySem.Operator.BitXor _ _) _ _ _)); (fail_if_success (with_reducible show wpAny _ _ (PySem.call (PySem.Value.builtin "list.index") _) _ _ _)); (fail_if_success (with_reducible show wpAny _ _ (PySem.call (PySem.Value.type "bytes") _) _ _ _)); (fail_if_success (with_reducible show wpAny _ _ (PySem.binaryOp PySem.Operator.Pow _ _) _ _ _)); (fail_if_success (with_reducible show wpAny _ _ (PySem.eval (PySem.Expr.ListComp _ _ _ _) _) _ _ _)); first | ((k_dflt ((with_reducible show wpAny _ _ (call (Value.ref 49) _) _ _ _); (rename Fr _ _ _ _ => F9q); (rename News _ _ _ _ => N9q); (refine c_lev (by (exact ⟨Frag.In.keeps (by assumption) (Fr.keep (by assumption)), ⟨_, _, _, _, _, Top.keeps (by assumption) (Fr.keep (by assumption))⟩, rfl, by (simp only [Around.deeper, Around.in1]; decide), by (simp only [Around.deeper, Around.in1]; decide)⟩)) (by with_reducible assumption) (by with_reducible assumption) (by with_reducible assumption) (by with_reducible assumption) ?_; intro _ _ _ k9q; (have F8q := Fr.keepsK F9q k9q); (have N8q := News.keepsK N9q k9q); clear F9q N9q k9q)))) | ((k_dflt ((with_reducible show wpAny _ _ (call (Value.ref 61) _) _ _ _); (rename Fr _ _ _ _ => F9q); (rename News _ _ _ _ => N9q); (refine c_word (by (exact ⟨Frag.In.keeps (by assumption) (Fr.keep (by assumption)), ⟨_, _, _, _, _, Top.keeps (by assumption) (Fr.keep (by assumption))⟩, rfl, by (simp only [Around.deeper, Around.in1]; decide), by (simp only [Around.deeper, Around.in1]; decide)⟩)) (by with_reducible assumption) (by with_reducible assumption) (by with_reducible assumption) (by with_reducible assumption) ?_; intro _ _ _ k9q; (have F8q := Fr.keepsK F9q k9q); (have N8q := News.keepsK N9q k9q); clear F9q N9q k9q)))) | (((with_reducible show wpAny _ _ (eval (Expr.Name _ _) (compEnvC _ _ _ _)) _ _ _); k_dflt (first | (refine blk_C (by assumption) (by rfl) (by k_mem) (by assumption) ?_ (by rfl) (by rfl) (by decide)) | (refine blk_L (by assumption) (by rfl) (by assumption) ?_ (by rfl) (by rfl) (by decide))))) | ((with_reducible show wpAny _ _ (compareOp CmpOp.NotEq (Value.bytes _ _) (Value.bytes _ _)) _ _ _); (k_dflt (refine ne_same ?_))) | ((k_dflt ((with_reducible show wpAny _ _ (call (Value.ref 21) _) _ _ _); (refine c_ap (by (exact ⟨Frag.In.keeps (by assumption) (Fr.keep (by assumption)), ⟨_, _, _, _, _, Top.keeps (by assumption) (Fr.keep (by assumption))⟩, rfl, by (simp only [Around.deeper, Around.in1]; decide), by (simp only [Around.deeper, Around.in1]; decide)⟩)) (by with_reducible assumption) (by with_reducible assumption) (by with_reducible assumption) (by with_reducible assumption) ?_; intro _ _ _ k9q; (rename Fr _ _ _ _ => F9q); (rename News _ _ _ _ => N9q); (have F8q := Fr.keepsK F9q k9q); (have N8q := News.keepsK N9q k9q); clear F9q N9q k9q)))) | ((k_dflt ((with_reducible show wpAny _ _ (call (Value.ref 56) _) _ _ _); (rename Fr _ _ _ _ => F9q); (rename News _ _ _ _ => N9q); (refine c_number (by (exact ⟨Frag.In.keeps (by assumption) (Fr.keep (by assumption)), ⟨_, _, _, _, _, Top.keeps (by assumption) (Fr.keep (by assumption))⟩, rfl, by (simp only [Around.deeper, Around.in1]; decide), by (simp only [Around.deeper, Around.in1]; decide)⟩)) (isList_news N9q (by k_memK)) (by with_reducible assumption) ?_; intro _ _ _ k9q; (have F8q := Fr.keepsK F9q k9q); (have N8q := News.keepsK N9q k9q); clear F9q N9q k9q)))) | ((k_dflt ((with_reducible show wpAny _ _ (call (Value.builtin "len") [Value.ref _]) _ _ _); (rename News _ _ _ _ => N9q); (refine len_news N9q (by k_memK) (by with_reducible assumption) (by omega) ?_)))) | ((k_dflt ((with_reducible show wpAny _ _ (call (Value.type _) [Value.ref _]) _ _ _); (refine list_range _ (by rfl) (by assumption) (by assumption) (by assumption) (by exact small_mine (by omega) (by omega) (by omega)) (by assumption) (by omega) ?_; intro _ _ _ _ _ _ l1q _ _; (try k_lt l1q))))) | ((k_dflt ((with_reducible show wpAny _ _ (call (Value.type _) [Value.int _ _, Value.int _ _]) _ _ _); (refine rng2 (by assumption) (by assumption) ?_); intro _ _ _ _ _ _ _ _ _))) | ((k_dflt ((with_reducible show wpAny _ _ (binaryOp _ (Value.int (_ + 1) _) (Value.int 4 _)) _ _ _); (refine div_q2 (by exact fmod4 _) ?_)))) | walk1 | (dsimp only; walk1) | (leave1; try dsimp only))))
      rename Fr _ _ _ _ => F9
      rename News _ _ _ _ => N9
      refine comp_listC _ rfl (isList_news N9 (k := ks) (by k_memK)) his (by omega) F9 N9 ?_ ?_
      · clear F9 N9
        intro C n t s₂ m₂ E' hn hns2 hm F9 N9
        obtain ⟨hj1, hj2⟩ := idx_in (in_deck hlen hperm hn)
        (repeat' (first | (k_unfold; (try dsimp only)) | ((with_reducible show wpAny _ _ (PySem.exec (PySem.Stmt.Return (some (PySem.Expr.Constant (PySem.Const.bool false) _ _)) _) _) _ _ _); exfalso; first | assumption | contradiction | omega) | ((fail_if_success (with_reducible show wpAny _ _ (PySem.binaryOp PySem.Operator.BitXor _ _) _ _ _)); (fail_if_success (with_reducible show wpAny _ _ (PySem.call (PySem.Value.builtin "list.index") _) _ _ _)); (fail_if_success (with_reducible show wpAny _ _ (PySem.call (PySem.Value.type "bytes") _) _ _ _)); (fail_if_success (with_reducible show wpAny _ _ (PySem.binaryOp PySem.Operator.Pow _ _) _ _ _)); (fail_if_success (with_reducible show wpAny _ _ (PySem.eval (PySem.Expr.ListComp _ _ _ _) _) _ _ _)); first | ((k_dflt ((with_reducible show wpAny _ _ (call (Value.ref 49) _) _ _ _); (rename Fr _ _ _ _ => F9q); (rename News _ _ _ _ => N9q); (refine c_lev (by (exact ⟨Frag.In.keeps (by assumption) (Fr.keep (by assumption)), ⟨_, _, _, _, _, Top.keeps (by assumption) (Fr.keep (by assumption))⟩, rfl, by (simp only [Around.deeper, Around.in1]; decide), by (simp only [Around.deeper, Around.in1]; decide)⟩)) (by with_reducible assumption) (by with_reducible assumption) (by with_reducible assumption) (by with_reducible assumption) ?_; intro _ _ _ k9q; (have F8q := Fr.keepsK F9q k9q); (have N8q := News.keepsK N9q k9q); clear F9q N9q k9q)))) | ((k_dflt ((with_reducible show wpAny _ _ (call (Value.ref 61) _) _ _ _); (rename Fr _ _ _ _ => F9q); (rename News _ _ _ _ => N9q); (refine c_word (by (exact ⟨Frag.In.keeps (by assumption) (Fr.keep (by assumption)), ⟨_, _, _, _, _, Top.keeps (by assumption) (Fr.keep (by assumption))⟩, rfl, by (simp only [Around.deeper, Around.in1]; decide), by (simp only [Around.deeper, Around.in1]; decide)⟩)) (by with_reducible assumption) (by with_reducible assumption) (by with_reducible assumption) (by with_reducible assumption) ?_; intro _ _ _ k9q; (have F8q := Fr.keepsK F9q k9q); (have N8q := News.keepsK N9q k9q); clear F9q N9q k9q)))) | (((with_reducible show wpAny _ _ (eval (Expr.Name _ _) (compEnvC _ _ _ _)) _ _ _); k_dflt (first | (refine blk_C (by assumption) (by rfl) (by k_mem) (by assumption) ?_ (by rfl) (by rfl) (by decide)) | (refine blk_L (by assumption) (by rfl) (by assumption) ?_ (by rfl) (by rfl) (by decide))))) | ((with_reducible show wpAny _ _ (compareOp CmpOp.NotEq (Value.bytes _ _) (Value.bytes _ _)) _ _ _); (k_dflt (refine ne_same ?_))) | ((k_dflt ((with_reducible show wpAny _ _ (call (Value.ref 21) _) _ _ _); (refine c_ap (by (exact ⟨Frag.In.keeps (by assumption) (Fr.keep (by assumption)), ⟨_, _, _, _, _, Top.keeps (by assumption) (Fr.keep (by assumption))⟩, rfl, by (simp only [Around.deeper, Around.in1]; decide), by (simp only [Around.deeper, Around.in1]; decide)⟩)) (by with_reducible assumption) (by with_reducible assumption) (by with_reducible assumption) (by with_reducible assumption) ?_; intro _ _ _ k9q; (rename Fr _ _ _ _ => F9q); (rename News _ _ _ _ => N9q); (have F8q := Fr.keepsK F9q k9q); (have N8q := News.keepsK N9q k9q); clear F9q N9q k9q)))) | ((k_dflt ((with_reducible show wpAny _ _ (call (Value.ref 56) _) _ _ _); (rename Fr _ _ _ _ => F9q); (rename News _ _ _ _ => N9q); (refine c_number (by (exact ⟨Frag.In.keeps (by assumption) (Fr.keep (by assumption)), ⟨_, _, _, _, _, Top.keeps (by assumption) (Fr.keep (by assumption))⟩, rfl, by (simp only [Around.deeper, Around.in1]; decide), by (simp only [Around.deeper, Around.in1]; decide)⟩)) (isList_news N9q (by k_memK)) (by with_reducible assumption) ?_; intro _ _ _ k9q; (have F8q := Fr.keepsK F9q k9q); (have N8q := News.keepsK N9q k9q); clear F9q N9q k9q)))) | ((k_dflt ((with_reducible show wpAny _ _ (call (Value.builtin "len") [Value.ref _]) _ _ _); (rename News _ _ _ _ => N9q); (refine len_news N9q (by k_memK) (by with_reducible assumption) (by omega) ?_)))) | ((k_dflt ((with_reducible show wpAny _ _ (call (Value.type _) [Value.ref _]) _ _ _); (refine list_range _ (by rfl) (by assumption) (by assumption) (by assumption) (by exact small_mine (by omega) (by omega) (by omega)) (by assumption) (by omega) ?_; intro _ _ _ _ _ _ l1q _ _; (try k_lt l1q))))) | ((k_dflt ((with_reducible show wpAny _ _ (call (Value.type _) [Value.int _ _, Value.int _ _]) _ _ _); (refine rng2 (by assumption) (by assumption) ?_); intro _ _ _ _ _ _ _ _ _))) | ((k_dflt ((with_reducible show wpAny _ _ (binaryOp _ (Value.int (_ + 1) _) (Value.int 4 _)) _ _ _); (refine div_q2 (by exact fmod4 _) ?_)))) | walk1 | (dsimp only; walk1) | (leave1; try dsimp only))))
        refine index_deck N9 (D := lo) (n := ko) (by k_memK) hio2 (deck_nodup hnod hlen hperm) hj1 hj2 (by simp [deckI, xorL]) ?_
        (repeat' (first | (k_unfold; (try dsimp only)) | ((with_reducible show wpAny _ _ (PySem.exec (PySem.Stmt.Return (some (PySem.Expr.Constant (PySem.Const.bool false) _ _)) _) _) _ _ _); exfalso; first | assumption | contradiction | omega) | ((fail_if_success (with_reducible show wpAny _ _ (PySem.binaryOp PySem.Operator.BitXor _ _) _ _ _)); (fail_if_success (with_reducible show wpAny _ _ (PySem.call (PySem.Value.builtin "list.index") _) _ _ _)); (fail_if_success (with_reducible show wpAny _ _ (PySem.call (PySem.Value.type "bytes") _) _ _ _)); (fail_if_success (with_reducible show wpAny _ _ (PySem.binaryOp PySem.Operator.Pow _ _) _ _ _)); (fail_if_success (with_reducible show wpAny _ _ (PySem.eval (PySem.Expr.ListComp _ _ _ _) _) _ _ _)); first | ((k_dflt ((with_reducible show wpAny _ _ (call (Value.ref 49) _) _ _ _); (rename Fr _ _ _ _ => F9q); (rename News _ _ _ _ => N9q); (refine c_lev (by (exact ⟨Frag.In.keeps (by assumption) (Fr.keep (by assumption)), ⟨_, _, _, _, _, Top.keeps (by assumption) (Fr.keep (by assumption))⟩, rfl, by (simp only [Around.deeper, Around.in1]; decide), by (simp only [Around.deeper, Around.in1]; decide)⟩)) (by with_reducible assumption) (by with_reducible assumption) (by with_reducible assumption) (by with_reducible assumption) ?_; intro _ _ _ k9q; (have F8q := Fr.keepsK F9q k9q); (have N8q := News.keepsK N9q k9q); clear F9q N9q k9q)))) | ((k_dflt ((with_reducible show wpAny _ _ (call (Value.ref 61) _) _ _ _); (rename Fr _ _ _ _ => F9q); (rename News _ _ _ _ => N9q); (refine c_word (by (exact ⟨Frag.In.keeps (by assumption) (Fr.keep (by assumption)), ⟨_, _, _, _, _, Top.keeps (by assumption) (Fr.keep (by assumption))⟩, rfl, by (simp only [Around.deeper, Around.in1]; decide), by (simp only [Around.deeper, Around.in1]; decide)⟩)) (by with_reducible assumption) (by with_reducible assumption) (by with_reducible assumption) (by with_reducible assumption) ?_; intro _ _ _ k9q; (have F8q := Fr.keepsK F9q k9q); (have N8q := News.keepsK N9q k9q); clear F9q N9q k9q)))) | (((with_reducible show wpAny _ _ (eval (Expr.Name _ _) (compEnvC _ _ _ _)) _ _ _); k_dflt (first | (refine blk_C (by assumption) (by rfl) (by k_mem) (by assumption) ?_ (by rfl) (by rfl) (by decide)) | (refine blk_L (by assumption) (by rfl) (by assumption) ?_ (by rfl) (by rfl) (by decide))))) | ((with_reducible show wpAny _ _ (compareOp CmpOp.NotEq (Value.bytes _ _) (Value.bytes _ _)) _ _ _); (k_dflt (refine ne_same ?_))) | ((k_dflt ((with_reducible show wpAny _ _ (call (Value.ref 21) _) _ _ _); (refine c_ap (by (exact ⟨Frag.In.keeps (by assumption) (Fr.keep (by assumption)), ⟨_, _, _, _, _, Top.keeps (by assumption) (Fr.keep (by assumption))⟩, rfl, by (simp only [Around.deeper, Around.in1]; decide), by (simp only [Around.deeper, Around.in1]; decide)⟩)) (by with_reducible assumption) (by with_reducible assumption) (by with_reducible assumption) (by with_reducible assumption) ?_; intro _ _ _ k9q; (rename Fr _ _ _ _ => F9q); (rename News _ _ _ _ => N9q); (have F8q := Fr.keepsK F9q k9q); (have N8q := News.keepsK N9q k9q); clear F9q N9q k9q)))) | ((k_dflt ((with_reducible show wpAny _ _ (call (Value.ref 56) _) _ _ _); (rename Fr _ _ _ _ => F9q); (rename News _ _ _ _ => N9q); (refine c_number (by (exact ⟨Frag.In.keeps (by assumption) (Fr.keep (by assumption)), ⟨_, _, _, _, _, Top.keeps (by assumption) (Fr.keep (by assumption))⟩, rfl, by (simp only [Around.deeper, Around.in1]; decide), by (simp only [Around.deeper, Around.in1]; decide)⟩)) (isList_news N9q (by k_memK)) (by with_reducible assumption) ?_; intro _ _ _ k9q; (have F8q := Fr.keepsK F9q k9q); (have N8q := News.keepsK N9q k9q); clear F9q N9q k9q)))) | ((k_dflt ((with_reducible show wpAny _ _ (call (Value.builtin "len") [Value.ref _]) _ _ _); (rename News _ _ _ _ => N9q); (refine len_news N9q (by k_memK) (by with_reducible assumption) (by omega) ?_)))) | ((k_dflt ((with_reducible show wpAny _ _ (call (Value.type _) [Value.ref _]) _ _ _); (refine list_range _ (by rfl) (by assumption) (by assumption) (by assumption) (by exact small_mine (by omega) (by omega) (by omega)) (by assumption) (by omega) ?_; intro _ _ _ _ _ _ l1q _ _; (try k_lt l1q))))) | ((k_dflt ((with_reducible show wpAny _ _ (call (Value.type _) [Value.int _ _, Value.int _ _]) _ _ _); (refine rng2 (by assumption) (by assumption) ?_); intro _ _ _ _ _ _ _ _ _))) | ((k_dflt ((with_reducible show wpAny _ _ (binaryOp _ (Value.int (_ + 1) _) (Value.int 4 _)) _ _ _); (refine div_q2 (by exact fmod4 _) ?_)))) | walk1 | (dsimp only; walk1) | (leave1; try dsimp only))))
        exact ⟨s₂.heap, _, rfl, fun _ _ e => e⟩
      · intro D ys k9 h9 tk9 hy hne F7 N7
        have hys := paired_map (g := fun n => 73 + ((((deckI ds (xorL x2)).idxOf n : Nat) : Int))) hy
        rw [lie_cards hnod hlen hx28 hperm] at hys
        (repeat' (first | (k_unfold; (try dsimp only)) | ((with_reducible show wpAny _ _ (PySem.exec (PySem.Stmt.Return (some (PySem.Expr.Constant (PySem.Const.bool false) _ _)) _) _) _ _ _); exfalso; first | assumption | contradiction | omega) | ((fail_if_success (with_reducible show wpAny _ _ (PySem.binaryOp PySem.Operator.BitXor _ _) _ _ _)); (fail_if_success (with_reducible show wpAny _ _ (PySem.call (PySem.Value.builtin "list.index") _) _ _ _)); (fail_if_success (with_reducible show wpAny _ _ (PySem.call (PySem.Value.type "bytes") _) _ _ _)); (fail_if_success (with_reducible show wpAny _ _ (PySem.binaryOp PySem.Operator.Pow _ _) _ _ _)); (fail_if_success (with_reducible show wpAny _ _ (PySem.eval (PySem.Expr.ListComp _ _ _ _) _) _ _ _)); first | ((k_dflt ((with_reducible show wpAny _ _ (call (Value.ref 49) _) _ _ _); (rename Fr _ _ _ _ => F9q); (rename News _ _ _ _ => N9q); (refine c_lev (by (exact ⟨Frag.In.keeps (by assumption) (Fr.keep (by assumption)), ⟨_, _, _, _, _, Top.keeps (by assumption) (Fr.keep (by assumption))⟩, rfl, by (simp only [Around.deeper, Around.in1]; decide), by (simp only [Around.deeper, Around.in1]; decide)⟩)) (by with_reducible assumption) (by with_reducible assumption) (by with_reducible assumption) (by with_reducible assumption) ?_; intro _ _ _ k9q; (have F8q := Fr.keepsK F9q k9q); (have N8q := News.keepsK N9q k9q); clear F9q N9q k9q)))) | ((k_dflt ((with_reducible show wpAny _ _ (call (Value.ref 61) _) _ _ _); (rename Fr _ _ _ _ => F9q); (rename News _ _ _ _ => N9q); (refine c_word (by (exact ⟨Frag.In.keeps (by assumption) (Fr.keep (by assumption)), ⟨_, _, _, _, _, Top.keeps (by assumption) (Fr.keep (by assumption))⟩, rfl, by (simp only [Around.deeper, Around.in1]; decide), by (simp only [Around.deeper, Around.in1]; decide)⟩)) (by with_reducible assumption) (by with_reducible assumption) (by with_reducible assumption) (by with_reducible assumption) ?_; intro _ _ _ k9q; (have F8q := Fr.keepsK F9q k9q); (have N8q := News.keepsK N9q k9q); clear F9q N9q k9q)))) | (((with_reducible show wpAny _ _ (eval (Expr.Name _ _) (compEnvC _ _ _ _)) _ _ _); k_dflt (first | (refine blk_C (by assumption) (by rfl) (by k_mem) (by assumption) ?_ (by rfl) (by rfl) (by decide)) | (refine blk_L (by assumption) (by rfl) (by assumption) ?_ (by rfl) (by rfl) (by decide))))) | ((with_reducible show wpAny _ _ (compareOp CmpOp.NotEq (Value.bytes _ _) (Value.bytes _ _)) _ _ _); (k_dflt (refine ne_same ?_))) | ((k_dflt ((with_reducible show wpAny _ _ (call (Value.ref 21) _) _ _ _); (refine c_ap (by (exact ⟨Frag.In.keeps (by assumption) (Fr.keep (by assumption)), ⟨_, _, _, _, _, Top.keeps (by assumption) (Fr.keep (by assumption))⟩, rfl, by (simp only [Around.deeper, Around.in1]; decide), by (simp only [Around.deeper, Around.in1]; decide)⟩)) (by with_reducible assumption) (by with_reducible assumption) (by with_reducible assumption) (by with_reducible assumption) ?_; intro _ _ _ k9q; (rename Fr _ _ _ _ => F9q); (rename News _ _ _ _ => N9q); (have F8q := Fr.keepsK F9q k9q); (have N8q := News.keepsK N9q k9q); clear F9q N9q k9q)))) | ((k_dflt ((with_reducible show wpAny _ _ (call (Value.ref 56) _) _ _ _); (rename Fr _ _ _ _ => F9q); (rename News _ _ _ _ => N9q); (refine c_number (by (exact ⟨Frag.In.keeps (by assumption) (Fr.keep (by assumption)), ⟨_, _, _, _, _, Top.keeps (by assumption) (Fr.keep (by assumption))⟩, rfl, by (simp only [Around.deeper, Around.in1]; decide), by (simp only [Around.deeper, Around.in1]; decide)⟩)) (isList_news N9q (by k_memK)) (by with_reducible assumption) ?_; intro _ _ _ k9q; (have F8q := Fr.keepsK F9q k9q); (have N8q := News.keepsK N9q k9q); clear F9q N9q k9q)))) | ((k_dflt ((with_reducible show wpAny _ _ (call (Value.builtin "len") [Value.ref _]) _ _ _); (rename News _ _ _ _ => N9q); (refine len_news N9q (by k_memK) (by with_reducible assumption) (by omega) ?_)))) | ((k_dflt ((with_reducible show wpAny _ _ (call (Value.type _) [Value.ref _]) _ _ _); (refine list_range _ (by rfl) (by assumption) (by assumption) (by assumption) (by exact small_mine (by omega) (by omega) (by omega)) (by assumption) (by omega) ?_; intro _ _ _ _ _ _ l1q _ _; (try k_lt l1q))))) | ((k_dflt ((with_reducible show wpAny _ _ (call (Value.type _) [Value.int _ _, Value.int _ _]) _ _ _); (refine rng2 (by assumption) (by assumption) ?_); intro _ _ _ _ _ _ _ _ _))) | ((k_dflt ((with_reducible show wpAny _ _ (binaryOp _ (Value.int (_ + 1) _) (Value.int 4 _)) _ _ _); (refine div_q2 (by exact fmod4 _) ?_)))) | walk1 | (dsimp only; walk1) | (leave1; try dsimp only))))
        refine KBa.make_K F7 N7 rfl (isList_news N7 (.head _)) hys (in_ap hL1) (by simp [castsI, lieD]) ?_
        intro h8 t8 k8 F8 N8 _
        rw [arr_ap]
        clear F7 N7
        (repeat' (first | (k_unfold; (try dsimp only)) | ((with_reducible show wpAny _ _ (PySem.exec (PySem.Stmt.Return (some (PySem.Expr.Constant (PySem.Const.bool false) _ _)) _) _) _ _ _); exfalso; first | assumption | contradiction | omega) | ((fail_if_success (with_reducible show wpAny _ _ (PySem.binaryOp PySem.Operator.BitXor _ _) _ _ _)); (fail_if_success (with_reducible show wpAny _ _ (PySem.call (PySem.Value.builtin "list.index") _) _ _ _)); (fail_if_success (with_reducible show wpAny _ _ (PySem.call (PySem.Value.type "bytes") _) _ _ _)); (fail_if_success (with_reducible show wpAny _ _ (PySem.binaryOp PySem.Operator.Pow _ _) _ _ _)); (fail_if_success (with_reducible show wpAny _ _ (PySem.eval (PySem.Expr.ListComp _ _ _ _) _) _ _ _)); first | ((k_dflt ((with_reducible show wpAny _ _ (call (Value.ref 49) _) _ _ _); (rename Fr _ _ _ _ => F9q); (rename News _ _ _ _ => N9q); (refine c_lev (by (exact ⟨Frag.In.keeps (by assumption) (Fr.keep (by assumption)), ⟨_, _, _, _, _, Top.keeps (by assumption) (Fr.keep (by assumption))⟩, rfl, by (simp only [Around.deeper, Around.in1]; decide), by (simp only [Around.deeper, Around.in1]; decide)⟩)) (by with_reducible assumption) (by with_reducible assumption) (by with_reducible assumption) (by with_reducible assumption) ?_; intro _ _ _ k9q; (have F8q := Fr.keepsK F9q k9q); (have N8q := News.keepsK N9q k9q); clear F9q N9q k9q)))) | ((k_dflt ((with_reducible show wpAny _ _ (call (Value.ref 61) _) _ _ _); (rename Fr _ _ _ _ => F9q); (rename News _ _ _ _ => N9q); (refine c_word (by (exact ⟨Frag.In.keeps (by assumption) (Fr.keep (by assumption)), ⟨_, _, _, _, _, Top.keeps (by assumption) (Fr.keep (by assumption))⟩, rfl, by (simp only [Around.deeper, Around.in1]; decide), by (simp only [Around.deeper, Around.in1]; decide)⟩)) (by with_reducible assumption) (by with_reducible assumption) (by with_reducible assumption) (by with_reducible assumption) ?_; intro _ _ _ k9q; (have F8q := Fr.keepsK F9q k9q); (have N8q := News.keepsK N9q k9q); clear F9q N9q k9q)))) | (((with_reducible show wpAny _ _ (eval (Expr.Name _ _) (compEnvC _ _ _ _)) _ _ _); k_dflt (first | (refine blk_C (by assumption) (by rfl) (by k_mem) (by assumption) ?_ (by rfl) (by rfl) (by decide)) | (refine blk_L (by assumption) (by rfl) (by assumption) ?_ (by rfl) (by rfl) (by decide))))) | ((with_reducible show wpAny _ _ (compareOp CmpOp.NotEq (Value.bytes _ _) (Value.bytes _ _)) _ _ _); (k_dflt (refine ne_same ?_))) | ((k_dflt ((with_reducible show wpAny _ _ (call (Value.ref 21) _) _ _ _); (refine c_ap (by (exact ⟨Frag.In.keeps (by assumption) (Fr.keep (by assumption)), ⟨_, _, _, _, _, Top.keeps (by assumption) (Fr.keep (by assumption))⟩, rfl, by (simp only [Around.deeper, Around.in1]; decide), by (simp only [Around.deeper, Around.in1]; decide)⟩)) (by with_reducible assumption) (by with_reducible assumption) (by with_reducible assumption) (by with_reducible assumption) ?_; intro _ _ _ k9q; (rename Fr _ _ _ _ => F9q); (rename News _ _ _ _ => N9q); (have F8q := Fr.keepsK F9q k9q); (have N8q := News.keepsK N9q k9q); clear F9q N9q k9q)))) | ((k_dflt ((with_reducible show wpAny _ _ (call (Value.ref 56) _) _ _ _); (rename Fr _ _ _ _ => F9q); (rename News _ _ _ _ => N9q); (refine c_number (by (exact ⟨Frag.In.keeps (by assumption) (Fr.keep (by assumption)), ⟨_, _, _, _, _, Top.keeps (by assumption) (Fr.keep (by assumption))⟩, rfl, by (simp only [Around.deeper, Around.in1]; decide), by (simp only [Around.deeper, Around.in1]; decide)⟩)) (isList_news N9q (by k_memK)) (by with_reducible assumption) ?_; intro _ _ _ k9q; (have F8q := Fr.keepsK F9q k9q); (have N8q := News.keepsK N9q k9q); clear F9q N9q k9q)))) | ((k_dflt ((with_reducible show wpAny _ _ (call (Value.builtin "len") [Value.ref _]) _ _ _); (rename News _ _ _ _ => N9q); (refine len_news N9q (by k_memK) (by with_reducible assumption) (by omega) ?_)))) | ((k_dflt ((with_reducible show wpAny _ _ (call (Value.type _) [Value.ref _]) _ _ _); (refine list_range _ (by rfl) (by assumption) (by assumption) (by assumption) (by exact small_mine (by omega) (by omega) (by omega)) (by assumption) (by omega) ?_; intro _ _ _ _ _ _ l1q _ _; (try k_lt l1q))))) | ((k_dflt ((with_reducible show wpAny _ _ (call (Value.type _) [Value.int _ _, Value.int _ _]) _ _ _); (refine rng2 (by assumption) (by assumption) ?_); intro _ _ _ _ _ _ _ _ _))) | ((k_dflt ((with_reducible show wpAny _ _ (binaryOp _ (Value.int (_ + 1) _) (Value.int 4 _)) _ _ _); (refine div_q2 (by exact fmod4 _) ?_)))) | walk1 | (dsimp only; walk1) | (leave1; try dsimp only))))
        refine' ExitW.here _ ?Fv10 ?Nv10 ?nv10 ?hpv10 trivial
        case Fv10 => assumption
        case Nv10 => assumption
        case hpv10 => ((repeat' (first | exact List.forall_mem_nil _ | (refine List.forall_mem_cons.mpr ⟨by with_unfolding_all rfl, ?_⟩))))
        case nv10 => ((repeat' (first | exact List.forall_mem_nil _ | (refine List.forall_mem_cons.mpr ⟨by k_memK, ?_⟩))))
    · have h3 : ¬ i % 3 = 2 := fmod3n (by assumption)
      rename Fr _ _ _ _ => F5
      rw [hxe, ← xAt_stay h3, hx2] at F5
      refine' ExitW.here _ F5 ?Nu10 ?nu10 ?hpu10 trivial
      case Nu10 => assumption
      case hpu10 => ((repeat' (first | exact List.forall_mem_nil _ | (refine List.forall_mem_cons.mpr ⟨by with_unfolding_all rfl, ?_⟩))))
      case nu10 => ((repeat' (first | exact List.forall_mem_nil _ | (refine List.forall_mem_cons.mpr ⟨by k_memK, ?_⟩))))
    --}
  case u10d =>
  clear F4 N4
  rintro tx2 u5 h5 tk5 - F4 N4
  try dsimp only at F4 N4 ⊢
  refine execs_mid (σ := Unit) (L := s1.heap.objs.size) s1.heap (fun _ => (s1.heap.objs.size + 1, o7) :: (I, io) :: (lt, listOf vt.toArray kt) :: (ls, listOf vs.toArray ks) :: [(lo, listOf vo.toArray ko)]) (fun _ => [(Str.ofString "figures", .int (x2 : Int) tx2), (Str.ofString "place", .int (p2 : Int) tp2), (Str.ofString "turn", .int (i : Int) ti), (Str.ofString "followed", .int ((ds.getD p0 0 : Nat) : Int) tfo), (Str.ofString "steps", .ref lt), (Str.ofString "start", .ref ls), (Str.ofString "share", .float sa ts), (Str.ofString "level", .float va tl), (Str.ofString "number", .int (N : Int) tN)]) (fun _ => True) ?u11 ?u11d
  case u11 =>
    (repeat' (first | (k_unfold; (try dsimp only)) | ((with_reducible show wpAny _ _ (PySem.exec (PySem.Stmt.Return (some (PySem.Expr.Constant (PySem.Const.bool false) _ _)) _) _) _ _ _); exfalso; first | assumption | contradiction | omega) | ((fail_if_success (with_reducible show wpAny _ _ (PySem.execs (PySem.Stmt.Assign [PySem.Expr.Name (PySem.Str.ofString "due") _] _ _ :: _) _) _ _ _)); first | ((k_dflt ((with_reducible show wpAny _ _ (call (Value.ref 49) _) _ _ _); (rename Fr _ _ _ _ => F9q); (rename News _ _ _ _ => N9q); (refine c_lev (by (exact ⟨Frag.In.keeps (by assumption) (Fr.keep (by assumption)), ⟨_, _, _, _, _, Top.keeps (by assumption) (Fr.keep (by assumption))⟩, rfl, by (simp only [Around.deeper, Around.in1]; decide), by (simp only [Around.deeper, Around.in1]; decide)⟩)) (by with_reducible assumption) (by with_reducible assumption) (by with_reducible assumption) (by with_reducible assumption) ?_; intro _ _ _ k9q; (have F8q := Fr.keepsK F9q k9q); (have N8q := News.keepsK N9q k9q); clear F9q N9q k9q)))) | ((k_dflt ((with_reducible show wpAny _ _ (call (Value.ref 61) _) _ _ _); (rename Fr _ _ _ _ => F9q); (rename News _ _ _ _ => N9q); (refine c_word (by (exact ⟨Frag.In.keeps (by assumption) (Fr.keep (by assumption)), ⟨_, _, _, _, _, Top.keeps (by assumption) (Fr.keep (by assumption))⟩, rfl, by (simp only [Around.deeper, Around.in1]; decide), by (simp only [Around.deeper, Around.in1]; decide)⟩)) (by with_reducible assumption) (by with_reducible assumption) (by with_reducible assumption) (by with_reducible assumption) ?_; intro _ _ _ k9q; (have F8q := Fr.keepsK F9q k9q); (have N8q := News.keepsK N9q k9q); clear F9q N9q k9q)))) | (((with_reducible show wpAny _ _ (eval (Expr.Name _ _) (compEnvC _ _ _ _)) _ _ _); k_dflt (first | (refine blk_C (by assumption) (by rfl) (by k_mem) (by assumption) ?_ (by rfl) (by rfl) (by decide)) | (refine blk_L (by assumption) (by rfl) (by assumption) ?_ (by rfl) (by rfl) (by decide))))) | ((with_reducible show wpAny _ _ (compareOp CmpOp.NotEq (Value.bytes _ _) (Value.bytes _ _)) _ _ _); (k_dflt (refine ne_same ?_))) | ((k_dflt ((with_reducible show wpAny _ _ (call (Value.ref 21) _) _ _ _); (refine c_ap (by (exact ⟨Frag.In.keeps (by assumption) (Fr.keep (by assumption)), ⟨_, _, _, _, _, Top.keeps (by assumption) (Fr.keep (by assumption))⟩, rfl, by (simp only [Around.deeper, Around.in1]; decide), by (simp only [Around.deeper, Around.in1]; decide)⟩)) (by with_reducible assumption) (by with_reducible assumption) (by with_reducible assumption) (by with_reducible assumption) ?_; intro _ _ _ k9q; (rename Fr _ _ _ _ => F9q); (rename News _ _ _ _ => N9q); (have F8q := Fr.keepsK F9q k9q); (have N8q := News.keepsK N9q k9q); clear F9q N9q k9q)))) | ((k_dflt ((with_reducible show wpAny _ _ (call (Value.ref 56) _) _ _ _); (rename Fr _ _ _ _ => F9q); (rename News _ _ _ _ => N9q); (refine c_number (by (exact ⟨Frag.In.keeps (by assumption) (Fr.keep (by assumption)), ⟨_, _, _, _, _, Top.keeps (by assumption) (Fr.keep (by assumption))⟩, rfl, by (simp only [Around.deeper, Around.in1]; decide), by (simp only [Around.deeper, Around.in1]; decide)⟩)) (isList_news N9q (by k_memK)) (by with_reducible assumption) ?_; intro _ _ _ k9q; (have F8q := Fr.keepsK F9q k9q); (have N8q := News.keepsK N9q k9q); clear F9q N9q k9q)))) | ((k_dflt ((with_reducible show wpAny _ _ (call (Value.builtin "len") [Value.ref _]) _ _ _); (rename News _ _ _ _ => N9q); (refine len_news N9q (by k_memK) (by with_reducible assumption) (by omega) ?_)))) | ((k_dflt ((with_reducible show wpAny _ _ (call (Value.type _) [Value.ref _]) _ _ _); (refine list_range _ (by rfl) (by assumption) (by assumption) (by assumption) (by exact small_mine (by omega) (by omega) (by omega)) (by assumption) (by omega) ?_; intro _ _ _ _ _ _ l1q _ _; (try k_lt l1q))))) | ((k_dflt ((with_reducible show wpAny _ _ (call (Value.type _) [Value.int _ _, Value.int _ _]) _ _ _); (refine rng2 (by assumption) (by assumption) ?_); intro _ _ _ _ _ _ _ _ _))) | ((k_dflt ((with_reducible show wpAny _ _ (binaryOp _ (Value.int (_ + 1) _) (Value.int 4 _)) _ _ _); (refine div_q2 (by exact fmod4 _) ?_)))) | walk1 | (dsimp only; walk1) | (leave1; try dsimp only))))
    · have h9 : i % 9 = 2 := fmod9 (by assumption)
      have hpi : piAt N (i + 1) = xorL x2 := hx2 ▸ (at_third N hi (by omega)).1
      rw [hpi] at hio2
      refine execs_mid (σ := Tok) (L := s1.heap.objs.size) s1.heap (fun _ => (s1.heap.objs.size + 1, o7) :: (I, io) :: (lt, listOf vt.toArray kt) :: (ls, listOf vs.toArray ks) :: [(lo, listOf vo.toArray ko)]) (fun c => [(Str.ofString "due", .int (due x2) c), (Str.ofString "figures", .int (x2 : Int) tx2), (Str.ofString "place", .int (p2 : Int) tp2), (Str.ofString "turn", .int (i : Int) ti), (Str.ofString "followed", .int ((ds.getD p0 0 : Nat) : Int) tfo), (Str.ofString "steps", .ref lt), (Str.ofString "start", .ref ls), (Str.ofString "share", .float sa ts), (Str.ofString "level", .float va tl), (Str.ofString "number", .int (N : Int) tN)]) (fun _ => True) ?v1 ?v1d
      case v1 =>
        --{
        (repeat' (first | (k_unfold; (try dsimp only)) | ((with_reducible show wpAny _ _ (PySem.exec (PySem.Stmt.Return (some (PySem.Expr.Constant (PySem.Const.bool false) _ _)) _) _) _ _ _); exfalso; first | assumption | contradiction | omega) | ((fail_if_success (with_reducible show wpAny _ _ (PySem.execs (PySem.Stmt.Assign [PySem.Expr.Name (PySem.Str.ofString "due") _] _ _ :: _) _) _ _ _)); first | ((k_dflt ((with_reducible show wpAny _ _ (call (Value.ref 49) _) _ _ _); (rename Fr _ _ _ _ => F9q); (rename News _ _ _ _ => N9q); (refine c_lev (by (exact ⟨Frag.In.keeps (by assumption) (Fr.keep (by assumption)), ⟨_, _, _, _, _, Top.keeps (by assumption) (Fr.keep (by assumption))⟩, rfl, by (simp only [Around.deeper, Around.in1]; decide), by (simp only [Around.deeper, Around.in1]; decide)⟩)) (by with_reducible assumption) (by with_reducible assumption) (by with_reducible assumption) (by with_reducible assumption) ?_; intro _ _ _ k9q; (have F8q := Fr.keepsK F9q k9q); (have N8q := News.keepsK N9q k9q); clear F9q N9q k9q)))) | ((k_dflt ((with_reducible show wpAny _ _ (call (Value.ref 61) _) _ _ _); (rename Fr _ _ _ _ => F9q); (rename News _ _ _ _ => N9q); (refine c_word (by (exact ⟨Frag.In.keeps (by assumption) (Fr.keep (by assumption)), ⟨_, _, _, _, _, Top.keeps (by assumption) (Fr.keep (by assumption))⟩, rfl, by (simp only [Around.deeper, Around.in1]; decide), by (simp only [Around.deeper, Around.in1]; decide)⟩)) (by with_reducible assumption) (by with_reducible assumption) (by with_reducible assumption) (by with_reducible assumption) ?_; intro _ _ _ k9q; (have F8q := Fr.keepsK F9q k9q); (have N8q := News.keepsK N9q k9q); clear F9q N9q k9q)))) | (((with_reducible show wpAny _ _ (eval (Expr.Name _ _) (compEnvC _ _ _ _)) _ _ _); k_dflt (first | (refine blk_C (by assumption) (by rfl) (by k_mem) (by assumption) ?_ (by rfl) (by rfl) (by decide)) | (refine blk_L (by assumption) (by rfl) (by assumption) ?_ (by rfl) (by rfl) (by decide))))) | ((with_reducible show wpAny _ _ (compareOp CmpOp.NotEq (Value.bytes _ _) (Value.bytes _ _)) _ _ _); (k_dflt (refine ne_same ?_))) | ((k_dflt ((with_reducible show wpAny _ _ (call (Value.ref 21) _) _ _ _); (refine c_ap (by (exact ⟨Frag.In.keeps (by assumption) (Fr.keep (by assumption)), ⟨_, _, _, _, _, Top.keeps (by assumption) (Fr.keep (by assumption))⟩, rfl, by (simp only [Around.deeper, Around.in1]; decide), by (simp only [Around.deeper, Around.in1]; decide)⟩)) (by with_reducible assumption) (by with_reducible assumption) (by with_reducible assumption) (by with_reducible assumption) ?_; intro _ _ _ k9q; (rename Fr _ _ _ _ => F9q); (rename News _ _ _ _ => N9q); (have F8q := Fr.keepsK F9q k9q); (have N8q := News.keepsK N9q k9q); clear F9q N9q k9q)))) | ((k_dflt ((with_reducible show wpAny _ _ (call (Value.ref 56) _) _ _ _); (rename Fr _ _ _ _ => F9q); (rename News _ _ _ _ => N9q); (refine c_number (by (exact ⟨Frag.In.keeps (by assumption) (Fr.keep (by assumption)), ⟨_, _, _, _, _, Top.keeps (by assumption) (Fr.keep (by assumption))⟩, rfl, by (simp only [Around.deeper, Around.in1]; decide), by (simp only [Around.deeper, Around.in1]; decide)⟩)) (isList_news N9q (by k_memK)) (by with_reducible assumption) ?_; intro _ _ _ k9q; (have F8q := Fr.keepsK F9q k9q); (have N8q := News.keepsK N9q k9q); clear F9q N9q k9q)))) | ((k_dflt ((with_reducible show wpAny _ _ (call (Value.builtin "len") [Value.ref _]) _ _ _); (rename News _ _ _ _ => N9q); (refine len_news N9q (by k_memK) (by with_reducible assumption) (by omega) ?_)))) | ((k_dflt ((with_reducible show wpAny _ _ (call (Value.type _) [Value.ref _]) _ _ _); (refine list_range _ (by rfl) (by assumption) (by assumption) (by assumption) (by exact small_mine (by omega) (by omega) (by omega)) (by assumption) (by omega) ?_; intro _ _ _ _ _ _ l1q _ _; (try k_lt l1q))))) | ((k_dflt ((with_reducible show wpAny _ _ (call (Value.type _) [Value.int _ _, Value.int _ _]) _ _ _); (refine rng2 (by assumption) (by assumption) ?_); intro _ _ _ _ _ _ _ _ _))) | ((k_dflt ((with_reducible show wpAny _ _ (binaryOp _ (Value.int (_ + 1) _) (Value.int 4 _)) _ _ _); (refine div_q2 (by exact fmod4 _) ?_)))) | walk1 | (dsimp only; walk1) | (leave1; try dsimp only))))
        · rw [due_pos (by assumption)]
          refine' ExitW.here _ ?Fv1 ?Nv1 ?nv1 ?hpv1 trivial
          case Fv1 => assumption
          case Nv1 => assumption
          case hpv1 => ((repeat' (first | exact List.forall_mem_nil _ | (refine List.forall_mem_cons.mpr ⟨by with_unfolding_all rfl, ?_⟩))))
          case nv1 => ((repeat' (first | exact List.forall_mem_nil _ | (refine List.forall_mem_cons.mpr ⟨by k_memK, ?_⟩))))
        · rw [due_zero (by assumption)]
          refine' ExitW.here _ ?Fv2 ?Nv2 ?nv2 ?hpv2 trivial
          case Fv2 => assumption
          case Nv2 => assumption
          case hpv2 => ((repeat' (first | exact List.forall_mem_nil _ | (refine List.forall_mem_cons.mpr ⟨by with_unfolding_all rfl, ?_⟩))))
          case nv2 => ((repeat' (first | exact List.forall_mem_nil _ | (refine List.forall_mem_cons.mpr ⟨by k_memK, ?_⟩))))
        --}
      case v1d =>
        clear F4 N4
        rintro tdu u5 h5 tk5 - F4 N4
        try dsimp only at F4 N4 ⊢
        have hlv := lev_deck hnod hlen hd16 hx28
        rw [deckI_casts] at hio2
        rw [hpi] at hperm
        obtain ⟨hw1, hw2⟩ := deckD_facts hds hlen hperm
        obtain ⟨dd, hdd⟩ : ∃ dd, deckD ds (xorL x2) = dd := ⟨_, rfl⟩
        rw [hdd] at hio2 hlv hw1 hw2
        have hw3 := head_pos hw2
        have hw4 : ∀ x ∈ dd, x < 16 := fun x hx => (hw2 x hx).2
        have hw5 := num_minus dd
        have hw6 := num_minus ds
        have hw7 := letters hw4
        have hw8 := letters hd16
        have hw9 : (dd.map fun n => 65 + n).length ≤ 8 := by rw [List.length_map]; exact hw1
        have hw10 : (ds.map fun n => 65 + n).length ≤ 8 := by rw [List.length_map]; exact hdl8
        clear hlo hm2 hp2 hp28 hp2at hp2e hlen2 hdl2 hnd2 hP eP eF hx2 hx28 hw2 hnum
        (repeat' (first | (k_unfold; (try dsimp only)) | ((with_reducible show wpAny _ _ (PySem.exec (PySem.Stmt.Return (some (PySem.Expr.Constant (PySem.Const.bool false) _ _)) _) _) _ _ _); exfalso; first | assumption | contradiction | omega) | ((fail_if_success (with_reducible show wpAny _ _ (PySem.execs (PySem.Stmt.Assign [PySem.Expr.Name (PySem.Str.ofString "due") _] _ _ :: _) _) _ _ _)); first | ((k_dflt ((with_reducible show wpAny _ _ (call (Value.ref 49) _) _ _ _); (rename Fr _ _ _ _ => F9q); (rename News _ _ _ _ => N9q); (refine c_lev (by (exact ⟨Frag.In.keeps (by assumption) (Fr.keep (by assumption)), ⟨_, _, _, _, _, Top.keeps (by assumption) (Fr.keep (by assumption))⟩, rfl, by (simp only [Around.deeper, Around.in1]; decide), by (simp only [Around.deeper, Around.in1]; decide)⟩)) (by with_reducible assumption) (by with_reducible assumption) (by with_reducible assumption) (by with_reducible assumption) ?_; intro _ _ _ k9q; (have F8q := Fr.keepsK F9q k9q); (have N8q := News.keepsK N9q k9q); clear F9q N9q k9q)))) | ((k_dflt ((with_reducible show wpAny _ _ (call (Value.ref 61) _) _ _ _); (rename Fr _ _ _ _ => F9q); (rename News _ _ _ _ => N9q); (refine c_word (by (exact ⟨Frag.In.keeps (by assumption) (Fr.keep (by assumption)), ⟨_, _, _, _, _, Top.keeps (by assumption) (Fr.keep (by assumption))⟩, rfl, by (simp only [Around.deeper, Around.in1]; decide), by (simp only [Around.deeper, Around.in1]; decide)⟩)) (by with_reducible assumption) (by with_reducible assumption) (by with_reducible assumption) (by with_reducible assumption) ?_; intro _ _ _ k9q; (have F8q := Fr.keepsK F9q k9q); (have N8q := News.keepsK N9q k9q); clear F9q N9q k9q)))) | (((with_reducible show wpAny _ _ (eval (Expr.Name _ _) (compEnvC _ _ _ _)) _ _ _); k_dflt (first | (refine blk_C (by assumption) (by rfl) (by k_mem) (by assumption) ?_ (by rfl) (by rfl) (by decide)) | (refine blk_L (by assumption) (by rfl) (by assumption) ?_ (by rfl) (by rfl) (by decide))))) | ((with_reducible show wpAny _ _ (compareOp CmpOp.NotEq (Value.bytes _ _) (Value.bytes _ _)) _ _ _); (k_dflt (refine ne_same ?_))) | ((k_dflt ((with_reducible show wpAny _ _ (call (Value.ref 21) _) _ _ _); (refine c_ap (by (exact ⟨Frag.In.keeps (by assumption) (Fr.keep (by assumption)), ⟨_, _, _, _, _, Top.keeps (by assumption) (Fr.keep (by assumption))⟩, rfl, by (simp only [Around.deeper, Around.in1]; decide), by (simp only [Around.deeper, Around.in1]; decide)⟩)) (by with_reducible assumption) (by with_reducible assumption) (by with_reducible assumption) (by with_reducible assumption) ?_; intro _ _ _ k9q; (rename Fr _ _ _ _ => F9q); (rename News _ _ _ _ => N9q); (have F8q := Fr.keepsK F9q k9q); (have N8q := News.keepsK N9q k9q); clear F9q N9q k9q)))) | ((k_dflt ((with_reducible show wpAny _ _ (call (Value.ref 56) _) _ _ _); (rename Fr _ _ _ _ => F9q); (rename News _ _ _ _ => N9q); (refine c_number (by (exact ⟨Frag.In.keeps (by assumption) (Fr.keep (by assumption)), ⟨_, _, _, _, _, Top.keeps (by assumption) (Fr.keep (by assumption))⟩, rfl, by (simp only [Around.deeper, Around.in1]; decide), by (simp only [Around.deeper, Around.in1]; decide)⟩)) (isList_news N9q (by k_memK)) (by with_reducible assumption) ?_; intro _ _ _ k9q; (have F8q := Fr.keepsK F9q k9q); (have N8q := News.keepsK N9q k9q); clear F9q N9q k9q)))) | ((k_dflt ((with_reducible show wpAny _ _ (call (Value.builtin "len") [Value.ref _]) _ _ _); (rename News _ _ _ _ => N9q); (refine len_news N9q (by k_memK) (by with_reducible assumption) (by omega) ?_)))) | ((k_dflt ((with_reducible show wpAny _ _ (call (Value.type _) [Value.ref _]) _ _ _); (refine list_range _ (by rfl) (by assumption) (by assumption) (by assumption) (by exact small_mine (by omega) (by omega) (by omega)) (by assumption) (by omega) ?_; intro _ _ _ _ _ _ l1q _ _; (try k_lt l1q))))) | ((k_dflt ((with_reducible show wpAny _ _ (call (Value.type _) [Value.int _ _, Value.int _ _]) _ _ _); (refine rng2 (by assumption) (by assumption) ?_); intro _ _ _ _ _ _ _ _ _))) | ((k_dflt ((with_reducible show wpAny _ _ (binaryOp _ (Value.int (_ + 1) _) (Value.int 4 _)) _ _ _); (refine div_q2 (by exact fmod4 _) ?_)))) | walk1 | (dsimp only; walk1) | (leave1; try dsimp only))))
        refine' ExitW.here () ?Fv3 ?Nv3 ?nv3 ?hpv3 trivial
        case Fv3 => assumption
        case Nv3 => assumption
        case hpv3 => ((repeat' (first | exact List.forall_mem_nil _ | (refine List.forall_mem_cons.mpr ⟨by with_unfolding_all rfl, ?_⟩))))
        case nv3 => ((repeat' (first | exact List.forall_mem_nil _ | (refine List.forall_mem_cons.mpr ⟨by k_memK, ?_⟩))))
    · refine' ExitW.here () ?Fu11 ?Nu11 ?nu11 ?hpu11 trivial
      case Fu11 => assumption
      case Nu11 => assumption
      case hpu11 => ((repeat' (first | exact List.forall_mem_nil _ | (refine List.forall_mem_cons.mpr ⟨by with_unfolding_all rfl, ?_⟩))))
      case nu11 => ((repeat' (first | exact List.forall_mem_nil _ | (refine List.forall_mem_cons.mpr ⟨by k_memK, ?_⟩))))
  case u11d =>
  clear F4 N4
  rintro - u5 h5 tk5 - F4 N4
  try dsimp only at F4 N4 ⊢
  (repeat' (first | (k_unfold; (try dsimp only)) | ((with_reducible show wpAny _ _ (PySem.exec (PySem.Stmt.Return (some (PySem.Expr.Constant (PySem.Const.bool false) _ _)) _) _) _ _ _); exfalso; first | assumption | contradiction | omega) | ((fail_if_success (with_reducible show wpAny _ _ (PySem.execs (PySem.Stmt.Assign [PySem.Expr.Name (PySem.Str.ofString "due") _] _ _ :: _) _) _ _ _)); first | ((k_dflt ((with_reducible show wpAny _ _ (call (Value.ref 49) _) _ _ _); (rename Fr _ _ _ _ => F9q); (rename News _ _ _ _ => N9q); (refine c_lev (by (exact ⟨Frag.In.keeps (by assumption) (Fr.keep (by assumption)), ⟨_, _, _, _, _, Top.keeps (by assumption) (Fr.keep (by assumption))⟩, rfl, by (simp only [Around.deeper, Around.in1]; decide), by (simp only [Around.deeper, Around.in1]; decide)⟩)) (by with_reducible assumption) (by with_reducible assumption) (by with_reducible assumption) (by with_reducible assumption) ?_; intro _ _ _ k9q; (have F8q := Fr.keepsK F9q k9q); (have N8q := News.keepsK N9q k9q); clear F9q N9q k9q)))) | ((k_dflt ((with_reducible show wpAny _ _ (call (Value.ref 61) _) _ _ _); (rename Fr _ _ _ _ => F9q); (rename News _ _ _ _ => N9q); (refine c_word (by (exact ⟨Frag.In.keeps (by assumption) (Fr.keep (by assumption)), ⟨_, _, _, _, _, Top.keeps (by assumption) (Fr.keep (by assumption))⟩, rfl, by (simp only [Around.deeper, Around.in1]; decide), by (simp only [Around.deeper, Around.in1]; decide)⟩)) (by with_reducible assumption) (by with_reducible assumption) (by with_reducible assumption) (by with_reducible assumption) ?_; intro _ _ _ k9q; (have F8q := Fr.keepsK F9q k9q); (have N8q := News.keepsK N9q k9q); clear F9q N9q k9q)))) | (((with_reducible show wpAny _ _ (eval (Expr.Name _ _) (compEnvC _ _ _ _)) _ _ _); k_dflt (first | (refine blk_C (by assumption) (by rfl) (by k_mem) (by assumption) ?_ (by rfl) (by rfl) (by decide)) | (refine blk_L (by assumption) (by rfl) (by assumption) ?_ (by rfl) (by rfl) (by decide))))) | ((with_reducible show wpAny _ _ (compareOp CmpOp.NotEq (Value.bytes _ _) (Value.bytes _ _)) _ _ _); (k_dflt (refine ne_same ?_))) | ((k_dflt ((with_reducible show wpAny _ _ (call (Value.ref 21) _) _ _ _); (refine c_ap (by (exact ⟨Frag.In.keeps (by assumption) (Fr.keep (by assumption)), ⟨_, _, _, _, _, Top.keeps (by assumption) (Fr.keep (by assumption))⟩, rfl, by (simp only [Around.deeper, Around.in1]; decide), by (simp only [Around.deeper, Around.in1]; decide)⟩)) (by with_reducible assumption) (by with_reducible assumption) (by with_reducible assumption) (by with_reducible assumption) ?_; intro _ _ _ k9q; (rename Fr _ _ _ _ => F9q); (rename News _ _ _ _ => N9q); (have F8q := Fr.keepsK F9q k9q); (have N8q := News.keepsK N9q k9q); clear F9q N9q k9q)))) | ((k_dflt ((with_reducible show wpAny _ _ (call (Value.ref 56) _) _ _ _); (rename Fr _ _ _ _ => F9q); (rename News _ _ _ _ => N9q); (refine c_number (by (exact ⟨Frag.In.keeps (by assumption) (Fr.keep (by assumption)), ⟨_, _, _, _, _, Top.keeps (by assumption) (Fr.keep (by assumption))⟩, rfl, by (simp only [Around.deeper, Around.in1]; decide), by (simp only [Around.deeper, Around.in1]; decide)⟩)) (isList_news N9q (by k_memK)) (by with_reducible assumption) ?_; intro _ _ _ k9q; (have F8q := Fr.keepsK F9q k9q); (have N8q := News.keepsK N9q k9q); clear F9q N9q k9q)))) | ((k_dflt ((with_reducible show wpAny _ _ (call (Value.builtin "len") [Value.ref _]) _ _ _); (rename News _ _ _ _ => N9q); (refine len_news N9q (by k_memK) (by with_reducible assumption) (by omega) ?_)))) | ((k_dflt ((with_reducible show wpAny _ _ (call (Value.type _) [Value.ref _]) _ _ _); (refine list_range _ (by rfl) (by assumption) (by assumption) (by assumption) (by exact small_mine (by omega) (by omega) (by omega)) (by assumption) (by omega) ?_; intro _ _ _ _ _ _ l1q _ _; (try k_lt l1q))))) | ((k_dflt ((with_reducible show wpAny _ _ (call (Value.type _) [Value.int _ _, Value.int _ _]) _ _ _); (refine rng2 (by assumption) (by assumption) ?_); intro _ _ _ _ _ _ _ _ _))) | ((k_dflt ((with_reducible show wpAny _ _ (binaryOp _ (Value.int (_ + 1) _) (Value.int 4 _)) _ _ _); (refine div_q2 (by exact fmod4 _) ?_)))) | walk1 | (dsimp only; walk1) | (leave1; try dsimp only))))
  refine' TurnP.next2 ⟨o7, lo, vo, ko, p2, tp2, x2, tx2⟩ F4 N4 ?nT ?cT ?hpT ?PT
  case hpT => ((repeat' (first | exact List.forall_mem_nil _ | (refine List.forall_mem_cons.mpr ⟨by with_unfolding_all rfl, ?_⟩))))
  case nT => ((repeat' (first | exact List.forall_mem_nil _ | (refine List.forall_mem_cons.mpr ⟨by k_memK, ?_⟩))))
  case cT => exact List.forall_mem_cons.mpr ⟨hIo, List.forall_mem_cons.mpr ⟨hloI, List.forall_mem_nil _⟩⟩
  case PT => exact ⟨hd7, hio2, hp2.symm, hx2.symm, hlo⟩)
end Mine
end
open PySem PySem.W PyProof.Rows
set_option maxRecDepth 100000 in
set_option maxHeartbeats 8000000 in
theorem PySem.Challenge.cw_sc0035_02_holds : PySem.Challenge.rw_sc0035_02.Holds := by
  exact Mine.lawY
