import PyProof.Rows.All
import Wide.All
import OpenK.AllK
import Wide.FinOn
import PySem.Challenge.RW_xq0002_04
open PySem PySem.W PyProof.Rows PySem.Calls
set_option Elab.async false
set_option maxRecDepth 100000
set_option maxHeartbeats 8000000
set_option rowWalk.seconds 0
namespace Mine
section
/-- a goal set aside for the hand -/
def Stop (P : Prop) : Prop := P
theorem Stop.of {P : Prop} (h : Stop P) : P := h
theorem Stop.to {P : Prop} (h : P) : Stop P := h
/-- a contract: from every state in which the ledger is `news` the tree `t` comes back by `R` -/
def Sp {α : Type} (prog : Program) (w : World) (K : Frag) (p : Program) (loose : List Str) (mean : ExcName → Option Value) (mg mb : Str → Option Value) (D U : Nat) (t : Sem α) (news : List (Addr × Obj)) (Pre : Heap → Prop)
    (R : Heap → Addr → (Str → Option Value) → Shared → (α → Shared → Prop) → Prop) : Prop :=
  ∀ (dp un : Nat) (gd : Option (List Code)) (cn : Str) (cs : Scope) (a : Addr) (ccd : Value) (cl : List (Str × Addr)) (outer : List Env) (A₀ : Around) (base h₀ : Heap) (L : Addr) (m : Str → Option Value) (s : Shared) (Q : α → Shared → Prop) (E : Value → Shared → Prop),
    Below A₀ base outer h₀ → Fr h₀ L s.heap m → K.In h₀ → News h₀ L s.heap news → Top p loose mean mg mb h₀ → cs.kind = .function → dp + D < recursionLimit → un + U < cLine → Pre base → R h₀ L m s Q →
    wpAny (model prog w) (ktrTop dp un gd cn cs L a ccd cl outer) t Q E s

def RInt (v : Int) (news : List (Addr × Obj)) (h₀ : Heap) (L : Addr) (m : Str → Option Value) (s : Shared) (Q : Value → Shared → Prop) : Prop :=
  ∀ t h' tk', Fr h₀ L h' m → News h₀ L h' news → Q (.int v t) { s with heap := h', toks := tk' }
def RBool (v : Bool) (news : List (Addr × Obj)) (h₀ : Heap) (L : Addr) (m : Str → Option Value) (s : Shared) (Q : Value → Shared → Prop) : Prop :=
  ∀ h' tk', Fr h₀ L h' m → News h₀ L h' news → Q (.bool v) { s with heap := h', toks := tk' }

theorem Sp.use {α : Type} {prog : Program} {w : World} {K : Frag} {p : Program} {loose : List Str} {mean : ExcName → Option Value} {mg mb : Str → Option Value} {D U : Nat} {t : Sem α} {news : List (Addr × Obj)} {Pre : Heap → Prop}
    {R : Heap → Addr → (Str → Option Value) → Shared → (α → Shared → Prop) → Prop} (h : Sp prog w K p loose mean mg mb D U t news Pre R)
    {dp un : Nat} {gd : Option (List Code)} {cn : Str} {cs : Scope} {a : Addr} {ccd : Value} {cl : List (Str × Addr)} {outer : List Env} {A₀ : Around} {base h₀ : Heap} {L : Addr} {m : Str → Option Value} {s : Shared} {Q : α → Shared → Prop} {E : Value → Shared → Prop}
    (B : Below A₀ base outer h₀) (F : Fr h₀ L s.heap m) (X : K.In h₀) (N : News h₀ L s.heap news) (T : Top p loose mean mg mb h₀) (hk : cs.kind = .function) (hd : dp + D < recursionLimit) (hu : un + U < cLine) (hp : Pre base) (hr : R h₀ L m s Q) :
    wpAny (model prog w) (ktrTop dp un gd cn cs L a ccd cl outer) t Q E s := h _ _ _ _ _ _ _ _ _ _ _ _ _ _ _ _ _ B F X N T hk hd hu hp hr

section
variable {prog : Program} {w : World} {A : Around} {E : Value → Shared → Prop} {s : Shared} {env : Env} {h₀ : Heap} {x : Str} {body : List Stmt} {Q : Flow → Shared → Prop}

/-- the end of a turn: the state's datum is some `c` again -/
def LpEnd {σ : Type} (Led : σ → List (Addr × Obj)) (Ps : σ → List (Str × Value)) (Inv : σ → Prop) (stored : List Str) (x : Str) (m₀ : Str → Option Value) (h₀ : Heap) (L I : Addr) (it : Obj) (s₁ s₂ : Shared) : Prop :=
  ∃ c h' tk m' news', s₂ = { s₁ with heap := h', toks := tk } ∧ Fr h₀ L h' m' ∧ News h₀ L h' news' ∧ (∀ p ∈ Led c, p ∈ news') ∧ (I, it) ∈ news' ∧ (∀ p ∈ Led c, p.1 ≠ I) ∧ (∀ p ∈ Ps c, m' p.1 = some p.2) ∧
    (∀ z, z ≠ x → stored.contains z = false → m' z = m₀ z) ∧ Inv c
def LpPost {σ : Type} (Led : σ → List (Addr × Obj)) (Ps : σ → List (Str × Value)) (Inv : σ → Prop) (stored : List Str) (x : Str) (m₀ : Str → Option Value) (h₀ : Heap) (L I : Addr) (it : Obj) (s₁ : Shared) (Q : Flow → Shared → Prop) (f : Flow) (s₂ : Shared) : Prop :=
  match f with
  | .ret v => Q (.ret v) s₂
  | .brk => Q .next s₂
  | _ => LpEnd Led Ps Inv stored x m₀ h₀ L I it s₁ s₂
theorem lp_end {σ : Type} {Led : σ → List (Addr × Obj)} {Ps : σ → List (Str × Value)} {Inv : σ → Prop} {stored : List Str} {m₀ m' : Str → Option Value} {L I : Addr} {it : Obj} {s₁ : Shared} {h' : Heap} {tk : Nat} {news' : List (Addr × Obj)} (c : σ)
    (F : Fr h₀ L h' m') (N : News h₀ L h' news') (hin : ∀ p ∈ Led c, p ∈ news') (hI : (I, it) ∈ news') (hne : ∀ p ∈ Led c, p.1 ≠ I) (hps : ∀ p ∈ Ps c, m' p.1 = some p.2) (hs : ∀ z, z ≠ x → stored.contains z = false → m' z = m₀ z) (hi : Inv c) :
    LpEnd Led Ps Inv stored x m₀ h₀ L I it s₁ { s₁ with heap := h', toks := tk } := ⟨c, h', tk, m', news', rfl, F, N, hin, hI, hne, hps, hs, hi⟩

theorem lp_core {σ : Type} {I : Addr} {fp : List Addr} {n : Nat} {P : Nat → Value → Prop} {St : Nat → Heap → Prop} {m₀ : Str → Option Value} (Led : σ → List (Addr × Obj)) (Ps : σ → List (Str × Value)) (Inv : Nat → σ → Prop) (stored : List Str) (c₀ : σ) (lo : Addr → Obj)
    (W : Walks prog w A I fp [I] n P St) (live : ∀ i h, St i h → ∃ o, h.get? I = some o) (hLf : env.locals ∉ fp) (hI : h₀.get? I = none) (hst : St 0 s.heap) (hne : ∀ p ∈ Led c₀, p.1 ≠ I)
    (hown : ∀ i c, Inv i c → ∀ b ∈ fp, b ≠ I → h₀.get? b = none → (b, lo b) ∈ Led c)
    (F : Fr h₀ env.locals s.heap m₀) (N : News h₀ env.locals s.heap (Led c₀)) (hps : ∀ p ∈ Ps c₀, m₀ p.1 = some p.2) (h0 : Inv 0 c₀)
    (turn : ∀ i v c (u : Str → Option Value) h tk it, i < n → P i v → Inv i c → (∀ p ∈ Led c, p.1 ≠ I) →
      Fr h₀ env.locals h (fun y => if y = x then some v else kstB (fun z => if stored.contains z then u z else m₀ z) (Ps c) y) → News h₀ env.locals h ((I, it) :: Led c) →
      wpAny (model prog w) A (execs body env) (LpPost Led Ps (Inv (i + 1)) stored x m₀ h₀ env.locals I it { s with heap := h, toks := tk } Q) E { s with heap := h, toks := tk })
    (done : ∀ c (u : Str → Option Value) h tk, Inv n c → (∀ p ∈ Led c, p.1 ≠ I) → Fr h₀ env.locals h (fun y => if y = x then u y else kstB (fun z => if stored.contains z then u z else m₀ z) (Ps c) y) → News h₀ env.locals h (Led c) → Q .next { s with heap := h, toks := tk }) :
    LoopAtV prog w A h₀ env x body Q E (.ref I) s := by
  refine ⟨I, fp, [I], n, P, St, m₀, Led c₀, fun i m nx => ∃ c, nx = Led c ∧ (∀ p ∈ Ps c, m p.1 = some p.2) ∧ (∀ z, z ≠ x → stored.contains z = false → m z = m₀ z) ∧ Inv i c, rfl, W, hLf, ?_, ?_, hst, F, N, ⟨c₀, rfl, hps, fun _ _ _ => rfl, h0⟩, ?_, ?_⟩
  · intro b hb; rw [List.mem_singleton.mp hb]; exact hI
  · intro p hp hq; exact hne p hp (List.mem_singleton.mp hq)
  · rintro i v m₁ news₁ s₁ own ⟨hh', tk', rfl⟩ hin hP ⟨c, rfl, hps', hsm, hinv⟩ hoff hof hown1 hown2 hst' F₁ N₁
    obtain ⟨it, hit⟩ := live _ _ hst'
    have hIo : (I, it) ∈ own := hown2 I (W.sub I (List.mem_singleton.mpr rfl)) hI it hit
    have N₂ : News h₀ env.locals hh' ((I, it) :: Led c) := fun p hp => (List.mem_cons.mp hp).elim (fun e => e ▸ N₁ _ (List.mem_append.mpr (.inl hIo))) fun h => N₁ p (List.mem_append.mpr (.inr h))
    have hne' : ∀ p ∈ Led c, p.1 ≠ I := fun p hp e => hoff p hp (e ▸ List.mem_singleton.mpr rfl)
    refine wpAny_mono (turn i v c m₁ hh' tk' it hin hP hinv hne' (kst_fr hps' (fun z h1 _ h3 => hsm z h1 h3) F₁) N₂) (fun f s₂ p => ?_) fun _ _ e => e
    have fin : LpEnd Led Ps (Inv (i + 1)) stored x m₀ h₀ env.locals I it { s with heap := hh', toks := tk' } s₂ → LoopStepU h₀ env.locals [I] own (fun m nx => ∃ c, nx = Led c ∧ (∀ p ∈ Ps c, m p.1 = some p.2) ∧ (∀ z, z ≠ x → stored.contains z = false → m z = m₀ z) ∧ Inv (i + 1) c) { s with heap := hh', toks := tk' } .next s₂ := by
      rintro ⟨c', h', tk, m', news', e, F', N', hn, hI', hne'', hp', hs', hi'⟩
      refine ⟨rfl, h', tk, m', Led c', e, F', fun p hp => ?_, fun p hp hq => hne'' p hp (List.mem_singleton.mp hq), c', rfl, hp', hs', hi'⟩
      rcases List.mem_append.mp hp with h | h
      · have hg := hown1 p h
        by_cases e1 : p.1 = I
        · have : p = (I, it) := by
            obtain ⟨p1, p2⟩ := p
            simp only at e1 hg; subst e1
            have e2 : some p2 = some it := hg.symm.trans hit
            rw [Option.some.inj e2]
          exact this ▸ N' _ hI'
        · have h3 : h₀.get? p.1 = none := (N₁ p (List.mem_append.mpr (.inl h))).2.2
          have h4 := hown _ _ hinv p.1 (hof p h) e1 h3
          have h5 := hown _ _ hi' p.1 (hof p h) e1 h3
          have h6 := (N₂ _ (List.mem_cons_of_mem _ h4)).1
          have : p = (p.1, lo p.1) := by
            obtain ⟨p1, p2⟩ := p
            have e2 : some p2 = some (lo p1) := hg.symm.trans h6
            rw [Option.some.inj e2]
          exact this ▸ N' _ (hn _ h5)
      · exact N' p (hn p h)
    cases f with
    | ret v => exact .ret p
    | brk => exact .brk p
    | next => exact .next (fin p)
    | cont => exact .cont (fin p)
  · rintro h' tk m' news' F' N' hoff ⟨c, rfl, hp', hs', hi'⟩
    exact done c m' h' tk hi' (fun p hp e => hoff p hp (e ▸ List.mem_singleton.mpr rfl)) (kst_frOut hp' (fun z h1 _ h3 => hs' z h1 h3) F') N'

/-- a loop over a range by ones -/
theorem lp_range {σ : Type} {r : Addr} {a₀ b₀ : Int} {t₀ u₀ v₀ : Tok} {m₀ : Str → Option Value} (n : Nat) (Led : σ → List (Addr × Obj)) (Ps : σ → List (Str × Value)) (Inv : Nat → σ → Prop) (stored : List Str) (c₀ : σ)
    (hh : A.handled = none) (hr : IsRange s.heap r a₀ b₀ 1 t₀ u₀ v₀) (hsmall : Builtin.Range.small a₀ b₀ 1 = true) (hn : Builtin.Range.rangeSize a₀ b₀ 1 = (n : Int))
    (F : Fr h₀ env.locals s.heap m₀) (N : News h₀ env.locals s.heap (Led c₀)) (hps : ∀ p ∈ Ps c₀, m₀ p.1 = some p.2) (h0 : Inv 0 c₀)
    (turn : ∀ I (i : Nat) t c (u : Str → Option Value) h tk it, i < n → Inv i c → (∀ p ∈ Led c, p.1 ≠ I) →
      Fr h₀ env.locals h (fun y => if y = x then some (.int (a₀ + (i : Int)) t) else kstB (fun z => if stored.contains z then u z else m₀ z) (Ps c) y) → News h₀ env.locals h ((I, it) :: Led c) →
      wpAny (model prog w) A (execs body env) (LpPost Led Ps (Inv (i + 1)) stored x m₀ h₀ env.locals I it { s with heap := h, toks := tk } Q) E { s with heap := h, toks := tk })
    (done : ∀ c (u : Str → Option Value) h tk, Inv n c → Fr h₀ env.locals h (fun y => if y = x then u y else kstB (fun z => if stored.contains z then u z else m₀ z) (Ps c) y) → News h₀ env.locals h (Led c) → Q .next { s with heap := h, toks := tk }) :
    wpAny (model prog w) A (pyIter (.ref r)) (fun it s₂ => LoopAtV prog w A h₀ env x body Q E it s₂) E s := by
  refine wpAny_pyIter_range hr hsmall ?_
  have W : Walks prog w A s.heap.objs.size [s.heap.objs.size] [s.heap.objs.size] n (fun i v => ∃ t, v = .int (a₀ + i * 1) t)
      (fun i h => IsRangeIter h s.heap.objs.size (a₀ + (i : Nat) * 1) ((n : Int) - (i : Nat)) 1) := Walks.range hh _ a₀ 1 n
  refine lp_core Led Ps Inv stored c₀ (fun _ => { cls := .type "list", data := .seq #[] }) W (fun i h st => ⟨_, st⟩) ?_ ?_ ?_ ?_ ?_ (F.push _) (fun p hp => ⟨Heap.get?_push_of_some _ (N p hp).1, (N p hp).2⟩) hps h0 ?_ ?_
  · intro hm; exact absurd F.ns.lt ((List.mem_singleton.mp hm) ▸ Nat.lt_irrefl _)
  · exact next_is_new F
  · show IsRangeIter _ _ _ _ _; rw [hn]; simpa using Heap.get?_push_size _ rfl
  · intro p hp e; exact absurd (Heap.lt_size (N p hp).1) (e ▸ Nat.lt_irrefl _)
  · intro i c _ b hb hne; exact absurd (List.mem_singleton.mp hb) hne
  · rintro i v c u h tk it hi ⟨t, rfl⟩ hinv hne F₁ N₁
    have e1 : a₀ + (i : Int) * 1 = a₀ + (i : Int) := by omega
    rw [e1] at F₁
    exact turn _ i t c u h tk it hi hinv hne F₁ N₁
  · intro c u h tk hinv _ F₁ N₁
    exact done c u h tk hinv F₁ N₁

/-- a loop over a list: of the base (`hl0`) or of the ledger, where it stays as it is (`hlL`) -/
theorem lp_list {σ : Type} {l : Addr} {lo : Obj} {m₀ : Str → Option Value} (vs : List Value) (Led : σ → List (Addr × Obj)) (Ps : σ → List (Str × Value)) (Inv : Nat → σ → Prop) (stored : List Str) (c₀ : σ)
    (hh : A.handled = none) (hl : s.heap.IsList l vs.toArray) (hlL : h₀.get? l = none → ∀ i c, Inv i c → (l, lo) ∈ Led c) (hl0 : l ≠ env.locals)
    (F : Fr h₀ env.locals s.heap m₀) (N : News h₀ env.locals s.heap (Led c₀)) (hps : ∀ p ∈ Ps c₀, m₀ p.1 = some p.2) (h0 : Inv 0 c₀)
    (turn : ∀ I (i : Nat) v c (u : Str → Option Value) h tk it, vs[i]? = some v → Inv i c → (∀ p ∈ Led c, p.1 ≠ I) →
      Fr h₀ env.locals h (fun y => if y = x then some v else kstB (fun z => if stored.contains z then u z else m₀ z) (Ps c) y) → News h₀ env.locals h ((I, it) :: Led c) →
      wpAny (model prog w) A (execs body env) (LpPost Led Ps (Inv (i + 1)) stored x m₀ h₀ env.locals I it { s with heap := h, toks := tk } Q) E { s with heap := h, toks := tk })
    (done : ∀ c (u : Str → Option Value) h tk, Inv vs.length c → Fr h₀ env.locals h (fun y => if y = x then u y else kstB (fun z => if stored.contains z then u z else m₀ z) (Ps c) y) → News h₀ env.locals h (Led c) → Q .next { s with heap := h, toks := tk }) :
    wpAny (model prog w) A (pyIter (.ref l)) (fun it s₂ => LoopAtV prog w A h₀ env x body Q E it s₂) E s := by
  obtain ⟨ol, hol, hol'⟩ := id hl
  have hne : l ≠ s.heap.objs.size := Nat.ne_of_lt (Heap.lt_size hol)
  refine wpAny_pyIter_list hl ?_
  have W := Walks.list (prog := prog) (w := w) hh s.heap.objs.size l hne vs.toArray
  have hlen : vs.toArray.size = vs.length := by simp
  rw [hlen] at W
  refine lp_core Led Ps Inv stored c₀ (fun _ => lo) W (fun i h st => ?_) ?_ ?_ ?_ ?_ ?_ (F.push _) (fun p hp => ⟨Heap.get?_push_of_some _ (N p hp).1, (N p hp).2⟩) hps h0 ?_ ?_
  · obtain ⟨⟨o, ho, _⟩, _⟩ := st; exact ⟨o, ho⟩
  · intro hm
    rcases List.mem_cons.mp hm with e | hm
    · exact absurd F.ns.lt (e ▸ Nat.lt_irrefl _)
    · exact hl0 (List.mem_singleton.mp hm).symm
  · exact next_is_new F
  · exact ⟨⟨_, Heap.get?_push_size _ rfl, rfl, rfl⟩, hl.at fun o e => Heap.get?_push_of_some _ e⟩
  · intro p hp e; exact absurd (Heap.lt_size (N p hp).1) (e ▸ Nat.lt_irrefl _)
  · intro i c hc b hb hne h0
    rcases List.mem_cons.mp hb with e | hb
    · exact absurd e hne
    · rw [List.mem_singleton.mp hb] at h0 ⊢
      exact hlL h0 i c hc
  · rintro i v c u h tk it hi hP hinv hne F₁ N₁
    exact turn _ i v c u h tk it (by simpa using hP) hinv hne F₁ N₁
  · intro c u h tk hinv _ F₁ N₁
    exact done c u h tk hinv F₁ N₁

/-- the loops whose turns keep nothing -/
theorem lp_range0 {r : Addr} {a₀ b₀ : Int} {t₀ u₀ v₀ : Tok} {m₀ : Str → Option Value} {led : List (Addr × Obj)} (n : Nat) (stored : List Str)
    (hh : A.handled = none) (hr : IsRange s.heap r a₀ b₀ 1 t₀ u₀ v₀) (hsmall : Builtin.Range.small a₀ b₀ 1 = true) (hn : Builtin.Range.rangeSize a₀ b₀ 1 = (n : Int))
    (F : Fr h₀ env.locals s.heap m₀) (N : News h₀ env.locals s.heap led)
    (turn : ∀ I (i : Nat) t (u : Str → Option Value) h tk it, i < n → (∀ p ∈ led, p.1 ≠ I) →
      Fr h₀ env.locals h (fun y => if y = x then some (.int (a₀ + (i : Int)) t) else if stored.contains y then u y else m₀ y) → News h₀ env.locals h ((I, it) :: led) →
      wpAny (model prog w) A (execs body env) (LpPost (σ := Unit) (fun _ => led) (fun _ => []) (fun _ => True) stored x m₀ h₀ env.locals I it { s with heap := h, toks := tk } Q) E { s with heap := h, toks := tk })
    (done : ∀ (u : Str → Option Value) h tk, Fr h₀ env.locals h (fun y => if y = x then u y else if stored.contains y then u y else m₀ y) → News h₀ env.locals h led → Q .next { s with heap := h, toks := tk }) :
    wpAny (model prog w) A (pyIter (.ref r)) (fun it s₂ => LoopAtV prog w A h₀ env x body Q E it s₂) E s :=
  lp_range (σ := Unit) n (fun _ => led) (fun _ => []) (fun _ _ => True) stored () hh hr hsmall hn F N (List.forall_mem_nil _) trivial
    (fun I i t _ u h tk it hi _ hne F N => turn I i t u h tk it hi hne F N) (fun _ u h tk _ F N => done u h tk F N)
theorem lp_rangeP {r : Addr} {a₀ b₀ : Int} {t₀ u₀ v₀ : Tok} {m₀ : Str → Option Value} {led : List (Addr × Obj)} (n : Nat) (stored : List Str) (Inv : Nat → Prop)
    (hh : A.handled = none) (hr : IsRange s.heap r a₀ b₀ 1 t₀ u₀ v₀) (hsmall : Builtin.Range.small a₀ b₀ 1 = true) (hn : Builtin.Range.rangeSize a₀ b₀ 1 = (n : Int))
    (F : Fr h₀ env.locals s.heap m₀) (N : News h₀ env.locals s.heap led) (h0 : Inv 0)
    (turn : ∀ I (i : Nat) t (u : Str → Option Value) h tk it, i < n → Inv i → (∀ p ∈ led, p.1 ≠ I) →
      Fr h₀ env.locals h (fun y => if y = x then some (.int (a₀ + (i : Int)) t) else if stored.contains y then u y else m₀ y) → News h₀ env.locals h ((I, it) :: led) →
      wpAny (model prog w) A (execs body env) (LpPost (σ := Unit) (fun _ => led) (fun _ => []) (fun _ => Inv (i + 1)) stored x m₀ h₀ env.locals I it { s with heap := h, toks := tk } Q) E { s with heap := h, toks := tk })
    (done : ∀ (u : Str → Option Value) h tk, Inv n → Fr h₀ env.locals h (fun y => if y = x then u y else if stored.contains y then u y else m₀ y) → News h₀ env.locals h led → Q .next { s with heap := h, toks := tk }) :
    wpAny (model prog w) A (pyIter (.ref r)) (fun it s₂ => LoopAtV prog w A h₀ env x body Q E it s₂) E s :=
  lp_range (σ := Unit) n (fun _ => led) (fun _ => []) (fun i _ => Inv i) stored () hh hr hsmall hn F N (List.forall_mem_nil _) h0
    (fun I i t _ u h tk it hi hI hne F N => turn I i t u h tk it hi hI hne F N) (fun _ u h tk hI F N => done u h tk hI F N)
theorem lp_list0 {l : Addr} {lo : Obj} {m₀ : Str → Option Value} {led : List (Addr × Obj)} {vs : List Value} (stored : List Str)
    (hh : A.handled = none) (hl : s.heap.IsList l vs.toArray) (hlL : h₀.get? l = none → (l, lo) ∈ led) (hl0 : l ≠ env.locals)
    (F : Fr h₀ env.locals s.heap m₀) (N : News h₀ env.locals s.heap led)
    (turn : ∀ I (i : Nat) v (u : Str → Option Value) h tk it, vs[i]? = some v → (∀ p ∈ led, p.1 ≠ I) →
      Fr h₀ env.locals h (fun y => if y = x then some v else if stored.contains y then u y else m₀ y) → News h₀ env.locals h ((I, it) :: led) →
      wpAny (model prog w) A (execs body env) (LpPost (σ := Unit) (fun _ => led) (fun _ => []) (fun _ => True) stored x m₀ h₀ env.locals I it { s with heap := h, toks := tk } Q) E { s with heap := h, toks := tk })
    (done : ∀ (u : Str → Option Value) h tk, Fr h₀ env.locals h (fun y => if y = x then u y else if stored.contains y then u y else m₀ y) → News h₀ env.locals h led → Q .next { s with heap := h, toks := tk }) :
    wpAny (model prog w) A (pyIter (.ref l)) (fun it s₂ => LoopAtV prog w A h₀ env x body Q E it s₂) E s :=
  lp_list (σ := Unit) (lo := lo) vs (fun _ => led) (fun _ => []) (fun _ _ => True) stored () hh hl (fun h _ _ _ => hlL h) hl0 F N (List.forall_mem_nil _) trivial
    (fun I i v _ u h tk it hi _ hne F N => turn I i v u h tk it hi hne F N) (fun _ u h tk _ F N => done u h tk F N)
/-- a loop over a list of the ledger, by what holds of the turn's number -/
theorem lp_listP {l : Addr} {k : Nat} {m₀ : Str → Option Value} {led : List (Addr × Obj)} {vs : List Value} (stored : List Str) (Inv : Nat → Prop)
    (hh : A.handled = none) (hm : (l, listOf vs.toArray k) ∈ led)
    (F : Fr h₀ env.locals s.heap m₀) (N : News h₀ env.locals s.heap led) (h0 : Inv 0)
    (turn : ∀ I (i : Nat) v (u : Str → Option Value) h tk it, vs[i]? = some v → Inv i → (∀ p ∈ led, p.1 ≠ I) →
      Fr h₀ env.locals h (fun y => if y = x then some v else if stored.contains y then u y else m₀ y) → News h₀ env.locals h ((I, it) :: led) →
      wpAny (model prog w) A (execs body env) (LpPost (σ := Unit) (fun _ => led) (fun _ => []) (fun _ => Inv (i + 1)) stored x m₀ h₀ env.locals I it { s with heap := h, toks := tk } Q) E { s with heap := h, toks := tk })
    (done : ∀ (u : Str → Option Value) h tk, Inv vs.length → Fr h₀ env.locals h (fun y => if y = x then u y else if stored.contains y then u y else m₀ y) → News h₀ env.locals h led → Q .next { s with heap := h, toks := tk }) :
    wpAny (model prog w) A (pyIter (.ref l)) (fun it s₂ => LoopAtV prog w A h₀ env x body Q E it s₂) E s :=
  lp_list (σ := Unit) (lo := listOf vs.toArray k) vs (fun _ => led) (fun _ => []) (fun i _ => Inv i) stored () hh ⟨_, (N _ hm).1, rfl, k, rfl⟩ (fun _ _ _ _ => hm) (N _ hm).2.1 F N (List.forall_mem_nil _) h0
    (fun I i v _ u h tk it hi hI hne F N => turn I i v u h tk it hi hI hne F N) (fun _ u h tk hI F N => done u h tk hI F N)
/-- a loop over a list of the ledger -/
theorem lp_listL {l : Addr} {k : Nat} {m₀ : Str → Option Value} {led : List (Addr × Obj)} {vs : List Value} (stored : List Str)
    (hh : A.handled = none) (hm : (l, listOf vs.toArray k) ∈ led)
    (F : Fr h₀ env.locals s.heap m₀) (N : News h₀ env.locals s.heap led)
    (turn : ∀ I (i : Nat) v (u : Str → Option Value) h tk it, vs[i]? = some v → (∀ p ∈ led, p.1 ≠ I) →
      Fr h₀ env.locals h (fun y => if y = x then some v else if stored.contains y then u y else m₀ y) → News h₀ env.locals h ((I, it) :: led) →
      wpAny (model prog w) A (execs body env) (LpPost (σ := Unit) (fun _ => led) (fun _ => []) (fun _ => True) stored x m₀ h₀ env.locals I it { s with heap := h, toks := tk } Q) E { s with heap := h, toks := tk })
    (done : ∀ (u : Str → Option Value) h tk, Fr h₀ env.locals h (fun y => if y = x then u y else if stored.contains y then u y else m₀ y) → News h₀ env.locals h led → Q .next { s with heap := h, toks := tk }) :
    wpAny (model prog w) A (pyIter (.ref l)) (fun it s₂ => LoopAtV prog w A h₀ env x body Q E it s₂) E s :=
  lp_list0 (lo := listOf vs.toArray k) stored hh ⟨_, (N _ hm).1, rfl, k, rfl⟩ (fun _ => hm) (N _ hm).2.1 F N turn done
theorem lp_endP {led : List (Addr × Obj)} {stored : List Str} {m₀ m' : Str → Option Value} {L I : Addr} {it : Obj} {s₁ : Shared} {h' : Heap} {tk : Nat} {news' : List (Addr × Obj)} {P : Prop}
    (F : Fr h₀ L h' m') (N : News h₀ L h' news') (hin : ∀ p ∈ led, p ∈ news') (hI : (I, it) ∈ news') (hne : ∀ p ∈ led, p.1 ≠ I) (hs : ∀ z, z ≠ x → stored.contains z = false → m' z = m₀ z) (hP : P) :
    LpEnd (σ := Unit) (fun _ => led) (fun _ => []) (fun _ => P) stored x m₀ h₀ L I it s₁ { s₁ with heap := h', toks := tk } :=
  lp_end () F N hin hI hne (List.forall_mem_nil _) hs hP
theorem lp_end0 {led : List (Addr × Obj)} {stored : List Str} {m₀ m' : Str → Option Value} {L I : Addr} {it : Obj} {s₁ : Shared} {h' : Heap} {tk : Nat} {news' : List (Addr × Obj)}
    (F : Fr h₀ L h' m') (N : News h₀ L h' news') (hin : ∀ p ∈ led, p ∈ news') (hI : (I, it) ∈ news') (hne : ∀ p ∈ led, p.1 ≠ I) (hs : ∀ z, z ≠ x → stored.contains z = false → m' z = m₀ z) :
    LpEnd (σ := Unit) (fun _ => led) (fun _ => []) (fun _ => True) stored x m₀ h₀ L I it s₁ { s₁ with heap := h', toks := tk } :=
  lp_end () F N hin hI hne (List.forall_mem_nil _) hs trivial

/-- a statement's ways meet: it stores the one bool `D` -/
def CutEnd (D : Bool) (y : Str) (m : Str → Option Value) (led : List (Addr × Obj)) (h₀ : Heap) (L : Addr) (s : Shared) (f : Flow) (s' : Shared) : Prop :=
  f = .next ∧ ∃ h' tk', s' = { s with heap := h', toks := tk' } ∧ Fr h₀ L h' (fun z => if z = y then some (.bool D) else m z) ∧ News h₀ L h' led
theorem cut_end {D D' : Bool} {y : Str} {m : Str → Option Value} {led led' : List (Addr × Obj)} {L : Addr} {h' : Heap} {tk' : Nat} (e : D' = D) (F : Fr h₀ L h' (fun z => if z = y then some (.bool D') else m z)) (N : News h₀ L h' led') (hs : ∀ p ∈ led, p ∈ led') :
    CutEnd D y m led h₀ L s .next { s with heap := h', toks := tk' } := ⟨rfl, h', tk', rfl, e ▸ F, fun p hp => N p (hs p hp)⟩
theorem cut_bool {M : Model} {st : Stmt} {m : Str → Option Value} {led : List (Addr × Obj)} (D : Bool) (y : Str) (_F : Fr h₀ env.locals s.heap m) (_N : News h₀ env.locals s.heap led)
    (hw : wpAny M A (exec st env) (CutEnd D y m led h₀ env.locals s) E s)
    (hc : ∀ h' tk', Fr h₀ env.locals h' (fun z => if z = y then some (.bool D) else m z) → News h₀ env.locals h' led → Q .next { s with heap := h', toks := tk' }) : wpAny M A (exec st env) Q E s :=
  wpAny_mono hw (fun f s' h => by obtain ⟨rfl, h', tk', rfl, F', N'⟩ := h; exact hc h' tk' F' N') fun _ _ e => e

/-- a statement cut off: it stores one value of which `R` holds -/
def CutV (R : Value → Prop) (y : Str) (m : Str → Option Value) (led : List (Addr × Obj)) (h₀ : Heap) (L : Addr) (s : Shared) (f : Flow) (s' : Shared) : Prop :=
  f = .next ∧ ∃ v h' tk', R v ∧ s' = { s with heap := h', toks := tk' } ∧ Fr h₀ L h' (fun z => if z = y then some v else m z) ∧ News h₀ L h' led
theorem cutV_end {R : Value → Prop} {v : Value} {y : Str} {m : Str → Option Value} {led led' : List (Addr × Obj)} {L : Addr} {h' : Heap} {tk' : Nat} (F : Fr h₀ L h' (fun z => if z = y then some v else m z)) (N : News h₀ L h' led') (hs : ∀ p ∈ led, p ∈ led') (hR : R v) :
    CutV R y m led h₀ L s .next { s with heap := h', toks := tk' } := ⟨rfl, v, h', tk', hR, rfl, F, fun p hp => N p (hs p hp)⟩
theorem cut_val {M : Model} {st : Stmt} {m : Str → Option Value} {led : List (Addr × Obj)} (R : Value → Prop) (y : Str) (_F : Fr h₀ env.locals s.heap m) (_N : News h₀ env.locals s.heap led)
    (hw : wpAny M A (exec st env) (CutV R y m led h₀ env.locals s) E s)
    (hc : ∀ v h' tk', R v → Fr h₀ env.locals h' (fun z => if z = y then some v else m z) → News h₀ env.locals h' led → Q .next { s with heap := h', toks := tk' }) : wpAny M A (exec st env) Q E s :=
  wpAny_mono hw (fun f s' h => by obtain ⟨rfl, v, h', tk', hR, rfl, F', N'⟩ := h; exact hc v h' tk' hR F' N') fun _ _ e => e
end
end
def quick0 : PySem.Str := PySem.Str.ofString "a"
theorem quick0_e : quick0 = quick0 := rfl
name_quick tw4698392579204357396 for quick0 by quick0_e
name_quick tw8075568018651887793 for quick0 by quick0_e
name_quick tw11803295591251754840 for quick0 by quick0_e
name_quick tw8882147229003376020 for quick0 by quick0_e
name_quick tw11590920581885029036 for quick0 by quick0_e
name_quick tw14979626087600564940 for quick0 by quick0_e
name_quick tw10075025908516997307 for quick0 by quick0_e
name_quick tw4898924896068977566 for quick0 by quick0_e
name_quick tw2686761511125663875 for quick0 by quick0_e
name_quick tw2185587934892314082 for quick0 by quick0_e
name_quick tw3966717264747991198 for quick0 by quick0_e
name_quick tw868157144444988819 for quick0 by quick0_e
name_quick tw7511906259402933339 for quick0 by quick0_e
name_quick tw10790270229335939298 for quick0 by quick0_e
name_quick tw11066571165224357133 for quick0 by quick0_e
name_quick tw12065436840993781967 for quick0 by quick0_e
name_quick tw17804504610050584030 for quick0 by quick0_e
name_quick tw5228443966233409354 for quick0 by quick0_e
name_quick tw13505292571300825877 for quick0 by quick0_e
name_quick tw12498139314369600171 for quick0 by quick0_e
name_quick tw14487725735874088081 for quick0 by quick0_e
name_quick tw5076957145309523181 for quick0 by quick0_e
name_quick tw11452132507678324671 for quick0 by quick0_e
name_quick tw3856783459128436802 for quick0 by quick0_e
name_quick tw14821650378409806113 for quick0 by quick0_e
name_quick tw4978915544186085027 for quick0 by quick0_e
name_quick tw7304268236622374541 for quick0 by quick0_e
name_quick tw16145008321745377990 for quick0 by quick0_e
name_quick tw7581352650102555174 for quick0 by quick0_e
name_quick tw2627984346626558326 for quick0 by quick0_e
name_quick tw10314498396905981064 for quick0 by quick0_e
name_quick tw13036272033356848781 for quick0 by quick0_e
name_quick tw11013792430000457035 for quick0 by quick0_e
name_quick tw1377046205977697930 for quick0 by quick0_e
name_quick tw7585139358526817783 for quick0 by quick0_e
name_quick tw17827458813498177553 for quick0 by quick0_e
name_quick tw14981143343336467331 for quick0 by quick0_e
name_quick tw8656719876789144132 for quick0 by quick0_e
name_quick tw9136488742655976645 for quick0 by quick0_e
name_quick tw7581816359482902497 for quick0 by quick0_e
name_quick tw18126140380344562322 for quick0 by quick0_e
name_quick tw9300948228871686676 for quick0 by quick0_e
name_quick tw8881496252177385917 for quick0 by quick0_e
name_quick tw3470799630455053000 for quick0 by quick0_e
name_quick tw2001226814458364393 for quick0 by quick0_e
name_quick tw10181792811725400092 for quick0 by quick0_e
name_quick tw14433975572909055671 for quick0 by quick0_e
name_quick tw9305782018832362445 for quick0 by quick0_e
name_quick tw6426273055680023932 for quick0 by quick0_e
name_quick tw387338674003428930 for quick0 by quick0_e
name_quick tw15079194523842364033 for quick0 by quick0_e
name_quick tw13180171748994924942 for quick0 by quick0_e
name_quick tw9931943479562821362 for quick0 by quick0_e
name_quick tw4527066259768149269 for quick0 by quick0_e
name_quick tw10073347824450446311 for quick0 by quick0_e
name_quick tw9219426015542480343 for quick0 by quick0_e
name_quick tw2951486255847992690 for quick0 by quick0_e
name_quick tw8098380416015320538 for quick0 by quick0_e
name_quick tw535072334866317008 for quick0 by quick0_e
name_quick tw3094477031063562474 for quick0 by quick0_e
name_quick tw7198390536060210744 for quick0 by quick0_e
name_quick tw17497748084772794779 for quick0 by quick0_e
name_quick tw8693227569615203950 for quick0 by quick0_e
name_quick tw16869277618539721502 for quick0 by quick0_e
name_quick tw11186114360453789277 for quick0 by quick0_e
name_quick tw11625766737575182897 for quick0 by quick0_e
name_quick tw6792406925840432001 for quick0 by quick0_e
name_quick tw2315820567201803617 for quick0 by quick0_e
name_quick tw347637069881736656 for quick0 by quick0_e
name_quick tw11682084944484805031 for quick0 by quick0_e
name_quick tw1620339239838986703 for quick0 by quick0_e
name_quick tw9082586571710850966 for quick0 by quick0_e
name_quick tw11130039905162102590 for quick0 by quick0_e
name_quick tw7094674258960923220 for quick0 by quick0_e
name_quick tw10352308551163946355 for quick0 by quick0_e
name_quick tw7802139600951554647 for quick0 by quick0_e
name_quick tw13776390136698705113 for quick0 by quick0_e
name_quick tw16643706677886111943 for quick0 by quick0_e
name_quick tw5952267759425050802 for quick0 by quick0_e
name_quick tw16292439048969090190 for quick0 by quick0_e
name_quick tw900395245841561262 for quick0 by quick0_e
name_quick tw8253183596043897158 for quick0 by quick0_e
name_quick tw196644378293983589 for quick0 by quick0_e
name_quick tw16644606511662114574 for quick0 by quick0_e
name_quick tw12095823642532355627 for quick0 by quick0_e
name_quick tw9206804518496725263 for quick0 by quick0_e
name_quick tw1189734492583310 for quick0 by quick0_e
name_quick tw17475289236778735526 for quick0 by quick0_e
name_quick tw17111948838632640456 for quick0 by quick0_e
name_quick tw15034313371233782410 for quick0 by quick0_e
name_quick tw14209830616999942402 for quick0 by quick0_e
name_quick tw9265879793445154701 for quick0 by quick0_e
name_quick tw5529568453561195837 for quick0 by quick0_e
name_quick tw15823609455315575823 for quick0 by quick0_e
name_quick tw16865151637890581275 for quick0 by quick0_e
name_quick tw6059929106960060952 for quick0 by quick0_e
name_quick tw6004533443673955352 for quick0 by quick0_e
name_quick tw8860024209350480642 for quick0 by quick0_e
name_quick tw11796506867022685745 for quick0 by quick0_e
name_quick tw383695940523520267 for quick0 by quick0_e
name_quick tw17434858337260393937 for quick0 by quick0_e
name_quick tw11566699232636054958 for quick0 by quick0_e
name_quick tw183835017167291270 for quick0 by quick0_e
name_quick tw16349804527192203551 for quick0 by quick0_e
name_quick tw17001327861769816259 for quick0 by quick0_e
name_quick tw10942035263794033107 for quick0 by quick0_e
name_quick tw17954471519018878134 for quick0 by quick0_e
name_quick tw12835720964997663042 for quick0 by quick0_e
name_quick tw3436264866546951355 for quick0 by quick0_e
name_quick tw9821368406582625841 for quick0 by quick0_e
name_quick tw15323854079317868165 for quick0 by quick0_e
name_quick tw5268983451555188008 for quick0 by quick0_e
name_quick tw17100903815162463580 for quick0 by quick0_e
name_quick tw7670514497116975361 for quick0 by quick0_e
name_quick tw15806122291839087668 for quick0 by quick0_e
name_quick tw9787396351842916947 for quick0 by quick0_e
name_quick tw5152784196030571298 for quick0 by quick0_e
name_quick tw7892128664451923741 for quick0 by quick0_e
name_quick tw9501820088010722379 for quick0 by quick0_e
name_quick tw4109823476700235019 for quick0 by quick0_e
name_quick tw15562837088269578035 for quick0 by quick0_e
name_quick tw1638017585896720355 for quick0 by quick0_e
name_quick tw12450158673883907302 for quick0 by quick0_e
name_quick tw13951257522405164796 for quick0 by quick0_e
name_quick tw16741492637210864865 for quick0 by quick0_e
name_quick tw11863081143760314161 for quick0 by quick0_e
name_quick tw3362959441861295915 for quick0 by quick0_e
name_quick tw6363645014702824404 for quick0 by quick0_e
name_quick tw12268644228514654432 for quick0 by quick0_e
name_quick tw10948738476641704880 for quick0 by quick0_e
name_quick tw1617757218408452269 for quick0 by quick0_e
name_quick tw13236226663087606529 for quick0 by quick0_e
name_quick tw6891000109920058784 for quick0 by quick0_e
name_quick tw14285029430470858289 for quick0 by quick0_e
name_quick tw15475462885187679331 for quick0 by quick0_e
name_quick tw12177649209318274912 for quick0 by quick0_e
name_quick tw618205885557783147 for quick0 by quick0_e
name_quick tw12635297910168745909 for quick0 by quick0_e
name_quick tw8796240567053077481 for quick0 by quick0_e
name_quick tw17730448691065144110 for quick0 by quick0_e
name_quick tw17532440430192770315 for quick0 by quick0_e
name_quick tw7397068168572129948 for quick0 by quick0_e
name_quick tw11853533878840232495 for quick0 by quick0_e
name_quick tw11108263761283441063 for quick0 by quick0_e
name_quick tw6309420706278071738 for quick0 by quick0_e
name_quick tw1291980286583624508 for quick0 by quick0_e
name_quick tw13912434898499826684 for quick0 by quick0_e
name_quick tw704327219915372674 for quick0 by quick0_e
name_quick tw10010936943081839664 for quick0 by quick0_e
name_quick tw6789855027759293466 for quick0 by quick0_e
name_quick tw8537084889766193716 for quick0 by quick0_e
name_quick tw15202239659555905331 for quick0 by quick0_e
name_quick tw1107438419126420414 for quick0 by quick0_e
name_quick tw15207642765257501584 for quick0 by quick0_e
name_quick tw6589095468515690095 for quick0 by quick0_e
name_quick tw4039474712603431140 for quick0 by quick0_e
name_quick tw10833955939284561965 for quick0 by quick0_e
name_quick tw3152983702415266003 for quick0 by quick0_e
name_quick tw17164873540382356111 for quick0 by quick0_e
name_quick tw878741703135273975 for quick0 by quick0_e
name_quick tw1708024556718086227 for quick0 by quick0_e
name_quick tw3386650904741475044 for quick0 by quick0_e
name_quick tw17993156020533580102 for quick0 by quick0_e
name_quick tw16326889199254633757 for quick0 by quick0_e
name_quick tw13678640442995254988 for quick0 by quick0_e
name_quick tw13251646731365433171 for quick0 by quick0_e
name_quick tw14043711374191979534 for quick0 by quick0_e
name_quick tw1886563365779066154 for quick0 by quick0_e
name_quick tw13559156169165276386 for quick0 by quick0_e
name_quick tw9626621113073979434 for quick0 by quick0_e
name_quick tw16846860572762119324 for quick0 by quick0_e
name_quick tw16328912562034613984 for quick0 by quick0_e
name_quick tw13809362725867891129 for quick0 by quick0_e
name_quick tw5976474108018559520 for quick0 by quick0_e
name_quick tw12635813782599140982 for quick0 by quick0_e
name_quick tw11707433790658880453 for quick0 by quick0_e
name_quick tw11277716924127702174 for quick0 by quick0_e
name_quick tw12660628722211587041 for quick0 by quick0_e
name_quick tw16366562015402752707 for quick0 by quick0_e
name_quick tw15919542637913265678 for quick0 by quick0_e
name_quick tw15773981995205291829 for quick0 by quick0_e
name_quick tw3560238982266916124 for quick0 by quick0_e
name_quick tw9674257727999782656 for quick0 by quick0_e
name_quick tw1085346719588807367 for quick0 by quick0_e
name_quick tw17552769576498331613 for quick0 by quick0_e
name_quick tw10758392820592806131 for quick0 by quick0_e
name_quick tw13640514254501968386 for quick0 by quick0_e
name_quick tw636462944352149979 for quick0 by quick0_e
name_quick tw17888162413812561239 for quick0 by quick0_e
name_quick tw1355338860687761863 for quick0 by quick0_e
name_quick tw3424931102881643321 for quick0 by quick0_e
name_quick tw16180483070735683940 for quick0 by quick0_e
name_quick tw6662432510661729299 for quick0 by quick0_e
name_quick tw4658958612460137192 for quick0 by quick0_e
name_quick tw15423634916342008072 for quick0 by quick0_e
name_quick tw15490439104401381959 for quick0 by quick0_e
name_quick tw4748654258956052638 for quick0 by quick0_e
name_quick tw17000458434675057986 for quick0 by quick0_e
name_quick tw15066959818950650227 for quick0 by quick0_e
name_quick tw7286323032743288035 for quick0 by quick0_e
name_quick tw14023627001141898710 for quick0 by quick0_e
name_quick tw10939839348159177617 for quick0 by quick0_e
name_quick tw17503288770812694035 for quick0 by quick0_e
name_quick tw1763209079605825380 for quick0 by quick0_e
name_quick tw930746551332336609 for quick0 by quick0_e
name_quick tw1333364371103165705 for quick0 by quick0_e
name_quick tw17853915177807527196 for quick0 by quick0_e
name_quick tw117213463901210413 for quick0 by quick0_e
name_quick tw5345256250457102556 for quick0 by quick0_e
name_quick tw4011157648589011858 for quick0 by quick0_e
name_quick tw3577408171920636059 for quick0 by quick0_e
name_quick tw1706496860858754268 for quick0 by quick0_e
name_quick tw2422670821966735624 for quick0 by quick0_e
name_quick tw4172830789200971933 for quick0 by quick0_e
name_quick tw18340240734955500558 for quick0 by quick0_e
name_quick tw282004115355043989 for quick0 by quick0_e
name_quick tw16432479971616331241 for quick0 by quick0_e
name_quick tw9504726810853072989 for quick0 by quick0_e
name_quick tw8459811325457737761 for quick0 by quick0_e
name_quick tw13925586954763233925 for quick0 by quick0_e
name_quick tw11985326045990495214 for quick0 by quick0_e
name_quick tw721709456127091705 for quick0 by quick0_e
name_quick tw5770868932273138760 for quick0 by quick0_e
name_quick tw7483462131439158144 for quick0 by quick0_e
name_quick tw15542691292777871779 for quick0 by quick0_e
name_quick tw7392212959928792091 for quick0 by quick0_e
name_quick tw2354101950205528012 for quick0 by quick0_e
name_quick tw5758256569797452207 for quick0 by quick0_e
name_quick tw16874561944515371726 for quick0 by quick0_e
name_quick tw15041003319150489328 for quick0 by quick0_e
name_quick tw9575731206691268911 for quick0 by quick0_e
name_quick tw2905824091091238844 for quick0 by quick0_e
name_quick tw9564595351457756722 for quick0 by quick0_e
name_quick tw15468230090516036684 for quick0 by quick0_e
name_quick tw17517737089405305841 for quick0 by quick0_e
name_quick tw14386061602966655976 for quick0 by quick0_e
name_quick tw2334299552400917057 for quick0 by quick0_e
name_quick tw5357591511691535388 for quick0 by quick0_e
name_quick tw11317593695737139937 for quick0 by quick0_e
name_quick tw7650934615059315214 for quick0 by quick0_e
name_quick tw3972328310683599613 for quick0 by quick0_e
name_quick tw6967401301877209104 for quick0 by quick0_e
name_quick tw11817470609975844035 for quick0 by quick0_e
name_quick tw7299951869573292228 for quick0 by quick0_e
name_quick tw6929956602132211858 for quick0 by quick0_e
name_quick tw12809422525583811893 for quick0 by quick0_e
name_quick tw2948108419219029167 for quick0 by quick0_e
name_quick tw15894407043143930727 for quick0 by quick0_e
name_quick tw8017206721242287953 for quick0 by quick0_e
name_quick tw5832503352825792928 for quick0 by quick0_e
name_quick tw2569364866550412066 for quick0 by quick0_e
name_quick tw7745614565497352828 for quick0 by quick0_e
name_quick tw1749818173716722547 for quick0 by quick0_e
name_quick tw10996506086634736982 for quick0 by quick0_e
name_quick tw4904739604578439355 for quick0 by quick0_e
name_quick tw3282434896037501709 for quick0 by quick0_e
name_quick tw2902314222560053993 for quick0 by quick0_e
name_quick tw16049961110935095269 for quick0 by quick0_e
name_quick tw13900631225919944168 for quick0 by quick0_e
name_quick tw12488000419048109807 for quick0 by quick0_e
name_quick tw11707371222683016368 for quick0 by quick0_e
name_quick tw13721567128424951087 for quick0 by quick0_e
name_quick tw17015423121036801654 for quick0 by quick0_e
name_quick tw13725850141900786883 for quick0 by quick0_e
name_quick tw5450187663091677483 for quick0 by quick0_e
name_quick tw5396446701170858492 for quick0 by quick0_e
name_quick tw6434265647005701932 for quick0 by quick0_e
name_quick tw12898947447245864913 for quick0 by quick0_e
name_quick tw8119918657739134586 for quick0 by quick0_e
name_quick tw7323676302269181137 for quick0 by quick0_e
name_quick tw8400853705098224536 for quick0 by quick0_e
name_quick tw3142773779024712118 for quick0 by quick0_e
name_quick tw13580328829973926956 for quick0 by quick0_e
name_quick tw9285146279643344392 for quick0 by quick0_e
name_quick tw6714822604882049554 for quick0 by quick0_e
name_quick tw7140130562030077042 for quick0 by quick0_e
name_quick tw6135381517318000843 for quick0 by quick0_e
name_quick tw2611137233208623240 for quick0 by quick0_e
name_quick tw3131671291697673992 for quick0 by quick0_e
name_quick tw1574873078441994576 for quick0 by quick0_e
name_quick tw7496433998918960881 for quick0 by quick0_e
name_quick tw14544052848187043789 for quick0 by quick0_e
name_quick tw12233582284571471492 for quick0 by quick0_e
name_quick tw13002492023102617099 for quick0 by quick0_e
name_quick tw1402947280878808549 for quick0 by quick0_e
name_quick tw11825729669827539873 for quick0 by quick0_e
name_quick tw3327986453032591115 for quick0 by quick0_e
name_quick tw17101871299007795629 for quick0 by quick0_e
name_quick tw12177639751122801600 for quick0 by quick0_e
name_quick tw13789449189825218787 for quick0 by quick0_e
name_quick tw4434333111790514575 for quick0 by quick0_e
name_quick tw460243522976405022 for quick0 by quick0_e
name_quick tw6817277305950994716 for quick0 by quick0_e
name_quick tw18220123701641295943 for quick0 by quick0_e
name_quick tw912392155897948271 for quick0 by quick0_e
name_quick tw8727135674562949291 for quick0 by quick0_e
name_quick tw3118938333895590913 for quick0 by quick0_e
name_quick tw1092655722715705105 for quick0 by quick0_e
name_quick tw6683783046931543321 for quick0 by quick0_e
name_quick tw17804436615005485693 for quick0 by quick0_e
name_quick tw5882768191206486792 for quick0 by quick0_e
name_quick tw17842620306162639686 for quick0 by quick0_e
name_quick tw11994158751524154303 for quick0 by quick0_e
name_quick tw10887116778572429059 for quick0 by quick0_e
name_quick tw12832477231654346042 for quick0 by quick0_e
name_quick tw9594665118957945026 for quick0 by quick0_e
name_quick tw10317580896714288900 for quick0 by quick0_e
name_quick tw14311459727803291754 for quick0 by quick0_e
name_quick tw136631920214876835 for quick0 by quick0_e
name_quick tw14210447440969649564 for quick0 by quick0_e
name_quick tw5135500740108067664 for quick0 by quick0_e
name_quick tw7299303143086499733 for quick0 by quick0_e
name_quick tw11310463157757771331 for quick0 by quick0_e
name_quick tw7229665172594901996 for quick0 by quick0_e
name_quick tw10424941004445345732 for quick0 by quick0_e
name_quick tw7499937903120025604 for quick0 by quick0_e
name_quick tw11270796479367742343 for quick0 by quick0_e
name_quick tw11964429278604863157 for quick0 by quick0_e
name_quick tw2447775223705975068 for quick0 by quick0_e
name_quick tw17057272898397164401 for quick0 by quick0_e
name_quick tw10528696920762540405 for quick0 by quick0_e
name_quick tw17975652961387846372 for quick0 by quick0_e
name_quick tw11277413387252134812 for quick0 by quick0_e
name_quick tw9281714027785469542 for quick0 by quick0_e
name_quick tw13374006509133312874 for quick0 by quick0_e
name_quick tw9315938663221665524 for quick0 by quick0_e
name_quick tw16350708796919097252 for quick0 by quick0_e
name_quick tw15742981410569661332 for quick0 by quick0_e
name_quick tw16437185098154296904 for quick0 by quick0_e
name_quick tw17341736924252097559 for quick0 by quick0_e
name_quick tw12734952128020822468 for quick0 by quick0_e
name_quick tw4405960384096086239 for quick0 by quick0_e
name_quick tw14214133299417103183 for quick0 by quick0_e
name_quick tw13314330512976039754 for quick0 by quick0_e
name_quick tw14323765505736481980 for quick0 by quick0_e
name_quick tw17394056326795013819 for quick0 by quick0_e
name_quick tw8902219603052485911 for quick0 by quick0_e
name_quick tw5248340912204065574 for quick0 by quick0_e
name_quick tw15902184279288820625 for quick0 by quick0_e
name_quick tw5068434257544371817 for quick0 by quick0_e
name_quick tw716658179208862652 for quick0 by quick0_e
name_quick tw10057510723706494237 for quick0 by quick0_e
name_quick tw1320183511955256522 for quick0 by quick0_e
name_quick tw18263319221461684349 for quick0 by quick0_e
name_quick tw4936483359421988267 for quick0 by quick0_e
name_quick tw7035115661146626270 for quick0 by quick0_e
name_quick tw11543547407058413889 for quick0 by quick0_e
name_quick tw17244072584429378644 for quick0 by quick0_e
name_quick tw16417370028952169744 for quick0 by quick0_e
name_quick tw3764465048917985505 for quick0 by quick0_e
name_quick tw17279654841073493023 for quick0 by quick0_e
name_quick tw1258717718454355964 for quick0 by quick0_e
name_quick tw7098571738820278039 for quick0 by quick0_e
name_quick tw973662469405803806 for quick0 by quick0_e
name_quick tw13833065179229638619 for quick0 by quick0_e
name_quick tw4681523508651956083 for quick0 by quick0_e
name_quick tw7081425507203772304 for quick0 by quick0_e
name_quick tw14778209649434054790 for quick0 by quick0_e
open_top hd for PySem.Challenge.rw_xq0002_04
local macro_rules | `(tactic| k_in) => `(tactic| first | (with_reducible assumption) | exact Frag.In.keeps (by with_reducible assumption) (Fr.keep (by with_reducible assumption)))
local macro_rules | `(tactic| k_room) => `(tactic| ktr_room)
local macro_rules | `(tactic| k_units) => `(tactic| ktr_units)
local macro_rules | `(tactic| bits_by_make) => `(tactic| with_reducible assumption)
local macro_rules | `(tactic| k_handed) => `(tactic| with_reducible assumption)
local macro_rules | `(tactic| k_enter) => `(tactic| (
  refine' code_def ?k1 ?k2 ?k3 ?k4 ?k5 ?kA ?kF ?kK ?k6 ?k7 ?k8 ?k9 ?kB ?_ ?c2 ?c3 ?c4 ?c5; (case kA => exact rfl); (case kF => exact rfl); (case kK => first | exact rfl | assumption); (case k1 => k_asm); (case k2 => k_asm); (case k3 => k_asm); (case k4 => k_asm); (case k5 => k_asm); (case k6 => k_is); (case k7 => k_is); (case k8 => k_room)
  (case k9 => first | exact BindsTo.of_eq rfl | exact binds_K (by k_in) rfl (by k_is) rfl rfl rfl); (case c5 => decide); (case kB => exact locs rfl); (case c2 => exact rfl); (case c3 => exact rfl); (case c4 => exact rfl); k_whole; intro g' L' h' FG' F' N' B' X' T'; (try dsimp only); (try k_lift B'); (try k_fold)))
local macro_rules | `(tactic| walk_at "ps") => `(tactic| first | exact List.forall_mem_nil _ | (refine List.forall_mem_cons.mpr ⟨rfl, ?_⟩; walk_at "ps"))
local macro_rules | `(tactic| walk_at "bits") => `(tactic| exact Nat.le_trans (by bits_by_make) (by decide))
local macro_rules | `(tactic| walk_at "use") => `(tactic| (
  (case k1 => k_asm); (case k2 => k_asm); (case k3 => k_asm); (case k4 => k_asm); (case k5 => k_asm); (case k6 => first | rfl | assumption); (case k7 => ktr_room); (case k8 => ktr_units); (case k9 => first | trivial | k_asm)))
local macro_rules | `(tactic| k_mem) => `(tactic| with_reducible_and_instances assumption)
local macro_rules | `(tactic| walk_at "pyIter ref") => `(tactic| (k_here; refine Stop.of ?_))
local macro_rules | `(tactic| walk_at "go") => `(tactic| repeat' (first | (k_unfold; (try dsimp only)) | walk1 | (dsimp only; walk1) | fail "no step"))
local macro_rules | `(tactic| walk_at "LpPost") => `(tactic| dsimp only [LpPost])
local macro_rules | `(tactic| walk_at "same") => `(tactic| (
  intro z h1 h3
  first | rfl | ((simp only [List.contains_cons, List.contains_nil, Bool.or_false, Bool.or_eq_false_iff, beq_eq_false_iff_ne, ne_eq] at h3); (simp [h1, h3]; done)) | (simp [h1]; done) | ((simp only [List.contains_cons, List.contains_nil, Bool.or_false, Bool.or_eq_false_iff, beq_eq_false_iff_ne, ne_eq] at h3); (simp [h1, h3, kstB]; done)) | (simp [h1, kstB]; done)))
local macro_rules | `(tactic| walk_at "LpEnd") => `(tactic| (
  refine lp_end0 (by k_asm) (by k_asm) ?e1 ?e2 (by k_asm) ?e3
  (case e1 => (intro p hp; kst_mem)); (case e2 => k_mem); (case e3 => walk_at "same")))
local macro_rules | `(tactic| walk_at "subscriptTail") => `(tactic| (
  k_here; (with_reducible show wpAny _ _ (subscriptTail _ _ (Value.ref _) (Value.int _ _)) _ _ _)
  k_dflt (refine' item_tupleT ?t ?a ?b ?c ?d ?_; (case t => exact News.isTup (by k_asm) (by k_mem)); (case a => decide); (case b => decide); (case c => rfl); (case d => rfl); k_whole)))
local macro_rules | `(tactic| walk_at "exec For Name Name cons nil") => `(tactic| (k_here; (rename Fr _ _ _ _ => lF'); (with_unfolding_all refine' For_invVF lF' ?k1 ?k2 ?_; (case k1 => exact rfl); (case k2 => exact rfl); k_whole)))
local macro_rules | `(tactic| walk_at "exec For Name Call cons nil") => `(tactic| (k_here; (rename Fr _ _ _ _ => lF'); (with_unfolding_all refine' For_invVF lF' ?k1 ?k2 ?_; (case k1 => exact rfl); (case k2 => exact rfl); k_whole)))
local macro_rules | `(tactic| walk_at "exec For Name Attribute cons nil") => `(tactic| (k_here; (rename Fr _ _ _ _ => lF'); (with_unfolding_all refine' For_invVF lF' ?k1 ?k2 ?_; (case k1 => exact rfl); (case k2 => exact rfl); k_whole)))
local macro_rules | `(tactic| walk_at "exec For Name BinOp cons nil") => `(tactic| (k_here; (rename Fr _ _ _ _ => lF'); (with_unfolding_all refine' For_invVF lF' ?k1 ?k2 ?_; (case k1 => exact rfl); (case k2 => exact rfl); k_whole)))
local macro_rules | `(tactic| walk_at "exec For Name List cons nil") => `(tactic| (k_here; (rename Fr _ _ _ _ => lF'); (with_unfolding_all refine' For_invVF lF' ?k1 ?k2 ?_; (case k1 => exact rfl); (case k2 => exact rfl); k_whole)))
local macro_rules | `(tactic| walk_at "exec For Tuple Name cons nil") => `(tactic| (k_here; (rename Fr _ _ _ _ => lF'); (with_unfolding_all refine' For_invVF lF' ?k1 ?k2 ?_; (case k1 => exact rfl); (case k2 => exact rfl); k_whole)))
local macro_rules | `(tactic| walk_at "call builtin:len") => `(tactic| (
  k_here; (with_reducible show wpAny _ _ (call (Value.builtin "len") [Value.ref _]) _ _ _)
  k_dflt (refine' kst_len ?q1 ?q2 ?q3 ?q4 ?_; (case q1 => k_asm); (case q2 => k_mem); (case q3 => assumption); (case q4 => omega))))
local macro_rules | `(tactic| walk_at "nd") => `(tactic| exact cb_drop (by assumption) fun q hq => by repeat (first | exact hq | apply List.mem_cons_of_mem))
local macro_rules | `(tactic| walk_at "nd5") => `(tactic| exact cb_drop (by assumption) (List.forall_mem_cons.mpr ⟨.head _, List.forall_mem_cons.mpr ⟨.tail _ (.head _), List.forall_mem_cons.mpr ⟨.tail _ (.tail _ (.head _)), List.forall_mem_cons.mpr ⟨.tail _ (.tail _ (.tail _ (.head _))), fun q hq => by repeat (first | exact hq | apply List.mem_cons_of_mem)⟩⟩⟩⟩))
-- L04a
section
noncomputable abbrev PR := PySem.Challenge.rw_xq0002_04.row.prog
noncomputable abbrev LO := looseW hd.view_39 [Str.ofString "CurveFp", Str.ofString "AbstractPoint", Str.ofString "PointJacobi", Str.ofString "Point", Str.ofString "INFINITY", Str.ofString "Public_key", Str.ofString "_law_primes"] ++ (recsOf hd.view_39).map (·.name) ++ (litsOf hd.view_39).map (·.1) ++ (clssOf hd.view_39 (looseW hd.view_39 [Str.ofString "CurveFp", Str.ofString "AbstractPoint", Str.ofString "PointJacobi", Str.ofString "Point", Str.ofString "INFINITY", Str.ofString "Public_key", Str.ofString "_law_primes"])).map (·.name)
variable {w : World} {mean : ExcName → Option Value} {mg mb : Str → Option Value}
def cell (ns : List Int) (k : Int) : Int := if k < (ns.length : Int) then (if ns.getD k.toNat 0 < 0 then -ns.getD k.toNat 0 else ns.getD k.toNat 0) else 7 * k + 3
theorem c_cell {news : List (Addr × Obj)} {l : Addr} {vs : List Value} {ns : List Int} {k : Int} {t : Tok} (hi : IntsAre vs ns) (hlen : ns.length < 2 ^ 62) (h0 : 0 ≤ k) (h1 : k ≤ 100) :
    Sp PR w (hd.heap_39 w.params) topProg LO mean mg mb 1 8 (call (.ref 493) [.ref l, .int k t]) news (fun base => base.IsList l vs.toArray) (RInt (cell ns k) news) := by
  (try unfold PR LO); k_fill; w_top off
  unfold Sp
  intro dp un gd cn cs a ccd cl outer A₀ base h₀ L M s Q E B F X N T hk hd hu hpre hret
  try dsimp only at hpre
  refine wpAny_call ?_
  k_dflt cell_enter
  unfold RInt at hret
  walk_at "go"
  all_goals (
    refine cb_retI hret ?_ (by assumption) (by assumption)
    unfold cell; split <;> first | rfl | (exfalso; omega))
/-- the inverse by trying -/
def linv (p v : Int) : Int := match (List.range p.toNat).find? (fun k : Nat => (v * (k : Int)).fmod p == 1) with
  | some k => (k : Int)
  | none => 0
theorem linv_some {p v : Int} {i : Nat} (hi : i < p.toNat) (h : (v * (0 + (i : Int))).fmod p = 1) (hlt : ∀ j : Nat, j < i → ((v * (j : Int)).fmod p == 1) = false) : linv p v = 0 + (i : Int) := by
  have e : (List.range p.toNat).find? (fun k : Nat => (v * (k : Int)).fmod p == 1) = some i := by
    rw [List.find?_range_eq_some]
    refine ⟨by rw [Int.zero_add] at h; simpa using h, List.mem_range.mpr hi, fun j hj => by simpa using hlt j hj⟩
  unfold linv; rw [e]; exact (Int.zero_add _).symm
theorem linv_none {p v : Int} (h : ∀ j : Nat, j < p.toNat → ((v * (j : Int)).fmod p == 1) = false) : linv p v = 0 := by
  have e : (List.range p.toNat).find? (fun k : Nat => (v * (k : Int)).fmod p == 1) = none := by
    rw [List.find?_range_eq_none]
    exact fun j hj => by simpa using h j hj
  unfold linv; rw [e]
theorem c_linv {news : List (Addr × Obj)} {p v : Int} {t u : Tok} (h0 : 0 < p) (h1 : p < 1000) (h2 : -10000 ≤ v) (h3 : v ≤ 10000) :
    Sp PR w (hd.heap_39 w.params) topProg LO mean mg mb 1 8 (call (.ref 500) [.int p t, .int v u]) news (fun _ => True) (RInt (linv p v) news) := by
  (try unfold PR LO); k_fill
  unfold Sp
  intro dp un gd cn cs a ccd cl outer A₀ base h₀ L M s Q E B F X N T hk hd hu hpre hret
  try dsimp only at hpre
  refine wpAny_call ?_
  k_dflt cell_enter
  unfold RInt at hret
  walk_at "go"
  refine Stop.to ?_
  k_dflt (refine' lp_rangeP p.toNat [] (fun i => ∀ j : Nat, j < i → ((v * (j : Int)).fmod p == 1) = false) rfl ?zr ?zs ?zn ?zf ?zN ?zi ?_ ?_)
  (case zr => assumption)
  (case zs => exact small_one (by omega) (by omega) (by omega) (by omega))
  (case zn => rw [rangeSize_nat, Int.sub_zero])
  (case zf => k_asm)
  (case zN => k_asm)
  (case zi => intro j hj; omega)
  · intro I i t u h tk it hi hinv hne F1 N1
    dsimp only [envOf] at F1 N1
    have hi2 : (i : Int) < 1000 := by omega
    walk_at "go"
    · exact cb_retI hret (linv_some hi (by assumption) hinv).symm (by assumption) (cb_drop (by assumption) fun p hp => List.mem_cons_of_mem _ hp)
    · refine lp_endP (by k_asm) (by k_asm) (fun p hp => List.mem_cons_of_mem _ hp) (List.mem_cons_self ..) hne (by walk_at "same") ?_
      intro j hj
      rcases Nat.lt_or_eq_of_le (Nat.le_of_lt_succ hj) with h | rfl
      · exact hinv j h
      · rename (Int.fmod _ _ ≠ 1) => hz
        rw [Int.zero_add] at hz
        simpa using hz
  · intro u h tk hinv F1 N1
    dsimp only [envOf] at F1 N1
    walk_at "go"
    exact cb_retI hret (linv_none hinv).symm (by assumption) (by assumption)
end
-- L04b
section
local macro_rules | `(tactic| k_all) => `(tactic| with_reducible assumption)
theorem add_ints_K {prog : Program} {w : World} {A : Around} {E : Value → Shared → Prop} {s : Shared} {h₀ : Heap} {L : Addr} {m : Str → Option Value} {news : List (Addr × Obj)} {l b : Addr} {vs ws : List Value} {ns ms : List Int} {Q : Value → Shared → Prop} (F : Fr h₀ L s.heap m) (N : News h₀ L s.heap news)
    (hl : s.heap.IsList l vs.toArray) (hb : s.heap.IsList b ws.toArray) (hi : IntsAre vs ns) (hj : IntsAre ws ms) (hsz : ns.length + ms.length ≤ sizeLine)
    (h : ∀ D h', Fr h₀ L h' m → News h₀ L h' ((D, W.listOf (vs ++ ws).toArray 0) :: news) → (∀ p ∈ news, p.1 < D) → IntsAre (vs ++ ws) (ns ++ ms) → Q (.ref D) { s with heap := h' }) :
    wpAny (model prog w) A (binaryOp .Add (.ref l) (.ref b)) Q E s :=
  add_lists_ints (hsz := hsz) F N hl hb hi hj fun h' F' N' hI => h _ h' F' N' (fun p hp => Heap.lt_size (N p hp).1) hI
local macro_rules | `(tactic| walk_at "binaryOp Add ref ref") => `(tactic| (
  k_here; k_dflt (refine' add_ints_K ?q1 ?q2 ?q3 ?q4 ?q5 ?q6 ?q7 ?_; (case q1 => k_asm); (case q2 => k_asm); (case q3 => exact News.isList (by k_asm) (by k_mem)); (case q4 => exact News.isList (by k_asm) (by k_mem)); (case q5 => first | assumption | exact IntsAre.nil); (case q6 => exact IntsAre.cons _ _ IntsAre.nil); (case q7 => (simp only [List.length_cons, List.length_nil]; omega))); intro D' h' F' N' l1 hI'; (try k_lt l1); (try k_sweep)))
theorem newTuple_K9 {M : Model} {A : Around} {E : Value → Shared → Prop} {s : Shared} {h₀ : Heap} {L : Addr} {m : Str → Option Value} {news : List (Addr × Obj)} {vs : List Value} {Q : Value → Shared → Prop} (F : Fr h₀ L s.heap m) (N : News h₀ L s.heap news) (hsz : vs.length ≤ sizeLine)
    (h : ∀ D h', Fr h₀ L h' m → News h₀ L h' ((D, { cls := .type "tuple", data := .seq vs.toArray }) :: news) → (∀ p ∈ news, p.1 < D) → Q (.ref D) { s with heap := h' }) : wpAny M A (newTuple vs) Q E s :=
  newTuple_N (hsz := hsz) F N fun h' F' N' => h _ h' F' N' fun p hp => Heap.lt_size (N p hp).1
local macro_rules | `(tactic| walk_at "newTuple") => `(tactic| (k_here; k_dflt (refine' newTuple_K9 ?q1 ?q2 ?q3 ?_; (case q1 => k_asm); (case q2 => k_asm); (case q3 => exact Nat.le_of_ble_eq_true rfl)); intro D' h' F' N' l1; (try k_lt l1); (try k_sweep)))
local macro_rules | `(tactic| walk_at "eval Dict nil nil") => `(tactic| (k_here; refine Stop.of ?_))
local macro_rules | `(tactic| walk_at "getMethod ref") => `(tactic| (
  k_here; (with_reducible show wpAny _ _ (getMethod (Value.ref _) (Str.ofString "get") _) _ _ _)
  k_dflt (refine kdg_method (knd := PySem.intKind _ _) (by k_asm) (by k_mem) (by k_asm) ?_)))
local macro_rules | `(tactic| walk_at "call builtin:dict.get") => `(tactic| (
  k_here; k_dflt (refine' kdg_get2 (knd := PySem.intKind _ _) ?q1 ?q2 ?q3 ?q4 (intKind_is _ _ _ _) _ ?q5 ?_; (case q1 => k_asm); (case q2 => k_mem); (case q3 => k_asm); (case q4 => k_asm); (case q5 => assumption)); (try dsimp only [Option.getD])))
local macro_rules | `(tactic| walk_at "setItem ref int") => `(tactic| (
  k_here; k_dflt (refine' kda_set (knd := PySem.intKind _ _) ?F ?N ?U ?d (intKind_is _ _ _ _) ?z ?_; (case F => k_asm); (case N => k_asm); (case U => k_updF); (case d => k_asm); (case z => assumption)); intro h' o' F' N' hd'; (try dsimp only at N')))
variable {w : World} {mean : ExcName → Option Value} {mg mb : Str → Option Value}
/-- a tuple of two ints -/
abbrev tup2 (x : Int) (t : Tok) (y : Int) (u : Tok) : Obj := { cls := .type "tuple", data := .seq #[.int x t, .int y u] 0 }
/-- a list of points: tuples of two ints of the ledger -/
inductive PtsAre (led : List (Addr × Obj)) : List Value → List (Int × Int) → Prop
  | nil : PtsAre led [] []
  | cons {r : Addr} {t u : Tok} {x y : Int} {vs : List Value} {ps : List (Int × Int)} : (r, tup2 x t y u) ∈ led → PtsAre led vs ps → PtsAre led (.ref r :: vs) ((x, y) :: ps)
theorem PtsAre.mono {led led' : List (Addr × Obj)} (hs : ∀ q ∈ led, q ∈ led') : ∀ {vs : List Value} {ps : List (Int × Int)}, PtsAre led vs ps → PtsAre led' vs ps
  | _, _, .nil => .nil
  | _, _, .cons h r => .cons (hs _ h) (r.mono hs)
theorem PtsAre.app {led : List (Addr × Obj)} : ∀ {vs ws : List Value} {ps qs : List (Int × Int)}, PtsAre led vs ps → PtsAre led ws qs → PtsAre led (vs ++ ws) (ps ++ qs)
  | _, _, _, _, .nil, h => h
  | _, _, _, _, .cons h r, k => .cons h (r.app k)
theorem PtsAre.length {led : List (Addr × Obj)} : ∀ {vs : List Value} {ps : List (Int × Int)}, PtsAre led vs ps → vs.length = ps.length
  | _, _, .nil => rfl
  | _, _, .cons _ r => congrArg (· + 1) r.length
structure RS where
  o : Obj
  kvs : List (Int × Value)
  led : List (Addr × Obj)
def sqs (p : Int) (i : Nat) (sq : Int) : List Int := ((List.range i).map fun (k : Nat) => (k : Int)).filter fun y => (y * y).fmod p == sq
def Roots (w : World) (p : Int) (i : Nat) (c : RS) : Prop := c.o.IsDictOf (PySem.intKind PR w) c.kvs ∧ c.kvs.length ≤ i ∧
  ∀ sq, (valueAt c.kvs sq = none ∧ sqs p i sq = []) ∨ ∃ l vs k, valueAt c.kvs sq = some (.ref l) ∧ (l, W.listOf vs.toArray k) ∈ c.led ∧ IntsAre vs (sqs p i sq)
theorem sqs_zero (p sq : Int) : sqs p 0 sq = [] := rfl
theorem sqs_succ (p : Int) (i : Nat) (sq : Int) : sqs p (i + 1) sq = sqs p i sq ++ (if ((i : Int) * (i : Int)).fmod p = sq then [(i : Int)] else []) := by
  unfold sqs
  rw [List.range_succ, List.map_append, List.filter_append]
  congr 1
  simp only [List.map_cons, List.map_nil, List.filter_cons, List.filter_nil, beq_iff_eq]
theorem sqs_len (p : Int) (i : Nat) (sq : Int) : (sqs p i sq).length ≤ i := by
  unfold sqs
  exact Nat.le_trans (List.length_filter_le ..) (by simp)
theorem Roots.init {w : World} {p : Int} {o : Obj} {led : List (Addr × Obj)} (h : o.IsDictOf (PySem.intKind PR w) []) : Roots w p 0 ⟨o, [], led⟩ :=
  ⟨h, Nat.le_refl _, fun sq => .inl ⟨rfl, rfl⟩⟩
theorem valueAt_stored (kvs : List (Int × Value)) (k : Int) (v : Value) (k' : Int) : valueAt (stored kvs k v) k' = if k' = k then some v else valueAt kvs k' := by
  unfold valueAt stored
  by_cases h : kvs.any (fun kv => kv.1 = k) = true
  · rw [if_pos h]
    induction kvs with
    | nil => simp at h
    | cons p r ih =>
      simp only [List.map_cons, List.find?_cons]
      by_cases hp : p.1 = k
      · by_cases hk : k' = k
        · subst hk; simp [hp]
        · rw [if_pos hp, if_neg hk]
          have h1 : ¬ p.1 = k' := fun e => hk (e.symm.trans hp)
          simp only [h1, decide_false]
          clear ih h
          induction r with
          | nil => rfl
          | cons q r ih2 =>
            simp only [List.map_cons, List.find?_cons]
            by_cases hq : q.1 = k
            · rw [if_pos hq]
              have h2 : ¬ q.1 = k' := fun e => hk (e.symm.trans hq)
              simp only [h2, decide_false]; exact ih2
            · rw [if_neg hq]
              by_cases hq2 : q.1 = k'
              · simp [hq2]
              · simp only [hq2, decide_false]; exact ih2
      · rw [if_neg hp]
        have hr : r.any (fun kv => kv.1 = k) = true := by simpa [hp] using h
        by_cases hp2 : p.1 = k'
        · have hk : ¬ k' = k := fun e => hp (hp2.trans e)
          simp [hp2, hk]
        · simp only [hp2, decide_false]; exact ih hr
  · rw [if_neg h]
    have hn : ∀ q ∈ kvs, ¬ q.1 = k := fun q hq e => h (List.any_eq_true.mpr ⟨q, hq, by simpa using e⟩)
    rw [List.find?_append]
    by_cases hk : k' = k
    · subst hk
      have : kvs.find? (fun kv => kv.1 = k') = none := List.find?_eq_none.mpr fun q hq => by simpa using hn q hq
      rw [this]; simp
    · rw [if_neg hk]
      have hk2 : ¬ k = k' := fun e => hk e.symm
      cases hf : kvs.find? (fun kv => kv.1 = k') <;> simp [hk2]
theorem stored_len (kvs : List (Int × Value)) (k : Int) (v : Value) : (stored kvs k v).length ≤ kvs.length + 1 := by
  unfold stored; split <;> simp
theorem Roots.step {w : World} {p : Int} {i : Nat} {c : RS} (h : Roots w p i c) {o' : Obj} {l : Addr} {sq : Int} {vs : List Value} (hD : o'.IsDictOf (PySem.intKind PR w) (stored c.kvs sq (.ref l))) (hs : ((i : Int) * (i : Int)).fmod p = sq)
    (hi : IntsAre vs (sqs p i sq ++ [(i : Int)])) : Roots w p (i + 1) ⟨o', stored c.kvs sq (.ref l), (l, W.listOf vs.toArray 0) :: c.led⟩ := by
  refine ⟨hD, Nat.le_trans (stored_len ..) (Nat.succ_le_succ h.2.1), fun q => ?_⟩
  dsimp only
  rw [valueAt_stored, sqs_succ]
  by_cases e : q = sq
  · subst e
    rw [if_pos rfl, if_pos hs]
    exact .inr ⟨l, vs, 0, rfl, .head _, hi⟩
  · rw [if_neg e, if_neg (fun e' => e (e'.symm.trans hs)), List.append_nil]
    rcases h.2.2 q with ⟨h1, h2⟩ | ⟨l', vs', k, h1, h2, h3⟩
    · exact .inl ⟨h1, h2⟩
    · exact .inr ⟨l', vs', k, h1, .tail _ h2, h3⟩
def rhs (p a b x : Int) : Int := (x * x * x + a * x + b).fmod p
/-- the points with x below i, in the law's order -/
def ptsTo (p a b : Int) (i : Nat) : List (Int × Int) := (List.range i).flatMap fun (x : Nat) => (sqs p p.toNat (rhs p a b x)).map fun y => ((x : Int), y)
def pts (p a b : Int) : List (Int × Int) := ptsTo p a b p.toNat
theorem ptsTo_succ (p a b : Int) (i : Nat) : ptsTo p a b (i + 1) = ptsTo p a b i ++ (sqs p p.toNat (rhs p a b i)).map fun y => ((i : Int), y) := by
  unfold ptsTo
  rw [List.range_succ, List.flatMap_append]
  simp
theorem ptsTo_len {p : Int} (hp : p < 100) (a b : Int) : ∀ i : Nat, (ptsTo p a b i).length ≤ i * 100
  | 0 => Nat.le_refl _
  | i + 1 => by
    rw [ptsTo_succ, List.length_append, List.length_map]
    have h1 := ptsTo_len hp a b i
    have h2 := sqs_len p p.toNat (rhs p a b i)
    omega
structure PS where
  vs : List Value
  n : Nat
  led : List (Addr × Obj)
def RPts (ps : List (Int × Int)) (news : List (Addr × Obj)) (h₀ : Heap) (L : Addr) (m : Str → Option Value) (s : Shared) (Q : Value → Shared → Prop) : Prop :=
  ∀ l vs n led h' tk', Fr h₀ L h' m → News h₀ L h' ((l, W.listOf vs.toArray n) :: led) → PtsAre led vs ps → (∀ q ∈ news, q ∈ led) → Q (.ref l) { s with heap := h', toks := tk' }
theorem c_points {news : List (Addr × Obj)} {p a_1 b : Int} {t u v : Tok} (h0 : 0 < p) (h1 : p < 100) (h2 : 0 ≤ a_1) (h3 : a_1 < p) (h4 : 0 ≤ b) (h5 : b < p) :
    Sp PR w (hd.heap_39 w.params) topProg LO mean mg mb 1 8 (call (.ref 514) [.int p t, .int a_1 u, .int b v]) news (fun _ => True) (RPts (pts p a_1 b) news) := by
  (try unfold PR LO); k_fill; w_top off
  unfold Sp
  intro dp un gd cn cs a ccd cl outer A₀ base h₀ L M s Q E B F X N T hk hd hu hpre hret
  try dsimp only at hpre
  refine wpAny_call ?_
  k_dflt cell_enter
  unfold RPts at hret
  walk_at "go"
  refine Stop.to ?_
  k_dflt (refine' newDict_K ?zk1 ?zk2 (TopRead.nolimit (by k_asm)) ?_)
  (case zk1 => k_asm)
  (case zk2 => k_asm)
  intro dd hh oo F0 N0 hlt hlo _ _ hD _
  walk_at "go"
  refine Stop.to ?_
  k_dflt (refine' lp_range p.toNat (fun c : RS => (dd, c.o) :: c.led) (fun _ => []) (fun i c => Roots w p i c ∧ (∀ q ∈ news, q ∈ c.led) ∧ (∀ q ∈ c.led, q ∈ news ∨ dd < q.1)) [Str.ofString "square"] ⟨oo, [], news⟩ rfl ?zr ?zs ?zn ?zf ?zN ?zp ?zi ?_ ?_)
  (case zr => assumption)
  (case zs => exact small_one (by omega) (by omega) (by omega) (by omega))
  (case zn => rw [rangeSize_nat, Int.sub_zero])
  (case zf => k_asm)
  (case zN => k_asm)
  (case zp => exact List.forall_mem_nil _)
  (case zi => exact ⟨Roots.init hD, fun _ h => h, fun _ h => .inl h⟩)
  · rintro I i t c u h tk it hi ⟨hR, hsub, hord⟩ hne F1 N1
    dsimp only [envOf] at F1 N1
    have hned : ∀ q ∈ c.led, q.1 ≠ dd := fun q hq => by
      rcases hord q hq with h | h
      · exact Nat.ne_of_lt (hlt q h)
      · exact Nat.ne_of_gt h
    have hId := neN (hne _ (.head _))
    dsimp only at hId
    have hneI : ∀ q ∈ c.led, q.1 ≠ I := fun q hq => hne q (.tail _ hq)
    have hi2 : (i : Int) < 100 := by omega
    have hDc := hR.1
    have hei : [(i : Int)] = [0 + (i : Int)] := by rw [Int.zero_add]
    have hlen : c.kvs.length ≤ sizeLine := by rw [sizeLine_eq]; have := hR.2.1; omega
    rcases hR.2.2 (((0 + (i : Int)) * (0 + (i : Int))).fmod p) with ⟨hv, hs⟩ | ⟨l, vs, k, hv, hm, hI⟩
    · walk_at "go"
      (rename (Obj.IsDictOf _ _ (stored _ _ _)) => hd2)
      have hR2 := Roots.step hR hd2 (by rw [Int.zero_add]) (vs := [Value.int (0 + (i : Int)) t]) (by rw [hs, List.nil_append, hei]; exact .cons _ _ .nil)
      refine lp_end _ (by k_asm) (by k_asm) ?_ (by k_dflt k_mem) ?_ (List.forall_mem_nil _) (by walk_at "same") ⟨hR2, ?_, ?_⟩
      · refine List.forall_mem_cons.mpr ⟨by k_dflt k_mem, List.forall_mem_cons.mpr ⟨by k_dflt k_mem, fun q hq => ?_⟩⟩
        repeat (first | exact hq | refine List.mem_cons_of_mem _ ?_)
      · exact List.forall_mem_cons.mpr ⟨hId, List.forall_mem_cons.mpr ⟨by k_ne, hneI⟩⟩
      · exact fun q hq => List.mem_cons_of_mem _ (hsub q hq)
      · exact List.forall_mem_cons.mpr ⟨.inr (by refine ltN ?_; dsimp only; omega), hord⟩
    · have hls : (sqs p i (((0 + (i : Int)) * (0 + (i : Int))).fmod p)).length + 1 ≤ sizeLine := by
        rw [sizeLine_eq]; have := sqs_len p i (((0 + (i : Int)) * (0 + (i : Int))).fmod p); omega
      walk_at "go"
      (rename IntsAre (vs ++ _) _ => hI2)
      (rename (Obj.IsDictOf _ _ (stored _ _ _)) => hd2)
      have hR2 := Roots.step hR hd2 (by rw [Int.zero_add]) (vs := vs ++ [Value.int (0 + (i : Int)) t]) (by rw [hei]; exact hI2)
      refine lp_end _ (by k_asm) (by k_asm) ?_ (by k_dflt k_mem) ?_ (List.forall_mem_nil _) (by walk_at "same") ⟨hR2, ?_, ?_⟩
      · refine List.forall_mem_cons.mpr ⟨by k_dflt k_mem, List.forall_mem_cons.mpr ⟨by k_dflt k_mem, fun q hq => ?_⟩⟩
        repeat (first | exact hq | refine List.mem_cons_of_mem _ ?_)
      · exact List.forall_mem_cons.mpr ⟨hId, List.forall_mem_cons.mpr ⟨by k_ne, hneI⟩⟩
      · exact fun q hq => List.mem_cons_of_mem _ (hsub q hq)
      · exact List.forall_mem_cons.mpr ⟨.inr (by refine ltN ?_; dsimp only; omega), hord⟩
  · rintro c u h tk ⟨hR, hsub, hord⟩ F1 N1
    dsimp only [envOf] at F1 N1
    iterate 4 (first | walk1 | (k_unfold; (try dsimp only); walk1))
    k_dflt (refine' newList_K ?zl1 ?zl2 ?_)
    (case zl1 => k_asm)
    (case zl2 => k_asm)
    intro pl h2 F2 N2 hpl
    walk_at "go"
    refine Stop.to ?_
    have hdd : ∀ q ∈ ((dd, c.o) :: c.led), q.1 ≠ pl := fun q hq => Nat.ne_of_lt (hpl q hq)
    k_dflt (refine' lp_range p.toNat (fun d : PS => (pl, W.listOf d.vs.toArray d.n) :: d.led) (fun _ => []) (fun i d => PtsAre d.led d.vs (ptsTo p a_1 b i) ∧ (∀ q ∈ ((dd, c.o) :: c.led), q ∈ d.led) ∧ (∀ q ∈ d.led, q ∈ ((dd, c.o) :: c.led) ∨ pl < q.1)) [Str.ofString "y"] ⟨[], 0, (dd, c.o) :: c.led⟩ rfl ?zr ?zs ?zn ?zf ?zN ?zp ?zi ?_ ?_)
    (case zr => assumption)
    (case zs => exact small_one (by omega) (by omega) (by omega) (by omega))
    (case zn => rw [rangeSize_nat, Int.sub_zero])
    (case zf => k_asm)
    (case zN => k_asm)
    (case zp => exact List.forall_mem_nil _)
    (case zi => exact ⟨.nil, fun _ h => h, fun _ h => .inl h⟩)
    · rintro I i t d u h tk it hi ⟨hP, hsub2, hord2⟩ hne F3 N3
      dsimp only [envOf] at F3 N3
      have hmd : (dd, c.o) ∈ d.led := hsub2 _ (.head _)
      have hDc := hR.1
      have hIp := neN (hne _ (.head _))
      dsimp only at hIp
      have hneI : ∀ q ∈ d.led, q.1 ≠ I := fun q hq => hne q (.tail _ hq)
      have hi2 : (i : Int) < 100 := by omega
      have hvl := hP.length
      have hpl2 := ptsTo_len h1 a_1 b i
      have hrhs : ((0 + (i : Int)) * (0 + (i : Int)) * (0 + (i : Int)) + a_1 * (0 + (i : Int)) + b).fmod p = rhs p a_1 b i := by rw [Int.zero_add]; rfl
      rcases hR.2.2 (((0 + (i : Int)) * (0 + (i : Int)) * (0 + (i : Int)) + a_1 * (0 + (i : Int)) + b).fmod p) with ⟨hv, hs⟩ | ⟨l, vs, k, hv, hm, hI⟩
      · walk_at "go"
        refine Stop.to ?_
        k_dflt (refine' lp_listL (vs := []) [] rfl ?zq1 ?zq2 ?zq3 ?_ ?_)
        (case zq2 => k_asm)
        (case zq3 => k_asm)
        (case zq1 => k_dflt k_mem)
        · intro I2 j v u h tk it2 hvj
          simp at hvj
        · intro u h tk F5 N5
          dsimp only [envOf] at F5 N5
          walk_at "go"
          refine lp_end d (by k_asm) (by k_asm) ?_ (by k_dflt k_mem) hne (List.forall_mem_nil _) (by walk_at "same") ⟨?_, hsub2, hord2⟩
          · exact fun q hq => List.mem_cons_of_mem _ (List.mem_cons_of_mem _ hq)
          · rw [ptsTo_succ, ← hrhs, hs]; simpa using hP
      · have hml : (l, W.listOf vs.toArray k) ∈ d.led := hsub2 _ (.tail _ hm)
        walk_at "go"
        refine Stop.to ?_
        (rename News _ _ _ _ => N9)
        have N4 : News _ _ _ ((I, it) :: (pl, W.listOf d.vs.toArray d.n) :: d.led) := cb_drop N9 (fun q hq => List.mem_cons_of_mem _ hq)
        k_dflt (refine' lp_list (lo := W.listOf vs.toArray k) vs (fun e : PS => (I, it) :: (pl, W.listOf e.vs.toArray e.n) :: e.led) (fun _ => []) (fun j e => PtsAre e.led e.vs (ptsTo p a_1 b i ++ ((sqs p p.toNat (rhs p a_1 b i)).take j).map fun y => ((i : Int), y)) ∧ (∀ q ∈ d.led, q ∈ e.led) ∧ (∀ q ∈ e.led, q ∈ d.led ∨ (pl < q.1 ∧ I < q.1))) [] ⟨d.vs, d.n, d.led⟩ rfl ?zq1 ?zq2 ?zq3 ?zq4 ?zq5 ?zq6 ?zq7 ?_ ?_)
        (case zq1 => exact News.isList N4 (by k_dflt k_mem))
        (case zq2 => exact fun _ _ _ he => List.mem_cons_of_mem _ (List.mem_cons_of_mem _ (he.2.1 _ hml)))
        (case zq3 => exact (N4 _ (List.mem_cons_of_mem _ (List.mem_cons_of_mem _ hml))).2.1)
        (case zq4 => k_asm)
        (case zq5 => exact N4)
        (case zq6 => exact List.forall_mem_nil _)
        (case zq7 => exact ⟨by simpa using hP, fun _ h => h, fun _ h => .inl h⟩)
        · rintro I2 j v e u h tk it2 hvj ⟨hP2, hs2, ho2⟩ hne2 F5 N5
          dsimp only [envOf] at F5 N5
          have hlt : j < (sqs p p.toNat (rhs p a_1 b i)).length := by
            rw [hrhs] at hI
            rw [← hI.length]
            exact (List.getElem?_eq_some_iff.mp hvj).1
          obtain ⟨ty, hty⟩ := (hrhs ▸ hI).get j _ (List.getElem?_eq_getElem hlt)
          obtain rfl : Value.int _ ty = v := Option.some.inj (hty.symm.trans hvj)
          have hIp2 := neN (hne2 _ (.tail _ (.head _)))
          dsimp only at hIp2
          have hnp : ∀ q ∈ e.led, q.1 ≠ pl := fun q hq => by
            rcases ho2 q hq with h | h
            · rcases hord2 q h with h | h
              · exact hdd q h
              · exact Nat.ne_of_gt h
            · exact Nat.ne_of_gt h.1
          have hnI2 : ∀ q ∈ e.led, q.1 ≠ I2 := fun q hq => hne2 q (.tail _ (.tail _ hq))
          have hII2 := neN (hne2 _ (.head _))
          dsimp only at hII2
          have hvl2 := hP2.length
          rw [List.length_append, List.length_map, List.length_take] at hvl2
          have hsl := sqs_len p p.toNat (rhs p a_1 b i)
          have hev : e.vs.length ≤ 20000 := by omega
          walk_at "go"
          (rename News _ _ _ _ => N9b)
          simp only [List.push_toArray] at N9b
          refine' lp_end ⟨e.vs ++ [Value.ref _], e.n + 1, (_, tup2 (0 + (i : Int)) t _ ty) :: e.led⟩ ?za N9b ?zb ?zc ?zd ?ze ?zf ⟨?zg, ?zh, ?zi⟩
          (case zb =>
            refine' List.forall_mem_cons.mpr ⟨?y1, List.forall_mem_cons.mpr ⟨?y2, List.forall_mem_cons.mpr ⟨?y3, fun q hq => ?y4⟩⟩⟩
            (case y1 => k_dflt k_mem)
            (case y2 => k_dflt k_mem)
            (case y3 => k_dflt k_mem)
            (case y4 => repeat (first | exact hq | refine List.mem_cons_of_mem _ ?_)))
          (case za => k_asm)
          (case zc => k_dflt k_mem)
          (case zd => exact List.forall_mem_cons.mpr ⟨hII2, List.forall_mem_cons.mpr ⟨hIp2, List.forall_mem_cons.mpr ⟨by k_ne, hnI2⟩⟩⟩)
          (case ze => exact List.forall_mem_nil _)
          (case zf => walk_at "same")
          (case zg =>
            rw [List.take_add_one, List.getElem?_eq_getElem hlt, List.map_append, ← List.append_assoc]
            refine PtsAre.app (hP2.mono fun q hq => List.mem_cons_of_mem _ hq) ?_
            refine .cons (t := t) (u := ty) ?_ .nil
            have e0 : (i : Int) = 0 + (i : Int) := (Int.zero_add _).symm
            rw [show tup2 (i : Int) t _ ty = tup2 (0 + (i : Int)) t _ ty from by rw [Int.zero_add]]
            exact .head _)
          (case zh => exact fun q hq => List.mem_cons_of_mem _ (hs2 q hq))
          (case zi => exact List.forall_mem_cons.mpr ⟨.inr ⟨by refine ltN ?_; dsimp only; omega, by refine ltN ?_; dsimp only; omega⟩, ho2⟩)
        · rintro e u h tk ⟨hP2, hs2, ho2⟩ F5 N5
          dsimp only [envOf] at F5 N5
          walk_at "go"
          refine lp_end e (by k_asm) (by k_asm) (fun q hq => List.mem_cons_of_mem _ hq) (.head _) ?_ (List.forall_mem_nil _) (by walk_at "same") ⟨?_, fun q hq => hs2 q (hsub2 q hq), ?_⟩
          · refine List.forall_mem_cons.mpr ⟨hIp, fun q hq => ?_⟩
            rcases ho2 q hq with h | h
            · exact hneI q h
            · exact Nat.ne_of_gt h.2
          · rw [ptsTo_succ]
            rwa [List.take_of_length_le (by rw [hrhs] at hI; rw [hI.length]; exact Nat.le_refl _)] at hP2
          · intro q hq
            rcases ho2 q hq with h | h
            · exact hord2 q h
            · exact .inr h.1
    · rintro d u h tk ⟨hP, hsub2, hord2⟩ F3 N3
      dsimp only [envOf] at F3 N3
      walk_at "go"
      refine hret _ _ _ _ _ _ (by k_asm) (by k_asm) hP (fun q hq => hsub2 _ (.tail _ (hsub _ hq)))
end
-- L04c
section
variable {w : World} {mean : ExcName → Option Value} {mg mb : Str → Option Value}
theorem PtsAre.at {led : List (Addr × Obj)} : ∀ {vs : List Value} {ps : List (Int × Int)} {i : Nat} {v : Value}, PtsAre led vs ps → vs[i]? = some v → ∃ x y, ps[i]? = some (x, y) ∧ ∃ r t u, v = .ref r ∧ (r, tup2 x t y u) ∈ led
  | _, _, i, _, .nil, h => by simp at h
  | _, _, 0, _, .cons (r := r) (t := t) (u := u) (x := x) (y := y) hm _, h => by
    simp only [List.getElem?_cons_zero, Option.some.injEq] at h
    exact ⟨x, y, rfl, r, t, u, h.symm, hm⟩
  | _, _, i + 1, _, .cons _ hr, h => by
    simp only [List.getElem?_cons_succ] at h ⊢
    exact hr.at h
def isPr (n : Int) : Bool := (List.range (n - 2).toNat).all (fun j : Nat => n.fmod (2 + (j : Int)) != 0) && decide (n > 1)
theorem isPr_no {n : Int} {j : Nat} (hj : j < (n - 2).toNat) (h : n.fmod (2 + (j : Int)) = 0) : isPr n = false := by
  unfold isPr
  have : (List.range (n - 2).toNat).all (fun j : Nat => n.fmod (2 + (j : Int)) != 0) = false := by
    rw [Bool.eq_false_iff]; intro e
    have := List.all_eq_true.mp e j (List.mem_range.mpr hj)
    simp [h] at this
  rw [this]; rfl
theorem isPr_yes {n : Int} (h : ∀ j : Nat, j < (n - 2).toNat → n.fmod (2 + (j : Int)) ≠ 0) : isPr n = decide (n > 1) := by
  unfold isPr
  have : (List.range (n - 2).toNat).all (fun j : Nat => n.fmod (2 + (j : Int)) != 0) = true :=
    List.all_eq_true.mpr fun j hj => by simpa using h j (List.mem_range.mp hj)
  rw [this]; rfl
theorem c_prime {news : List (Addr × Obj)} {n : Int} {t : Tok} (h0 : 0 ≤ n) (h1 : n < 100000) :
    Sp PR w (hd.heap_39 w.params) topProg LO mean mg mb 1 8 (call (.ref 528) [.int n t]) news (fun _ => True) (RBool (isPr n) news) := by
  (try unfold PR LO); k_fill; w_top off
  unfold Sp
  intro dp un gd cn cs a ccd cl outer A₀ base h₀ L M s Q E B F X N T hk hd hu hpre hret
  try dsimp only at hpre
  refine wpAny_call ?_
  k_dflt cell_enter
  unfold RBool at hret
  walk_at "go"
  refine Stop.to ?_
  k_dflt (refine' lp_rangeP (n - 2).toNat [] (fun i => ∀ j : Nat, j < i → n.fmod (2 + (j : Int)) ≠ 0) rfl ?zr ?zs ?zn ?zf ?zN ?zi ?_ ?_)
  (case zr => assumption)
  (case zs => exact small_one (by omega) (by omega) (by omega) (by omega))
  (case zn => rw [rangeSize_nat])
  (case zf => k_asm)
  (case zN => k_asm)
  (case zi => intro j hj; omega)
  · intro I i t u h tk it hi hinv hne F1 N1
    dsimp only [envOf] at F1 N1
    walk_at "go"
    · refine cb_retB (fun _ => hret) (isPr_no hi (by assumption)).symm (by assumption) (cb_drop (by assumption) fun p hp => List.mem_cons_of_mem _ hp)
    · refine lp_endP (by k_asm) (by k_asm) (fun p hp => List.mem_cons_of_mem _ hp) (List.mem_cons_self ..) hne (by walk_at "same") ?_
      intro j hj
      rcases Nat.lt_or_eq_of_le (Nat.le_of_lt_succ hj) with h | rfl
      · exact hinv j h
      · assumption
  · intro u h tk hinv F1 N1
    dsimp only [envOf] at F1 N1
    walk_at "go"
    exact cb_retB (fun _ => hret) (isPr_yes hinv).symm (by assumption) (by assumption)
def fine (p a : Int) (ps : List (Int × Int)) : Bool := ps.all (fun q => q.2 != 0 && (3 * q.1 * q.1 + a).fmod p != 0) && decide (ps.length > 2)
theorem fine_no {p a : Int} {ps : List (Int × Int)} {i : Nat} {x y : Int} (hi : ps[i]? = some (x, y)) (h : y = 0 ∨ (3 * x * x + a).fmod p = 0) : fine p a ps = false := by
  unfold fine
  have : ps.all (fun q => q.2 != 0 && (3 * q.1 * q.1 + a).fmod p != 0) = false := by
    rw [Bool.eq_false_iff]; intro e
    have := List.all_eq_true.mp e _ (List.mem_of_getElem? hi)
    rcases h with h | h <;> simp [h] at this
  rw [this]; rfl
theorem c_fine {news : List (Addr × Obj)} {p a_1 : Int} {t u : Tok} {l : Addr} {vs : List Value} {n : Nat} {ps : List (Int × Int)} (h0 : 0 < p) (h1 : p < 100) (h2 : 0 ≤ a_1) (h3 : a_1 < p) (hm : (l, W.listOf vs.toArray n) ∈ news) (hp : PtsAre news vs ps) (hlen : vs.length < 100000)
    (hb : ∀ q ∈ ps, 0 ≤ q.1 ∧ q.1 < 100) :
    Sp PR w (hd.heap_39 w.params) topProg LO mean mg mb 1 8 (call (.ref 521) [.int p t, .int a_1 u, .ref l]) news (fun _ => True) (RBool (fine p a_1 ps) news) := by
  (try unfold PR LO); k_fill
  unfold Sp
  intro dp un gd cn cs a ccd cl outer A₀ base h₀ L M s Q E B F X N T hk hd hu hpre hret
  try dsimp only at hpre
  refine wpAny_call ?_
  k_dflt cell_enter
  unfold RBool at hret
  walk_at "go"
  refine Stop.to ?_
  k_dflt (refine' lp_listP [] (fun i => (ps.take i).all (fun q => q.2 != 0 && (3 * q.1 * q.1 + a_1).fmod p != 0) = true) rfl ?zm ?zf ?zN ?zi ?_ ?_)
  (case zf => k_asm)
  (case zN => k_asm)
  (case zm => k_dflt k_mem)
  (case zi => rfl)
  · intro I i v u h tk it hv hinv hne F1 N1
    dsimp only [envOf] at F1 N1
    obtain ⟨x, y, hps, r, t1, t2, rfl, hmr⟩ := hp.at hv
    have hbx := hb _ (List.mem_of_getElem? hps)
    dsimp only at hbx
    walk_at "go"
    · refine cb_retB (fun _ => hret) (fine_no hps ?_).symm (by assumption) (cb_drop (by assumption) fun p hp => List.mem_cons_of_mem _ hp)
      exact .inl (by assumption)
    · refine cb_retB (fun _ => hret) (fine_no hps ?_).symm (by assumption) (cb_drop (by assumption) fun p hp => List.mem_cons_of_mem _ hp)
      exact .inr (by assumption)
    · refine lp_endP (by k_asm) (by k_asm) (fun p hp => List.mem_cons_of_mem _ hp) (List.mem_cons_self ..) hne (by walk_at "same") ?_
      rw [List.take_add_one, hps, List.all_append, hinv]
      rename (Int.fmod _ _ ≠ 0) => hz
      rename (y ≠ 0) => hy
      simp [hz, hy]
  · intro u h tk hinv F1 N1
    dsimp only [envOf] at F1 N1
    have hvl := hp.length
    walk_at "go"
    refine cb_retB (fun _ => hret) ?_ (by assumption) (by assumption)
    rw [List.take_of_length_le (by omega)] at hinv
    unfold fine
    rw [hinv, Bool.true_and]
    simp only [decide_eq_decide]
    omega
end
-- L04d
section
local macro_rules | `(tactic| walk_at "call ref") => `(tactic| (
  k_here
  (with_reducible show wpAny _ _ (PySem.call (Value.ref 493) _) _ _ _)
  k_dflt (refine' Sp.use (c_cell ?q1 ?q2 ?q3 ?q4) ?k1 ?k2 ?k3 ?k4 ?k5 ?k6 ?k7 ?k8 ?k9 ?_; walk_at "use"; (case q1 => k_asm); (case q2 => omega); (case q3 => omega); (case q4 => omega)); unfold RInt; intro t9 h9 tk9 F9 N9; (try dsimp only); (try k_sweep); (try k_fold)))
local macro_rules | `(tactic| walk_at "call ref") => `(tactic| (
  k_here
  (with_reducible show wpAny _ _ (PySem.call (Value.ref 500) _) _ _ _)
  k_dflt (refine' Sp.use (c_linv ?q1 ?q2 ?q3 ?q4) ?k1 ?k2 ?k3 ?k4 ?k5 ?k6 ?k7 ?k8 ?k9 ?_; walk_at "use"; (case q1 => omega); (case q2 => omega); (case q3 => omega); (case q4 => omega)); unfold RInt; intro t9 h9 tk9 F9 N9; (try dsimp only); (try k_sweep); (try k_fold)))
local macro_rules | `(tactic| walk_at "call ref") => `(tactic| (
  k_here
  (with_reducible show wpAny _ _ (PySem.call (Value.ref 528) _) _ _ _)
  k_dflt (refine' Sp.use (c_prime ?q1 ?q2) ?k1 ?k2 ?k3 ?k4 ?k5 ?k6 ?k7 ?k8 ?k9 ?_; walk_at "use"; (case q1 => omega); (case q2 => omega)); unfold RBool; intro h9 tk9 F9 N9; (try dsimp only); (try k_sweep); (try k_fold)))
variable {w : World} {mean : ExcName → Option Value} {mg mb : Str → Option Value}
/-- a point or None -/
def Pt (led : List (Addr × Obj)) (v : Value) : Option (Int × Int) → Prop
  | none => v = .none
  | some q => ∃ r t u, v = .ref r ∧ (r, tup2 q.1 t q.2 u) ∈ led
def lsum (p a : Int) (one two : Option (Int × Int)) : Option (Int × Int) := match one, two with
  | none, t => t
  | o, none => o
  | some o, some t =>
    if o.1 = t.1 ∧ (o.2 + t.2).fmod p = 0 then none
    else
      let s := if o.1 = t.1 then (3 * o.1 * o.1 + a) * linv p (2 * o.2) else (t.2 - o.2) * linv p (t.1 - o.1)
      let x := (s * s - o.1 - t.1).fmod p
      some (x, (s * (o.1 - x) - o.2).fmod p)
/-- what a sum hands back: None over the ledger as it was, or a new tuple -/
def RSum (o : Option (Int × Int)) (news : List (Addr × Obj)) (h₀ : Heap) (L : Addr) (m : Str → Option Value) (s : Shared) (Q : Value → Shared → Prop) : Prop := match o with
  | none => ∀ h' tk', Fr h₀ L h' m → News h₀ L h' news → Q .none { s with heap := h', toks := tk' }
  | some q => ∀ D t u h' tk', Fr h₀ L h' m → News h₀ L h' ((D, tup2 q.1 t q.2 u) :: news) → (∀ n ∈ news, n.1 < D) → Q (.ref D) { s with heap := h', toks := tk' }
def RV (v : Value) (news : List (Addr × Obj)) (h₀ : Heap) (L : Addr) (m : Str → Option Value) (s : Shared) (Q : Value → Shared → Prop) : Prop :=
  ∀ h' tk', Fr h₀ L h' m → News h₀ L h' news → Q v { s with heap := h', toks := tk' }
theorem linv_bd {p v : Int} (h : 0 < p) : 0 ≤ linv p v ∧ linv p v < p := by
  unfold linv
  split
  · rename_i k hk
    have := List.mem_range.mp (List.mem_of_find?_eq_some hk)
    omega
  · omega
theorem linv_bits {p v : Int} (h : 0 < p) (h1 : p < 100) : Builtin.Int.intBits (linv p v) ≤ 64 := by
  have := linv_bd (v := v) h
  exact intBits_le_64 (by omega) (by omega)
local macro_rules | `(tactic| bits_by_make) => `(tactic| (refine linv_bits ?_ ?_; omega; omega))
theorem lsum_none {p a x1 y1 x2 y2 : Int} (h1 : x1 = x2) (h2 : (y1 + y2).fmod p = 0) : lsum p a (some (x1, y1)) (some (x2, y2)) = none := by
  unfold lsum; exact if_pos ⟨h1, h2⟩
theorem lsum_dbl {p a x1 y1 x2 y2 : Int} (h1 : x1 = x2) (h2 : ¬ (y1 + y2).fmod p = 0) : lsum p a (some (x1, y1)) (some (x2, y2)) =
    some ((((3 * x1 * x1 + a) * linv p (2 * y1)) * ((3 * x1 * x1 + a) * linv p (2 * y1)) - x1 - x2).fmod p, (((3 * x1 * x1 + a) * linv p (2 * y1)) * (x1 - (((3 * x1 * x1 + a) * linv p (2 * y1)) * ((3 * x1 * x1 + a) * linv p (2 * y1)) - x1 - x2).fmod p) - y1).fmod p) := by
  unfold lsum; dsimp only; rw [if_neg (fun h => h2 h.2), if_pos h1]
theorem lsum_add {p a x1 y1 x2 y2 : Int} (h1 : ¬ x1 = x2) : lsum p a (some (x1, y1)) (some (x2, y2)) =
    some ((((y2 - y1) * linv p (x2 - x1)) * ((y2 - y1) * linv p (x2 - x1)) - x1 - x2).fmod p, (((y2 - y1) * linv p (x2 - x1)) * (x1 - (((y2 - y1) * linv p (x2 - x1)) * ((y2 - y1) * linv p (x2 - x1)) - x1 - x2).fmod p) - y1).fmod p) := by
  unfold lsum; dsimp only; rw [if_neg (fun h => h1 h.1), if_neg h1]
theorem c_sum_nn {news : List (Addr × Obj)} {p a_1 : Int} {t u : Tok} {r : Addr} :
    Sp PR w (hd.heap_39 w.params) topProg LO mean mg mb 2 20 (call (.ref 507) [.int p t, .int a_1 u, .none, .ref r]) news (fun _ => True) (RV (.ref r) news) := by
  (try unfold PR LO); k_fill; w_top off
  unfold Sp
  intro dp un gd cn cs a ccd cl outer A₀ base h₀ L M s Q E B F X N T hk hd hu hpre hret
  try dsimp only at hpre
  refine wpAny_call ?_
  k_dflt cell_enter
  unfold RV at hret
  walk_at "go"
  exact hret _ _ (by assumption) (by assumption)
theorem c_sum_ss {news : List (Addr × Obj)} {p a_1 : Int} {t u : Tok} {r1 r2 : Addr} {x1 y1 x2 y2 : Int} {t1 t2 t3 t4 : Tok} {o : Option (Int × Int)} (hl : lsum p a_1 (some (x1, y1)) (some (x2, y2)) = o) (h0 : 0 < p) (h1 : p < 100) (h2 : 0 ≤ a_1) (h3 : a_1 < p)
    (m1 : (r1, tup2 x1 t1 y1 t2) ∈ news) (m2 : (r2, tup2 x2 t3 y2 t4) ∈ news) (b1 : 0 ≤ x1 ∧ x1 < 100 ∧ 0 ≤ y1 ∧ y1 < 100) (b2 : 0 ≤ x2 ∧ x2 < 100 ∧ 0 ≤ y2 ∧ y2 < 100) :
    Sp PR w (hd.heap_39 w.params) topProg LO mean mg mb 2 20 (call (.ref 507) [.int p t, .int a_1 u, .ref r1, .ref r2]) news (fun _ => True) (RSum o news) := by
  (try unfold PR LO); k_fill
  unfold Sp
  intro dp un gd cn cs a ccd cl outer A₀ base h₀ L M s Q E B F X N T hk hd hu hpre hret
  try dsimp only at hpre
  refine wpAny_call ?_
  k_dflt cell_enter
  subst hl
  walk_at "go"
  · rw [lsum_none (by assumption) (by assumption)] at hret
    exact hret _ _ (by assumption) (by assumption)
  · rw [lsum_dbl (by assumption) (by assumption)] at hret
    exact hret _ _ _ _ _ (by assumption) (by assumption) (by assumption)
  · rw [lsum_add (by assumption)] at hret
    exact hret _ _ _ _ _ (by assumption) (by assumption) (by assumption)
end
-- L04e
section
local macro_rules | `(tactic| walk_at "call ref") => `(tactic| (
  k_here
  (with_reducible show wpAny _ _ (PySem.call (Value.ref 493) _) _ _ _)
  k_dflt (refine' Sp.use (c_cell ?q1 ?q2 ?q3 ?q4) ?k1 ?k2 ?k3 ?k4 ?k5 ?k6 ?k7 ?k8 ?k9 ?_; walk_at "use"; (case q1 => k_asm); (case q2 => omega); (case q3 => omega); (case q4 => omega)); unfold RInt; intro t9 h9 tk9 F9 N9; (try dsimp only); (try k_sweep); (try k_fold)))
local macro_rules | `(tactic| walk_at "call ref") => `(tactic| (
  k_here
  (with_reducible show wpAny _ _ (PySem.call (Value.ref 500) _) _ _ _)
  k_dflt (refine' Sp.use (c_linv ?q1 ?q2 ?q3 ?q4) ?k1 ?k2 ?k3 ?k4 ?k5 ?k6 ?k7 ?k8 ?k9 ?_; walk_at "use"; (case q1 => omega); (case q2 => omega); (case q3 => omega); (case q4 => omega)); unfold RInt; intro t9 h9 tk9 F9 N9; (try dsimp only); (try k_sweep); (try k_fold)))
local macro_rules | `(tactic| walk_at "call ref") => `(tactic| (
  k_here
  (with_reducible show wpAny _ _ (PySem.call (Value.ref 528) _) _ _ _)
  k_dflt (refine' Sp.use (c_prime ?q1 ?q2) ?k1 ?k2 ?k3 ?k4 ?k5 ?k6 ?k7 ?k8 ?k9 ?_; walk_at "use"; (case q1 => omega); (case q2 => omega)); unfold RBool; intro h9 tk9 F9 N9; (try dsimp only); (try k_sweep); (try k_fold)))
local macro_rules | `(tactic| k_all) => `(tactic| with_reducible assumption)
local macro_rules | `(tactic| walk_at "call ref") => `(tactic| (
  k_here; (with_reducible show wpAny _ _ (PySem.call (Value.ref 507) _) _ _ _)
  k_dflt (refine' Sp.use c_sum_nn ?k1 ?k2 ?k3 ?k4 ?k5 ?k6 ?k7 ?k8 ?k9 ?_; walk_at "use"); unfold RV; intro h9 tk9 F9 N9; (try dsimp only); (try k_sweep); (try k_fold)))
local macro_rules | `(tactic| walk_at "call ref") => `(tactic| (
  k_here; (with_reducible show wpAny _ _ (PySem.call (Value.ref 507) _) _ _ _)
  k_dflt (refine' Sp.use (c_sum_ss ?q1 ?q2 ?q3 ?q4 ?q5 ?q6 ?q7 ?q8 ?q9) ?k1 ?k2 ?k3 ?k4 ?k5 ?k6 ?k7 ?k8 ?k9 ?_; walk_at "use"; (case q6 => k_mem); (case q7 => k_mem); (case q1 => assumption); (case q2 => omega); (case q3 => omega); (case q4 => omega); (case q5 => omega); (case q8 => assumption); (case q9 => assumption)); unfold RSum; dsimp only; first | (intro D9 t9 u9 h9 tk9 F9 N9 l1; (try k_lt l1); (try dsimp only); (try k_sweep); (try k_fold)) | (intro h9 tk9 F9 N9; (try dsimp only); (try k_sweep); (try k_fold))))
variable {w : World} {mean : ExcName → Option Value} {mg mb : Str → Option Value}
theorem item_last {prog : Program} {w : World} {A : Around} {E : Value → Shared → Prop} {s : Shared} {h₀ : Heap} {L : Addr} {news : List (Addr × Obj)} {value slice : PySem.Expr} {l : Addr} {ws : List Value} {v : Value} {n : Nat} {k : Int} {u : Tok} {Q : Value → Shared → Prop} (N : News h₀ L s.heap news) (hm : (l, W.listOf (ws ++ [v]).toArray n) ∈ news) (hk : k = -1) (h : Q v s)
    (hs : subscripted slice false (.ref l) (.int k u) = operate [.ref l, .int k u] (getItem (.ref l) (.int k u))) :
    wpAny (model prog w) A (subscriptTail value slice (.ref l) (.int k u)) Q E s := by
  subst hk
  refine kde_neg (vs := ws ++ [v]) (j := ws.length) (News.isList N hm) (by decide) (by decide) ?_ (by simp) h hs
  rw [List.length_append]
  unfold seqIndex?
  simp
  try omega
local macro_rules | `(tactic| walk_at "subscriptTail") => `(tactic| (
  k_here; (with_reducible show wpAny _ _ (subscriptTail _ _ (Value.ref _) (Value.int _ _)) _ _ _)
  k_dflt (refine' item_last ?q1 ?q2 ?q3 ?_ ?q4; (case q1 => k_asm); (case q2 => k_mem); (case q3 => rfl); (case q4 => with_unfolding_all rfl))))
def mult (p a : Int) (q : Int × Int) : Nat → Option (Int × Int)
  | 0 => none
  | i + 1 => lsum p a (mult p a q i) (some q)
inductive RowAre (led : List (Addr × Obj)) : List Value → List (Option (Int × Int)) → Prop
  | nil : RowAre led [] []
  | snoc {vs : List Value} {os : List (Option (Int × Int))} {v : Value} {o : Option (Int × Int)} : RowAre led vs os → Pt led v o → RowAre led (vs ++ [v]) (os ++ [o])
def mrow (p a : Int) (q : Int × Int) (n : Nat) : List (Option (Int × Int)) := (List.range n).map (mult p a q)
theorem mrow_succ (p a : Int) (q : Int × Int) (n : Nat) : mrow p a q (n + 1) = mrow p a q n ++ [mult p a q n] := by
  unfold mrow; rw [List.range_succ, List.map_append]; rfl
theorem Pt.mono {led led' : List (Addr × Obj)} (hs : ∀ q ∈ led, q ∈ led') {v : Value} : ∀ {o : Option (Int × Int)}, Pt led v o → Pt led' v o
  | none, h => h
  | some _, ⟨r, t, u, e, hm⟩ => ⟨r, t, u, e, hs _ hm⟩
theorem RowAre.mono {led led' : List (Addr × Obj)} (hs : ∀ q ∈ led, q ∈ led') {vs : List Value} {os : List (Option (Int × Int))} (h : RowAre led vs os) : RowAre led' vs os := by
  induction h with
  | nil => exact .nil
  | snoc _ hp ih => exact .snoc ih (hp.mono hs)
theorem RowAre.length {led : List (Addr × Obj)} {vs : List Value} {os : List (Option (Int × Int))} (h : RowAre led vs os) : vs.length = os.length := by
  induction h with
  | nil => rfl
  | snoc _ _ ih => simp [ih]
theorem fmod_bd {x p : Int} (h0 : 0 < p) (h1 : p < 100) : 0 ≤ x.fmod p ∧ x.fmod p < 100 := by
  have := Int.fmod_nonneg_of_pos x h0
  have := Int.fmod_lt_of_pos x h0
  omega
theorem lsum_bd {p a : Int} (h0 : 0 < p) (h1 : p < 100) {o t : Option (Int × Int)} (ho : ∀ q, o = some q → 0 ≤ q.1 ∧ q.1 < 100 ∧ 0 ≤ q.2 ∧ q.2 < 100) (ht : ∀ q, t = some q → 0 ≤ q.1 ∧ q.1 < 100 ∧ 0 ≤ q.2 ∧ q.2 < 100) :
    ∀ q, lsum p a o t = some q → 0 ≤ q.1 ∧ q.1 < 100 ∧ 0 ≤ q.2 ∧ q.2 < 100 := by
  intro q hq
  match o, t with
  | none, t => exact ht q hq
  | some o, none => exact ho q hq
  | some o, some t =>
    unfold lsum at hq
    dsimp only at hq
    split at hq
    · cases hq
    · obtain rfl := Option.some.inj hq
      exact ⟨(fmod_bd h0 h1).1, (fmod_bd h0 h1).2, (fmod_bd h0 h1).1, (fmod_bd h0 h1).2⟩
theorem mult_bd {p a : Int} {q : Int × Int} (h0 : 0 < p) (h1 : p < 100) (hb : 0 ≤ q.1 ∧ q.1 < 100 ∧ 0 ≤ q.2 ∧ q.2 < 100) : ∀ i, ∀ r, mult p a q i = some r → 0 ≤ r.1 ∧ r.1 < 100 ∧ 0 ≤ r.2 ∧ r.2 < 100
  | 0, r, h => by cases h
  | i + 1, r, h => lsum_bd h0 h1 (mult_bd h0 h1 hb i) (fun _ e => by cases e; exact hb) r h
structure WS where
  ws : List Value
  v : Value
  n : Nat
  led : List (Addr × Obj)
def RRow (os : List (Option (Int × Int))) (news : List (Addr × Obj)) (h₀ : Heap) (L : Addr) (m : Str → Option Value) (s : Shared) (Q : Value → Shared → Prop) : Prop :=
  ∀ l vs n led h' tk', Fr h₀ L h' m → News h₀ L h' ((l, W.listOf vs.toArray n) :: led) → RowAre led vs os → (∀ q ∈ news, q ∈ led) → Q (.ref l) { s with heap := h', toks := tk' }
theorem c_row {news : List (Addr × Obj)} {p a_1 x y sz : Int} {t u t0 t1 t2 : Tok} {r : Addr} (h0 : 0 < p) (h1 : p < 100) (h2 : 0 ≤ a_1) (h3 : a_1 < p) (hm : (r, tup2 x t0 y t1) ∈ news) (hb : 0 ≤ x ∧ x < 100 ∧ 0 ≤ y ∧ y < 100) (hs : 1 ≤ sz) (hs2 : sz < 100000) :
    Sp PR w (hd.heap_39 w.params) topProg LO mean mg mb 3 28 (call (.ref 542) [.int p t, .int a_1 u, .ref r, .int sz t2]) news (fun _ => True) (RRow (mrow p a_1 (x, y) sz.toNat) news) := by
  (try unfold PR LO); k_fill; w_top off
  unfold Sp
  intro dp un gd cn cs a ccd cl outer A₀ base h₀ L M s Q E B F X N T hk hd hu hpre hret
  try dsimp only at hpre
  refine wpAny_call ?_
  k_dflt cell_enter
  unfold RRow at hret
  iterate 7 (first | walk1 | (k_unfold; (try dsimp only); walk1))
  k_dflt (refine' newList_K ?zl1 ?zl2 ?_)
  (case zl1 => k_asm)
  (case zl2 => k_asm)
  intro rl h2' F2 N2 hrl
  walk_at "go"
  refine Stop.to ?_
  k_dflt (refine' lp_range (sz - 1).toNat (fun d : WS => (rl, W.listOf (d.ws ++ [d.v]).toArray d.n) :: d.led) (fun _ => []) (fun i d => RowAre d.led d.ws (mrow p a_1 (x, y) i) ∧ Pt d.led d.v (mult p a_1 (x, y) i) ∧ (∀ q ∈ news, q ∈ d.led) ∧ (∀ q ∈ d.led, q ∈ news ∨ rl < q.1)) [] ⟨[], .none, 0, news⟩ rfl ?zr ?zs ?zn ?zf ?zN ?zp ?zi ?_ ?_)
  (case zr => assumption)
  (case zs => exact small_one (by omega) (by omega) (by omega) (by omega))
  (case zn => rw [rangeSize_nat])
  (case zf => k_asm)
  (case zN => k_asm)
  (case zp => exact List.forall_mem_nil _)
  (case zi => exact ⟨.nil, rfl, fun _ h => h, fun _ h => .inl h⟩)
  · rintro I i t d u h tk it hi ⟨hR, hP, hsub, hord⟩ hne F3 N3
    dsimp only [envOf] at F3 N3
    have hIr := neN (hne _ (.head _))
    dsimp only at hIr
    have hneI : ∀ q ∈ d.led, q.1 ≠ I := fun q hq => hne q (.tail _ hq)
    have hner : ∀ q ∈ d.led, q.1 ≠ rl := fun q hq => by
      rcases hord q hq with h | h
      · exact Nat.ne_of_lt (hrl q h)
      · exact Nat.ne_of_gt h
    have hmd := hsub _ hm
    have hlen := hR.length
    rw [mrow, List.length_map, List.length_range] at hlen
    have hbq := mult_bd (a := a_1) (q := (x, y)) h0 h1 hb i
    rcases hq : mult p a_1 (x, y) i with _ | q1
    · rw [hq] at hP
      obtain ⟨ws, v, n, led⟩ := d
      obtain rfl : v = .none := hP
      dsimp only at *
      walk_at "go"
      (rename News _ _ _ _ => N9)
      simp only [List.push_toArray] at N9
      refine' lp_end ⟨ws ++ [.none], .ref r, n + 1, led⟩ ?za N9 ?zb ?zc ?zd ?ze ?zf ⟨?zg, ?zh, ?zi, ?zj⟩
      (case zb => exact fun q hq => List.mem_cons_of_mem _ hq)
      (case za => k_asm)
      (case zc => k_dflt k_mem)
      (case zd => exact List.forall_mem_cons.mpr ⟨hIr, hneI⟩)
      (case ze => exact List.forall_mem_nil _)
      (case zf => walk_at "same")
      (case zg => rw [mrow_succ, hq]; exact .snoc hR rfl)
      (case zh => (show Pt led _ (lsum p a_1 (mult p a_1 (x, y) i) (some (x, y)))); rw [hq]; exact ⟨r, t0, t1, rfl, hmd⟩)
      (case zi => exact hsub)
      (case zj => exact hord)
    · rw [hq] at hP hbq
      obtain ⟨ws, v, n, led⟩ := d
      obtain ⟨r1, ta, tb, rfl, hm1⟩ := hP
      have hb1 := hbq _ rfl
      dsimp only at *
      rcases hl : lsum p a_1 (some (q1.1, q1.2)) (some (x, y)) with _ | q2
      · skip
        walk_at "go"
        (rename News _ _ _ _ => N9)
        simp only [List.push_toArray] at N9
        refine' lp_end ⟨ws ++ [.ref r1], .none, n + 1, led⟩ ?za N9 ?zb ?zc ?zd ?ze ?zf ⟨?zg, ?zh, ?zi, ?zj⟩
        (case zb => exact fun q hq => List.mem_cons_of_mem _ hq)
        (case za => k_asm)
        (case zc => k_dflt k_mem)
        (case zd => exact List.forall_mem_cons.mpr ⟨hIr, hneI⟩)
        (case ze => exact List.forall_mem_nil _)
        (case zf => walk_at "same")
        (case zg => rw [mrow_succ, hq]; exact .snoc hR ⟨r1, ta, tb, rfl, hm1⟩)
        (case zh => (show Pt led _ (lsum p a_1 (mult p a_1 (x, y) i) (some (x, y)))); rw [hq]; (show Pt led _ (lsum p a_1 (some (q1.1, q1.2)) (some (x, y)))); rw [hl]; exact rfl)
        (case zi => exact hsub)
        (case zj => exact hord)
      · skip
        walk_at "go"
        (rename News _ _ _ _ => N9)
        simp only [List.push_toArray] at N9
        refine' lp_end ⟨ws ++ [.ref r1], .ref _, n + 1, (_, tup2 q2.1 _ q2.2 _) :: led⟩ ?za N9 ?zb ?zc ?zd ?ze ?zf ⟨?zg, ?zh, ?zi, ?zj⟩
        (case zb => refine' List.forall_mem_cons.mpr ⟨?y1, List.forall_mem_cons.mpr ⟨?y2, ?y3⟩⟩; (case y1 => k_dflt k_mem); (case y2 => k_dflt k_mem); (case y3 => exact fun q hq => List.mem_cons_of_mem _ (List.mem_cons_of_mem _ (List.mem_cons_of_mem _ hq))))
        (case za => k_asm)
        (case zc => k_dflt k_mem)
        (case zd => exact List.forall_mem_cons.mpr ⟨hIr, List.forall_mem_cons.mpr ⟨by k_ne, hneI⟩⟩)
        (case ze => exact List.forall_mem_nil _)
        (case zf => walk_at "same")
        (case zg => rw [mrow_succ, hq]; exact .snoc (hR.mono fun q hq => List.mem_cons_of_mem _ hq) ⟨r1, ta, tb, rfl, List.mem_cons_of_mem _ hm1⟩)
        (case zh => (show Pt _ _ (lsum p a_1 (mult p a_1 (x, y) i) (some (x, y)))); rw [hq]; (show Pt _ _ (lsum p a_1 (some (q1.1, q1.2)) (some (x, y)))); rw [hl]; exact ⟨_, _, _, rfl, .head _⟩)
        (case zi => exact fun q hq => List.mem_cons_of_mem _ (hsub q hq))
        (case zj => exact List.forall_mem_cons.mpr ⟨.inr (by refine ltN ?_; dsimp only; omega), hord⟩)
  · rintro d u h tk ⟨hR, hP, hsub, hord⟩ F3 N3
    dsimp only [envOf] at F3 N3
    walk_at "go"
    refine hret _ _ _ _ _ _ (by k_asm) (by k_asm) ?_ hsub
    have e : sz.toNat = (sz - 1).toNat + 1 := by omega
    rw [e, mrow_succ]
    exact .snoc hR hP
end
-- L04f
section
local macro_rules | `(tactic| walk_at "call ref") => `(tactic| (
  k_here
  (with_reducible show wpAny _ _ (PySem.call (Value.ref 493) _) _ _ _)
  k_dflt (refine' Sp.use (c_cell ?q1 ?q2 ?q3 ?q4) ?k1 ?k2 ?k3 ?k4 ?k5 ?k6 ?k7 ?k8 ?k9 ?_; walk_at "use"; (case q1 => k_asm); (case q2 => omega); (case q3 => omega); (case q4 => omega)); unfold RInt; intro t9 h9 tk9 F9 N9; (try dsimp only); (try k_sweep); (try k_fold)))
local macro_rules | `(tactic| walk_at "call ref") => `(tactic| (
  k_here
  (with_reducible show wpAny _ _ (PySem.call (Value.ref 500) _) _ _ _)
  k_dflt (refine' Sp.use (c_linv ?q1 ?q2 ?q3 ?q4) ?k1 ?k2 ?k3 ?k4 ?k5 ?k6 ?k7 ?k8 ?k9 ?_; walk_at "use"; (case q1 => omega); (case q2 => omega); (case q3 => omega); (case q4 => omega)); unfold RInt; intro t9 h9 tk9 F9 N9; (try dsimp only); (try k_sweep); (try k_fold)))
local macro_rules | `(tactic| walk_at "call ref") => `(tactic| (
  k_here
  (with_reducible show wpAny _ _ (PySem.call (Value.ref 528) _) _ _ _)
  k_dflt (refine' Sp.use (c_prime ?q1 ?q2) ?k1 ?k2 ?k3 ?k4 ?k5 ?k6 ?k7 ?k8 ?k9 ?_; walk_at "use"; (case q1 => omega); (case q2 => omega)); unfold RBool; intro h9 tk9 F9 N9; (try dsimp only); (try k_sweep); (try k_fold)))
local macro_rules | `(tactic| walk_at "call ref") => `(tactic| (
  k_here
  (with_reducible show wpAny _ _ (PySem.call (Value.ref 514) _) _ _ _)
  k_dflt (refine' Sp.use (c_points ?q1 ?q2 ?q3 ?q4 ?q5 ?q6) ?k1 ?k2 ?k3 ?k4 ?k5 ?k6 ?k7 ?k8 ?k9 ?_; walk_at "use"; (case q1 => omega); (case q2 => omega); (case q3 => omega); (case q4 => omega); (case q5 => omega); (case q6 => omega)); unfold RPts; intro l9 vs9 n9 led9 h9 tk9 F9 N9 hp9 hs9; have hv9 := PtsAre.length hp9; (try dsimp only); (try k_sweep); (try k_fold)))
local macro_rules | `(tactic| walk_at "call ref") => `(tactic| (
  k_here
  (with_reducible show wpAny _ _ (PySem.call (Value.ref 521) _) _ _ _)
  k_dflt (refine' Sp.use (c_fine ?q1 ?q2 ?q3 ?q4 ?q5 ?q6 ?q7 ?q8) ?k1 ?k2 ?k3 ?k4 ?k5 ?k6 ?k7 ?k8 ?k9 ?_; walk_at "use"; (case q1 => omega); (case q2 => omega); (case q3 => omega); (case q4 => omega); (case q5 => k_dflt k_mem); (case q6 => first | assumption | exact PtsAre.mono (fun q hq => List.mem_cons_of_mem _ hq) (by assumption)); (case q7 => omega); (case q8 => assumption)); unfold RBool; intro h9 tk9 F9 N9; (try dsimp only); (try k_sweep); (try k_fold)))
variable {w : World} {mean : ExcName → Option Value} {mg mb : Str → Option Value}
theorem ps_cons {m : Str → Option Value} {n : Str} {v : Value} {r : List (Str × Value)} (h : m n = some v) (hr : ∀ p ∈ r, m p.1 = some p.2) : ∀ p ∈ (n, v) :: r, m p.1 = some p.2 := List.forall_mem_cons.mpr ⟨h, hr⟩
theorem lp_end_ab {news : List (Addr × Obj)} {n1 n2 x : Str} {Inv : Int × Tok × Int × Tok → Prop} {stored : List Str} {m₀ m' : Str → Option Value} {h₀ : Heap} {L I : Addr} {it : Obj} {s₁ : Shared} {h' : Heap} {tk : Nat} {news' : List (Addr × Obj)} {A B : Int} {tA tB : Tok}
    (F : Fr h₀ L h' m') (N : News h₀ L h' news') (hin : ∀ p ∈ news, p ∈ news') (hI : (I, it) ∈ news') (hne : ∀ p ∈ news, p.1 ≠ I) (hA : m' n1 = some (.int A tA)) (hB : m' n2 = some (.int B tB)) (hs : ∀ z, z ≠ x → stored.contains z = false → m' z = m₀ z) (hi : Inv (A, tA, B, tB)) :
    LpEnd (fun _ => news) (fun c : Int × Tok × Int × Tok => [(n1, Value.int c.1 c.2.1), (n2, Value.int c.2.2.1 c.2.2.2)]) Inv stored x m₀ h₀ L I it s₁ { s₁ with heap := h', toks := tk } :=
  lp_end (A, tA, B, tB) F N hin hI hne (ps_cons hA (ps_cons hB (List.forall_mem_nil _))) hs hi
abbrev primes : List Int := [5, 7, 11, 13, 17, 19, 23]
def Good (p a b : Int) : Prop := p ∈ primes ∧ 0 ≤ a ∧ a < p ∧ 0 ≤ b ∧ b < p ∧ (pts p a b).length > 3 ∧ isPr ((pts p a b).length + 1) = true ∧ fine p a (pts p a b) = true
def RCurve (news : List (Addr × Obj)) (h₀ : Heap) (L : Addr) (m : Str → Option Value) (s : Shared) (Q : Value → Shared → Prop) : Prop :=
  (∀ h' tk', Fr h₀ L h' m → News h₀ L h' news → Q .none { s with heap := h', toks := tk' }) ∧
  ∀ p a b D t u v l vs n led h' tk', Good p a b → Fr h₀ L h' m → News h₀ L h' ((D, { cls := .type "tuple", data := .seq #[.int p t, .int a u, .int b v, .ref l] 0 }) :: (l, W.listOf vs.toArray n) :: led) → PtsAre led vs (pts p a b) → (∀ q ∈ news, q ∈ led) → Q (.ref D) { s with heap := h', toks := tk' }
theorem sqs_mem {p : Int} {i : Nat} {sq y : Int} (h : y ∈ sqs p i sq) : 0 ≤ y ∧ y < (i : Int) ∧ (y * y).fmod p = sq := by
  unfold sqs at h
  obtain ⟨h1, h2⟩ := List.mem_filter.mp h
  obtain ⟨k, hk, rfl⟩ := List.mem_map.mp h1
  have := List.mem_range.mp hk
  exact ⟨by omega, by omega, by simpa using h2⟩
theorem pts_mem {p a b : Int} {q : Int × Int} (h : q ∈ pts p a b) : 0 ≤ q.1 ∧ q.1 < (p.toNat : Int) ∧ 0 ≤ q.2 ∧ q.2 < (p.toNat : Int) ∧ (q.2 * q.2).fmod p = rhs p a b q.1 := by
  unfold pts ptsTo at h
  obtain ⟨x, hx, h1⟩ := List.mem_flatMap.mp h
  obtain ⟨y, hy, rfl⟩ := List.mem_map.mp h1
  have h2 := sqs_mem hy
  have h3 := List.mem_range.mp hx
  exact ⟨by dsimp only; omega, by dsimp only; omega, h2.1, h2.2.1, h2.2.2⟩
theorem pts_bd {p : Int} (hp : p < 100) (a b : Int) : ∀ q ∈ pts p a b, 0 ≤ q.1 ∧ q.1 < 100 := fun q hq => by
  have := pts_mem hq
  omega
theorem fmod_lit {x m : Int} (h : 0 < m) : 0 ≤ x.fmod m ∧ x.fmod m < m := ⟨Int.fmod_nonneg_of_pos x h, Int.fmod_lt_of_pos x h⟩
theorem c_curve {news : List (Addr × Obj)} {l lp : Addr} {vs pvs : List Value} {ns : List Int} (hi : IntsAre vs ns) (hlen : ns.length < 2 ^ 62) (hpi : IntsAre pvs primes) :
    Sp PR w (hd.heap_39 w.params) topProg LO mean mg mb 3 28 (call (.ref 535) [.ref l, .ref lp]) news (fun base => base.IsList l vs.toArray ∧ base.IsList lp pvs.toArray) (RCurve news) := by
  (try unfold PR LO); k_fill; w_top off
  unfold Sp
  intro dp un gd cn cs a ccd cl outer A₀ base h₀ L M s Q E B F X N T hk hd hu hpre hret
  obtain ⟨hpre1, hpre2⟩ := hpre
  refine wpAny_call ?_
  k_dflt cell_enter
  have hj := fmod_lit (x := cell ns 0) (show (0 : Int) < 7 by decide)
  walk1
  k_dflt (refine' cut_val (fun v => ∃ P t, v = .int P t ∧ P ∈ primes) (Str.ofString "p") ?zf ?zn ?_ ?_)
  (case zf => k_asm)
  (case zn => k_asm)
  · walk_at "go"
    refine cutV_end (by k_asm) (by k_asm) (fun _ h => h) ⟨_, _, rfl, ?_⟩
    have h7 : ((cell ns 0).fmod 7).toNat < primes.length := by show _ < 7; omega
    exact (show ∀ j, j < primes.length → primes.getD j 0 ∈ primes from by decide) _ h7
  · rintro v h' tk' ⟨p, tp, rfl, hp⟩ F1 N1
    have hp5 : 5 ≤ p ∧ p ≤ 23 := by
      simp only [primes, List.mem_cons, List.not_mem_nil, or_false] at hp; omega
    have ha := fmod_lit (x := cell ns 1) (show 0 < p by omega)
    have hb := fmod_lit (x := cell ns 2) (show 0 < p by omega)
    dsimp only [envOf] at F1 N1
    iterate 1 (first | walk1 | (k_unfold; (try dsimp only); walk1))
    k_dflt (refine' cut_val (fun v => ∃ t, v = .int ((cell ns 1).fmod p) t) (Str.ofString "a") ?zf ?zn ?_ ?_)
    (case zf => k_asm)
    (case zn => k_asm)
    · walk_at "go"
      exact cutV_end (by k_asm) (by k_asm) (fun _ h => h) ⟨_, rfl⟩
    rintro v h' tk' ⟨ta0, rfl⟩ F2 N2
    dsimp only [envOf] at F2 N2
    iterate 1 (first | walk1 | (k_unfold; (try dsimp only); walk1))
    k_dflt (refine' cut_val (fun v => ∃ t, v = .int ((cell ns 2).fmod p) t) (Str.ofString "b") ?zf2 ?zn2 ?_ ?_)
    (case zf2 => k_asm)
    (case zn2 => k_asm)
    · walk_at "go"
      exact cutV_end (by k_asm) (by k_asm) (fun _ h => h) ⟨_, rfl⟩
    rintro v h' tk' ⟨tb0, rfl⟩ F3 N3
    dsimp only [envOf] at F3 N3
    walk_at "go"
    refine Stop.to ?_
    k_dflt (refine' lp_range (p * p).toNat (fun _ : Int × Tok × Int × Tok => news) (fun c => [(Str.ofString "a", Value.int c.1 c.2.1), (Str.ofString "b", Value.int c.2.2.1 c.2.2.2)]) (fun _ c => 0 ≤ c.1 ∧ c.1 < p ∧ 0 ≤ c.2.2.1 ∧ c.2.2.1 < p) [Str.ofString "points", Str.ofString "a", Str.ofString "b"] ((cell ns 1).fmod p, ta0, (cell ns 2).fmod p, tb0) rfl ?zr ?zs ?zn ?zf3 ?zN ?zp ?zi ?_ ?_)
    (case zr => assumption)
    (case zf3 => k_asm)
    (case zN => k_asm)
    (case zp => walk_at "ps")
    (case zs => exact small_one (by omega) (by omega) (by have := Int.mul_nonneg (show 0 ≤ p by omega) (show 0 ≤ p by omega); omega) (by have := Int.mul_le_mul hp5.2 hp5.2 (by omega) (by omega); omega))
    (case zn => rw [rangeSize_nat, Int.sub_zero])
    (case zi => exact ⟨ha.1, ha.2, hb.1, hb.2⟩)
    · rintro I i t ⟨a, ta, b, tb⟩ u h tk it hi ⟨hA1, hA2, hB1, hB2⟩ hne F3 N3
      dsimp only [envOf] at F3 N3
      dsimp only at hA1 hA2 hB1 hB2
      have hi2 : (i : Int) < 600 := by have := Int.mul_le_mul hp5.2 hp5.2 (by omega) (by omega); omega
      have hpl : (pts p a b).length ≤ p.toNat * 100 := ptsTo_len (show p < 100 by omega) a b p.toNat
      have hbq := pts_bd (p := p) (show p < 100 by omega) a b
      have hfa := fmod_lit (x := a + 1) (show 0 < p by omega)
      have hfb := fmod_lit (x := b + 1) (show 0 < p by omega)
      walk_at "go"
      · refine hret.2 _ _ _ _ _ _ _ _ _ _ _ _ _ ⟨hp, hA1, hA2, hB1, hB2, by omega, by assumption, by assumption⟩ (by assumption) (by assumption) (by assumption) ?_
        intro q hq
        (rename (∀ q ∈ (I, it) :: news, _) => hss)
        exact hss q (List.mem_cons_of_mem _ hq)
      all_goals (
        (rename News _ _ _ _ => N9)
        refine' lp_end_ab ?za N9 ?zb ?zc hne ?zd ?ze ?zf ?zg
        (case za => k_asm)
        (case zb => first | exact fun q hq => List.mem_cons_of_mem _ hq | (intro q hq; (rename (∀ q ∈ (I, it) :: news, _) => hss); exact List.mem_cons_of_mem _ (hss q (List.mem_cons_of_mem _ hq))))
        (case zc => first | exact List.mem_cons_self .. | ((rename (∀ q ∈ (I, it) :: news, _) => hss); exact List.mem_cons_of_mem _ (hss _ (List.mem_cons_self ..))))
        (case zd => exact rfl)
        (case ze => exact rfl)
        (case zf => walk_at "same")
        (case zg => dsimp only; exact ⟨by omega, by omega, by omega, by omega⟩))
    · rintro ⟨a, ta, b, tb⟩ u h tk - F3 N3
      dsimp only [envOf] at F3 N3
      walk_at "go"
      exact hret.1 _ _ (by assumption) (by assumption)
end
-- L04g
section
variable {w : World} {mean : ExcName → Option Value} {mg mb : Str → Option Value}
abbrev fpE (w : World) (t1 t2 t3 t4 : Tok) (p a b h : Value) : List DictEntry := [⟨PyData.keyHash w.params (Str.ofString "_CurveFp__p"), .str (Str.ofString "_CurveFp__p") t1, p⟩, ⟨PyData.keyHash w.params (Str.ofString "_CurveFp__a"), .str (Str.ofString "_CurveFp__a") t2, a⟩,
  ⟨PyData.keyHash w.params (Str.ofString "_CurveFp__b"), .str (Str.ofString "_CurveFp__b") t3, b⟩, ⟨PyData.keyHash w.params (Str.ofString "_CurveFp__h"), .str (Str.ofString "_CurveFp__h") t4, h⟩]
def RFp (p a b hv : Value) (news : List (Addr × Obj)) (w : World) (h₀ : Heap) (L : Addr) (m : Str → Option Value) (s : Shared) (Q : Value → Shared → Prop) : Prop :=
  ∀ x d t1 t2 t3 t4 h' tk', Fr h₀ L h' m → News h₀ L h' ((x, instObj 95 d) :: (d, dictOf (fpE w t1 t2 t3 t4 p a b hv) 4) :: news) → (∀ p ∈ news, p.1 < d) → d < x → Q (.ref x) { s with heap := h', toks := tk' }
theorem c_mkFp4 {news : List (Addr × Obj)} {p a b h : Value} :
    Sp PR w (hd.heap_39 w.params) topProg LO mean mg mb 3 24 (call (.ref 95) [p, a, b, h]) news (fun _ => True) (RFp p a b h news w) := by
  (try unfold PR LO); k_fill; w_top off
  unfold Sp
  intro dp un gd cn cs a ccd cl outer A₀ base h₀ L M s Q E B F X N T hk hd hu hpre hret
  try dsimp only at hpre
  unfold RFp at hret
  k_steps
  exact hret _ _ _ _ _ _ _ _ (by assumption) (by assumption) (by assumption) (by assumption)
theorem c_fp_p {news : List (Addr × Obj)} {x d : Addr} {t1 t2 t3 t4 : Tok} {p a b h : Value} (hh : handedIn p = true ∧ handedIn a = true ∧ handedIn b = true ∧ handedIn h = true) (m1 : (x, instObj 95 d) ∈ news) (m2 : (d, dictOf (fpE w t1 t2 t3 t4 p a b h) 4) ∈ news) :
    Sp PR w (hd.heap_39 w.params) topProg LO mean mg mb 1 8 (call (.ref 64) [.ref x]) news (fun _ => True) (RV p news) := by
  (try unfold PR LO); k_fill
  unfold Sp
  intro dp un gd cn cs a ccd cl outer A₀ base h₀ L M s Q E B F X N T hk hd hu hpre hret
  try dsimp only at hpre
  refine wpAny_call ?_
  k_dflt cell_enter
  unfold RV at hret
  obtain ⟨hh1, hh2, hh3, hh4⟩ := hh
  k_steps
  refine hret _ _ ?_ ?_ <;> assumption
theorem c_fp_a {news : List (Addr × Obj)} {x d : Addr} {t1 t2 t3 t4 : Tok} {p a b h : Value} (hh : handedIn p = true ∧ handedIn a = true ∧ handedIn b = true ∧ handedIn h = true) (m1 : (x, instObj 95 d) ∈ news) (m2 : (d, dictOf (fpE w t1 t2 t3 t4 p a b h) 4) ∈ news) :
    Sp PR w (hd.heap_39 w.params) topProg LO mean mg mb 1 8 (call (.ref 71) [.ref x]) news (fun _ => True) (RV a news) := by
  (try unfold PR LO); k_fill
  unfold Sp
  intro dp un gd cn cs a ccd cl outer A₀ base h₀ L M s Q E B F X N T hk hd hu hpre hret
  try dsimp only at hpre
  refine wpAny_call ?_
  k_dflt cell_enter
  unfold RV at hret
  obtain ⟨hh1, hh2, hh3, hh4⟩ := hh
  k_steps
  refine hret _ _ ?_ ?_ <;> assumption
theorem c_fp_b {news : List (Addr × Obj)} {x d : Addr} {t1 t2 t3 t4 : Tok} {p a b h : Value} (hh : handedIn p = true ∧ handedIn a = true ∧ handedIn b = true ∧ handedIn h = true) (m1 : (x, instObj 95 d) ∈ news) (m2 : (d, dictOf (fpE w t1 t2 t3 t4 p a b h) 4) ∈ news) :
    Sp PR w (hd.heap_39 w.params) topProg LO mean mg mb 1 8 (call (.ref 78) [.ref x]) news (fun _ => True) (RV b news) := by
  (try unfold PR LO); k_fill
  unfold Sp
  intro dp un gd cn cs a ccd cl outer A₀ base h₀ L M s Q E B F X N T hk hd hu hpre hret
  try dsimp only at hpre
  refine wpAny_call ?_
  k_dflt cell_enter
  unfold RV at hret
  obtain ⟨hh1, hh2, hh3, hh4⟩ := hh
  k_steps
  refine hret _ _ ?_ ?_ <;> assumption
theorem c_fp_h {news : List (Addr × Obj)} {x d : Addr} {t1 t2 t3 t4 : Tok} {p a b h : Value} (hh : handedIn p = true ∧ handedIn a = true ∧ handedIn b = true ∧ handedIn h = true) (m1 : (x, instObj 95 d) ∈ news) (m2 : (d, dictOf (fpE w t1 t2 t3 t4 p a b h) 4) ∈ news) :
    Sp PR w (hd.heap_39 w.params) topProg LO mean mg mb 1 8 (call (.ref 85) [.ref x]) news (fun _ => True) (RV h news) := by
  (try unfold PR LO); k_fill
  unfold Sp
  intro dp un gd cn cs a ccd cl outer A₀ base h₀ L M s Q E B F X N T hk hd hu hpre hret
  try dsimp only at hpre
  refine wpAny_call ?_
  k_dflt cell_enter
  unfold RV at hret
  obtain ⟨hh1, hh2, hh3, hh4⟩ := hh
  k_steps
  refine hret _ _ ?_ ?_ <;> assumption
theorem c_fp_on {news : List (Addr × Obj)} {x d : Addr} {t1 t2 t3 t4 t5 t6 t7 t8 t9 : Tok} {p a b X Y : Int} {h : Value} (m1 : (x, instObj 95 d) ∈ news) (m2 : (d, dictOf (fpE w t1 t2 t3 t4 (.int p t5) (.int a t6) (.int b t7) h) 4) ∈ news) (h0 : 0 < p) (h1 : p < 1000) (ha : -1000 ≤ a ∧ a ≤ 1000) (hb : -1000 ≤ b ∧ b ≤ 1000) (hX : -1000 ≤ X ∧ X ≤ 1000) (hY : -1000 ≤ Y ∧ Y ≤ 1000) :
    Sp PR w (hd.heap_39 w.params) topProg LO mean mg mb 1 8 (call (.ref 92) [.ref x, .int X t8, .int Y t9]) news (fun _ => True) (RBool ((Y * Y - ((X * X + a) * X + b)).fmod p == 0) news) := by
  (try unfold PR LO); k_fill
  unfold Sp
  intro dp un gd cn cs a ccd cl outer A₀ base h₀ L M s Q E B F X N T hk hd hu hpre hret
  try dsimp only at hpre
  refine wpAny_call ?_
  k_dflt cell_enter
  unfold RBool at hret
  k_steps
  exact hret _ _ (by assumption) (by assumption)
end
-- L04h
section
local macro_rules | `(tactic| walk_at "call ref") => `(tactic| (
  k_here
  (with_reducible show wpAny _ _ (PySem.call (Value.ref 493) _) _ _ _)
  k_dflt (refine' Sp.use (c_cell ?q1 ?q2 ?q3 ?q4) ?k1 ?k2 ?k3 ?k4 ?k5 ?k6 ?k7 ?k8 ?k9 ?_; walk_at "use"; (case q1 => k_asm); (case q2 => omega); (case q3 => omega); (case q4 => omega)); unfold RInt; intro t9 h9 tk9 F9 N9; (try dsimp only); (try k_sweep); (try k_fold)))
local macro_rules | `(tactic| walk_at "call ref") => `(tactic| (
  k_here
  (with_reducible show wpAny _ _ (PySem.call (Value.ref 500) _) _ _ _)
  k_dflt (refine' Sp.use (c_linv ?q1 ?q2 ?q3 ?q4) ?k1 ?k2 ?k3 ?k4 ?k5 ?k6 ?k7 ?k8 ?k9 ?_; walk_at "use"; (case q1 => omega); (case q2 => omega); (case q3 => omega); (case q4 => omega)); unfold RInt; intro t9 h9 tk9 F9 N9; (try dsimp only); (try k_sweep); (try k_fold)))
local macro_rules | `(tactic| walk_at "call ref") => `(tactic| (
  k_here
  (with_reducible show wpAny _ _ (PySem.call (Value.ref 528) _) _ _ _)
  k_dflt (refine' Sp.use (c_prime ?q1 ?q2) ?k1 ?k2 ?k3 ?k4 ?k5 ?k6 ?k7 ?k8 ?k9 ?_; walk_at "use"; (case q1 => omega); (case q2 => omega)); unfold RBool; intro h9 tk9 F9 N9; (try dsimp only); (try k_sweep); (try k_fold)))
local macro_rules | `(tactic| walk_at "call ref") => `(tactic| (
  k_here
  (with_reducible show wpAny _ _ (PySem.call (Value.ref 542) _) _ _ _)
  k_dflt (refine' Sp.use (c_row ?q1 ?q2 ?q3 ?q4 ?q5 ?q6 ?q7 ?q8) ?k1 ?k2 ?k3 ?k4 ?k5 ?k6 ?k7 ?k8 ?k9 ?_; walk_at "use"; (case q1 => omega); (case q2 => omega); (case q3 => omega); (case q4 => omega); (case q5 => k_dflt (first | k_mem | exact List.mem_cons_of_mem _ (List.mem_cons_of_mem _ (by assumption)))); (case q6 => assumption); (case q7 => omega); (case q8 => omega)); unfold RRow; intro l9 vs9 n9 led9 h9 tk9 F9 N9 hR9 hs9; (try dsimp only); (try k_sweep); (try k_fold)))
local macro_rules | `(tactic| walk_at "call ref") => `(tactic| (
  k_here
  (with_reducible show wpAny _ _ (PySem.call (Value.ref 95) _) _ _ _)
  k_dflt (refine' Sp.use c_mkFp4 ?k1 ?k2 ?k3 ?k4 ?k5 ?k6 ?k7 ?k8 ?k9 ?_; walk_at "use"); unfold RFp; intro x9 d9 t1 t2 t3 t4 h9 tk9 F9 N9 l1 l2; (try dsimp only); (try k_sweep); (try k_fold)))
local macro_rules | `(tactic| walk_at "call ref") => `(tactic| (
  k_here; (with_reducible show wpAny _ _ (PySem.call (Value.ref 535) _) _ _ _)
  refine Stop.of ?_))
local macro_rules | `(tactic| walk_at "subscriptTail") => `(tactic| (
  k_here; (with_reducible show wpAny _ _ (subscriptTail _ _ (Value.ref _) (Value.int _ _)) _ _ _)
  k_dflt (refine' item_list ?q1 ?q2 ?q3 ?q4 ?_ ?q5 ?q6; (case q1 => exact News.isList (by k_asm) (by k_mem)); (case q4 => assumption); (case q2 => omega); (case q3 => omega); (case q5 => with_unfolding_all rfl); (case q6 => intro _; with_unfolding_all rfl))))
variable {w : World} {mean : ExcName → Option Value} {mg mb : Str → Option Value}
/-- the world: None, or (curve, n, row) for a good curve and a point of it -/
def RWorld (w : World) (news : List (Addr × Obj)) (h₀ : Heap) (L : Addr) (m : Str → Option Value) (s : Shared) (Q : Value → Shared → Prop) : Prop :=
  (∀ led h' tk', Fr h₀ L h' m → News h₀ L h' led → (∀ q ∈ news, q ∈ led) → Q .none { s with heap := h', toks := tk' }) ∧
  ∀ p a b q D x d t1 t2 t3 t4 tp ta tb th tn l vs n led h' tk', Good p a b → q ∈ pts p a b → Fr h₀ L h' m →
    News h₀ L h' ((D, { cls := .type "tuple", data := .seq #[.ref x, .int ((pts p a b).length + 1) tn, .ref l] 0 }) :: (x, instObj 95 d) :: (d, dictOf (fpE w t1 t2 t3 t4 (.int p tp) (.int a ta) (.int b tb) (.int 1 th)) 4) :: (l, W.listOf vs.toArray n) :: led) →
    RowAre led vs (mrow p a q ((pts p a b).length + 1)) → (∀ q ∈ news, q ∈ led) → Q (.ref D) { s with heap := h', toks := tk' }
theorem c_world {news : List (Addr × Obj)} {l lp : Addr} {vs pvs : List Value} {ns : List Int} (hi : IntsAre vs ns) (hlen : ns.length < 2 ^ 62) (hpi : IntsAre pvs primes) :
    Sp PR w (hd.heap_39 w.params) topProg LO mean mg mb 6 60 (call (.ref 549) [.ref l, .ref lp]) news (fun base => base.IsList l vs.toArray ∧ base.IsList lp pvs.toArray) (RWorld w news) := by
  (try unfold PR LO); k_fill; w_top off
  unfold Sp
  intro dp un gd cn cs a ccd cl outer A₀ base h₀ L M s Q E B F X N T hk hd hu hpre hret
  obtain ⟨hpre1, hpre2⟩ := hpre
  refine wpAny_call ?_
  k_dflt cell_enter
  walk_at "go"
  refine Stop.to ?_
  k_dflt (refine' Sp.use (c_curve hi hlen hpi) ?zk1 ?zk2 ?zk3 ?zk4 ?zk5 ?zk6 ?zk7 ?zk8 ⟨hpre1, hpre2⟩ ⟨?_, ?_⟩)
  (case zk1 => k_asm)
  (case zk2 => k_asm)
  (case zk3 => k_asm)
  (case zk4 => k_asm)
  (case zk5 => k_asm)
  (case zk6 => rfl)
  (case zk7 => ktr_room)
  (case zk8 => ktr_units)
  · intro h' tk' F1 N1
    dsimp only
    walk_at "go"
    exact hret.1 _ _ _ (by assumption) (by assumption) (fun _ h => h)
  · intro p a_1 b D t u v l1 vs1 n1 led h' tk' hG F1 N1 hP hs
    dsimp only
    have hv1 := hP.length
    obtain ⟨hpp, hA1, hA2, hB1, hB2, hG1, hG2, hG3⟩ := hG
    have hp5 : 5 ≤ p ∧ p ≤ 23 := by
      simp only [primes, List.mem_cons, List.not_mem_nil, or_false] at hpp; omega
    have hpl : (pts p a_1 b).length ≤ p.toNat * 100 := ptsTo_len (show p < 100 by omega) a_1 b p.toNat
    have hj := fmod_lit (x := cell ns 3) (m := ((pts p a_1 b).length : Int)) (by omega)
    have hjl : ((cell ns 3).fmod ((pts p a_1 b).length : Int)).toNat < vs1.length := by omega
    obtain ⟨x, y, hq, r, tx, ty, hr, hmr⟩ := hP.at (List.getElem?_eq_getElem hjl)
    have hx9 : vs1.toArray[((cell ns 3).fmod ((pts p a_1 b).length : Int)).toNat]? = some (.ref r) := by rw [← hr]; simp [hjl]
    have hqm := List.mem_of_getElem? hq
    have hq2 := pts_mem hqm
    have hbnd : 0 ≤ x ∧ x < 100 ∧ 0 ≤ y ∧ y < 100 := by dsimp only at hq2; omega
    walk_at "go"
    (rename RowAre _ _ _ => hRow)
    (rename (∀ q ∈ _, q ∈ _) => hsub9)
    rw [show ((pts p a_1 b).length + 1 : Int).toNat = (pts p a_1 b).length + 1 from by omega] at hRow
    exact hret.2 _ _ _ _ _ _ _ _ _ _ _ _ _ _ _ _ _ _ _ _ _ _ ⟨hpp, hA1, hA2, hB1, hB2, hG1, hG2, hG3⟩ hqm (by assumption) (by assumption) hRow (fun q hq => hsub9 q (List.mem_cons_of_mem _ (List.mem_cons_of_mem _ (hs q hq))))
end
-- L04i
section
local macro_rules | `(tactic| walk_at "call ref") => `(tactic| (
  k_here
  (with_reducible show wpAny _ _ (PySem.call (Value.ref 64) _) _ _ _)
  k_dflt (refine' Sp.use (c_fp_p ?q1 ?q2 ?q3) ?k1 ?k2 ?k3 ?k4 ?k5 ?k6 ?k7 ?k8 ?k9 ?_; walk_at "use"; (case q2 => k_dflt k_mem); (case q3 => k_dflt k_mem); (case q1 => k_dflt (exact ⟨rfl, rfl, rfl, rfl⟩))); unfold RV; intro h9 tk9 F9 N9; (try dsimp only); (try k_sweep); (try k_fold)))
local macro_rules | `(tactic| walk_at "call ref") => `(tactic| (
  k_here
  (with_reducible show wpAny _ _ (PySem.call (Value.ref 71) _) _ _ _)
  k_dflt (refine' Sp.use (c_fp_a ?q1 ?q2 ?q3) ?k1 ?k2 ?k3 ?k4 ?k5 ?k6 ?k7 ?k8 ?k9 ?_; walk_at "use"; (case q2 => k_dflt k_mem); (case q3 => k_dflt k_mem); (case q1 => k_dflt (exact ⟨rfl, rfl, rfl, rfl⟩))); unfold RV; intro h9 tk9 F9 N9; (try dsimp only); (try k_sweep); (try k_fold)))
local macro_rules | `(tactic| walk_at "call ref") => `(tactic| (
  k_here
  (with_reducible show wpAny _ _ (PySem.call (Value.ref 78) _) _ _ _)
  k_dflt (refine' Sp.use (c_fp_b ?q1 ?q2 ?q3) ?k1 ?k2 ?k3 ?k4 ?k5 ?k6 ?k7 ?k8 ?k9 ?_; walk_at "use"; (case q2 => k_dflt k_mem); (case q3 => k_dflt k_mem); (case q1 => k_dflt (exact ⟨rfl, rfl, rfl, rfl⟩))); unfold RV; intro h9 tk9 F9 N9; (try dsimp only); (try k_sweep); (try k_fold)))
local macro_rules | `(tactic| walk_at "call ref") => `(tactic| (
  k_here
  (with_reducible show wpAny _ _ (PySem.call (Value.ref 85) _) _ _ _)
  k_dflt (refine' Sp.use (c_fp_h ?q1 ?q2 ?q3) ?k1 ?k2 ?k3 ?k4 ?k5 ?k6 ?k7 ?k8 ?k9 ?_; walk_at "use"; (case q2 => k_dflt k_mem); (case q3 => k_dflt k_mem); (case q1 => k_dflt (exact ⟨rfl, rfl, rfl, rfl⟩))); unfold RV; intro h9 tk9 F9 N9; (try dsimp only); (try k_sweep); (try k_fold)))
local macro_rules | `(tactic| walk_at "call ref") => `(tactic| (
  k_here
  (with_reducible show wpAny _ _ (PySem.call (Value.ref 92) _) _ _ _)
  k_dflt (refine' Sp.use (c_fp_on ?q1 ?q2 ?q3 ?q4 ?q5 ?q6 ?q7 ?q8) ?k1 ?k2 ?k3 ?k4 ?k5 ?k6 ?k7 ?k8 ?k9 ?_; walk_at "use"; (case q1 => k_dflt k_mem); (case q2 => k_dflt k_mem); (case q3 => omega); (case q4 => omega); (case q5 => omega); (case q6 => omega); (case q7 => omega); (case q8 => omega)); unfold RBool; intro h9 tk9 F9 N9; (try dsimp only); (try k_sweep); (try k_fold)))
variable {w : World} {mean : ExcName → Option Value} {mg mb : Str → Option Value}
abbrev poE (w : World) (t1 t2 t3 t4 : Tok) (c x y o : Value) : List DictEntry := [⟨PyData.keyHash w.params (Str.ofString "_Point__curve"), .str (Str.ofString "_Point__curve") t1, c⟩, ⟨PyData.keyHash w.params (Str.ofString "_Point__x"), .str (Str.ofString "_Point__x") t2, x⟩,
  ⟨PyData.keyHash w.params (Str.ofString "_Point__y"), .str (Str.ofString "_Point__y") t3, y⟩, ⟨PyData.keyHash w.params (Str.ofString "_Point__order"), .str (Str.ofString "_Point__order") t4, o⟩]
def RPo (c x y o : Value) (news : List (Addr × Obj)) (w : World) (h₀ : Heap) (L : Addr) (m : Str → Option Value) (s : Shared) (Q : Value → Shared → Prop) : Prop :=
  ∀ z d t1 t2 t3 t4 h' tk', Fr h₀ L h' m → News h₀ L h' ((z, instObj 417 d) :: (d, dictOf (poE w t1 t2 t3 t4 c x y o) 4) :: news) → (∀ p ∈ news, p.1 < d) → d < z → Q (.ref z) { s with heap := h', toks := tk' }
theorem c_mkPt4 {news : List (Addr × Obj)} {x d : Addr} {t1 t2 t3 t4 t5 t6 t7 t8 t9 ta tb : Tok} {p a b X Y n : Int} (m1 : (x, instObj 95 d) ∈ news) (m2 : (d, dictOf (fpE w t1 t2 t3 t4 (.int p t5) (.int a t6) (.int b t7) (.int 1 t8)) 4) ∈ news) (h0 : 0 < p) (h1 : p < 1000) (ha : -1000 ≤ a ∧ a ≤ 1000) (hb : -1000 ≤ b ∧ b ≤ 1000) (hX : -1000 ≤ X ∧ X ≤ 1000) (hY : -1000 ≤ Y ∧ Y ≤ 1000)
    (hon : (Y * Y - ((X * X + a) * X + b)).fmod p = 0) :
    Sp PR w (hd.heap_39 w.params) topProg LO mean mg mb 5 60 (call (.ref 417) [.ref x, .int X t9, .int Y ta, .int n tb]) news (fun _ => True) (RPo (.ref x) (.int X t9) (.int Y ta) (.int n tb) news w) := by
  (try unfold PR LO); k_fill; w_top off
  unfold Sp
  intro dp un gd cn cs a ccd cl outer A₀ base h₀ L M s Q E B F X N T hk hd hu hpre hret
  try dsimp only at hpre
  unfold RPo at hret
  walk_at "go"
  · exact hret _ _ _ _ _ _ _ _ (by assumption) (by assumption) (by assumption) (by assumption)
  · exfalso
    rename (_ ≠ _) => hz
    exact hz hon
end
-- L04j
section
local macro_rules | `(tactic| walk_at "pad0") => `(tactic| fail)
local macro_rules | `(tactic| walk_at "call ref") => `(tactic| (
  k_here
  (with_reducible show wpAny _ _ (PySem.call (Value.ref 64) _) _ _ _)
  k_dflt (refine' Sp.use (c_fp_p ?q1 ?q2 ?q3) ?k1 ?k2 ?k3 ?k4 ?k5 ?k6 ?k7 ?k8 ?k9 ?_; walk_at "use"; (case q2 => k_dflt k_mem); (case q3 => k_dflt k_mem); (case q1 => k_dflt (exact ⟨rfl, rfl, rfl, rfl⟩))); unfold RV; intro h9 tk9 F9 N9; (try dsimp only); (try k_sweep); (try k_fold)))
local macro_rules | `(tactic| walk_at "call ref") => `(tactic| (
  k_here
  (with_reducible show wpAny _ _ (PySem.call (Value.ref 71) _) _ _ _)
  k_dflt (refine' Sp.use (c_fp_a ?q1 ?q2 ?q3) ?k1 ?k2 ?k3 ?k4 ?k5 ?k6 ?k7 ?k8 ?k9 ?_; walk_at "use"; (case q2 => k_dflt k_mem); (case q3 => k_dflt k_mem); (case q1 => k_dflt (exact ⟨rfl, rfl, rfl, rfl⟩))); unfold RV; intro h9 tk9 F9 N9; (try dsimp only); (try k_sweep); (try k_fold)))
local macro_rules | `(tactic| walk_at "call ref") => `(tactic| (
  k_here
  (with_reducible show wpAny _ _ (PySem.call (Value.ref 78) _) _ _ _)
  k_dflt (refine' Sp.use (c_fp_b ?q1 ?q2 ?q3) ?k1 ?k2 ?k3 ?k4 ?k5 ?k6 ?k7 ?k8 ?k9 ?_; walk_at "use"; (case q2 => k_dflt k_mem); (case q3 => k_dflt k_mem); (case q1 => k_dflt (exact ⟨rfl, rfl, rfl, rfl⟩))); unfold RV; intro h9 tk9 F9 N9; (try dsimp only); (try k_sweep); (try k_fold)))
local macro_rules | `(tactic| walk_at "call ref") => `(tactic| (
  k_here
  (with_reducible show wpAny _ _ (PySem.call (Value.ref 85) _) _ _ _)
  k_dflt (refine' Sp.use (c_fp_h ?q1 ?q2 ?q3) ?k1 ?k2 ?k3 ?k4 ?k5 ?k6 ?k7 ?k8 ?k9 ?_; walk_at "use"; (case q2 => k_dflt k_mem); (case q3 => k_dflt k_mem); (case q1 => k_dflt (exact ⟨rfl, rfl, rfl, rfl⟩))); unfold RV; intro h9 tk9 F9 N9; (try dsimp only); (try k_sweep); (try k_fold)))
local macro_rules | `(tactic| walk_at "call ref") => `(tactic| (
  k_here
  (with_reducible show wpAny _ _ (PySem.call (Value.ref 92) _) _ _ _)
  k_dflt (refine' Sp.use (c_fp_on ?q1 ?q2 ?q3 ?q4 ?q5 ?q6 ?q7 ?q8) ?k1 ?k2 ?k3 ?k4 ?k5 ?k6 ?k7 ?k8 ?k9 ?_; walk_at "use"; (case q1 => k_dflt k_mem); (case q2 => k_dflt k_mem); (case q3 => omega); (case q4 => omega); (case q5 => omega); (case q6 => omega); (case q7 => omega); (case q8 => omega)); unfold RBool; intro h9 tk9 F9 N9; (try dsimp only); (try k_sweep); (try k_fold)))
variable {w : World} {mean : ExcName → Option Value} {mg mb : Str → Option Value}
theorem c_mkPt3 {news : List (Addr × Obj)} {x d : Addr} {t1 t2 t3 t4 t5 t6 t7 t8 t9 ta : Tok} {p a b X Y : Int} (m1 : (x, instObj 95 d) ∈ news) (m2 : (d, dictOf (fpE w t1 t2 t3 t4 (.int p t5) (.int a t6) (.int b t7) (.int 1 t8)) 4) ∈ news) (h0 : 0 < p) (h1 : p < 1000) (ha : -1000 ≤ a ∧ a ≤ 1000) (hb : -1000 ≤ b ∧ b ≤ 1000) (hX : -1000 ≤ X ∧ X ≤ 1000) (hY : -1000 ≤ Y ∧ Y ≤ 1000)
    (hon : (Y * Y - ((X * X + a) * X + b)).fmod p = 0) :
    Sp PR w (hd.heap_39 w.params) topProg LO mean mg mb 5 60 (call (.ref 417) [.ref x, .int X t9, .int Y ta]) news (fun _ => True) (RPo (.ref x) (.int X t9) (.int Y ta) (.none) news w) := by
  (try unfold PR LO); k_fill; w_top off
  unfold Sp
  intro dp un gd cn cs a ccd cl outer A₀ base h₀ L M s Q E B F X N T hk hd hu hpre hret
  try dsimp only at hpre
  unfold RPo at hret
  walk_at "go"
  · exact hret _ _ _ _ _ _ _ _ (by assumption) (by assumption) (by assumption) (by assumption)
  · exfalso
    rename (_ ≠ _) => hz
    exact hz hon
theorem c_po_curve {news : List (Addr × Obj)} {x d : Addr} {t1 t2 t3 t4 : Tok} {p a b h : Value} (hh : handedIn p = true ∧ handedIn a = true ∧ handedIn b = true ∧ handedIn h = true) (m1 : (x, instObj 417 d) ∈ news) (m2 : (d, dictOf (poE w t1 t2 t3 t4 p a b h) 4) ∈ news) :
    Sp PR w (hd.heap_39 w.params) topProg LO mean mg mb 1 8 (call (.ref 407) [.ref x]) news (fun _ => True) (RV p news) := by
  (try unfold PR LO); k_fill
  unfold Sp
  intro dp un gd cn cs a ccd cl outer A₀ base h₀ L M s Q E B F X N T hk hd hu hpre hret
  try dsimp only at hpre
  refine wpAny_call ?_
  k_dflt cell_enter
  unfold RV at hret
  obtain ⟨hh1, hh2, hh3, hh4⟩ := hh
  walk_at "go"
  refine hret _ _ ?_ ?_ <;> assumption
theorem c_po_order {news : List (Addr × Obj)} {x d : Addr} {t1 t2 t3 t4 : Tok} {p a b h : Value} (hh : handedIn p = true ∧ handedIn a = true ∧ handedIn b = true ∧ handedIn h = true) (m1 : (x, instObj 417 d) ∈ news) (m2 : (d, dictOf (poE w t1 t2 t3 t4 p a b h) 4) ∈ news) :
    Sp PR w (hd.heap_39 w.params) topProg LO mean mg mb 1 8 (call (.ref 414) [.ref x]) news (fun _ => True) (RV h news) := by
  (try unfold PR LO); k_fill
  unfold Sp
  intro dp un gd cn cs a ccd cl outer A₀ base h₀ L M s Q E B F X N T hk hd hu hpre hret
  try dsimp only at hpre
  refine wpAny_call ?_
  k_dflt cell_enter
  unfold RV at hret
  obtain ⟨hh1, hh2, hh3, hh4⟩ := hh
  walk_at "go"
  refine hret _ _ ?_ ?_ <;> assumption
end
-- L04k
section
variable {w : World} {mean : ExcName → Option Value} {mg mb : Str → Option Value}
abbrev pjE (w : World) (t1 t2 t3 t4 t5 : Tok) (c k o g l : Value) : List DictEntry := [⟨PyData.keyHash w.params (Str.ofString "_PointJacobi__curve"), .str (Str.ofString "_PointJacobi__curve") t1, c⟩, ⟨PyData.keyHash w.params (Str.ofString "_PointJacobi__coords"), .str (Str.ofString "_PointJacobi__coords") t2, k⟩,
  ⟨PyData.keyHash w.params (Str.ofString "_PointJacobi__order"), .str (Str.ofString "_PointJacobi__order") t3, o⟩, ⟨PyData.keyHash w.params (Str.ofString "_PointJacobi__generator"), .str (Str.ofString "_PointJacobi__generator") t4, g⟩, ⟨PyData.keyHash w.params (Str.ofString "_PointJacobi__precompute"), .str (Str.ofString "_PointJacobi__precompute") t5, l⟩]
abbrev tup3 (x : Int) (t : Tok) (y : Int) (u : Tok) (z : Int) (v : Tok) : Obj := { cls := .type "tuple", data := .seq #[.int x t, .int y u, .int z v] 0 }
def RPj (c : Value) (X : Int) (tX : Tok) (Y : Int) (tY : Tok) (tZ : Tok) (o g : Value) (news : List (Addr × Obj)) (w : World) (h₀ : Heap) (L : Addr) (m : Str → Option Value) (s : Shared) (Q : Value → Shared → Prop) : Prop :=
  ∀ z d l k t1 t2 t3 t4 t5 h' tk', Fr h₀ L h' m → News h₀ L h' ((l, W.listOf #[] 0) :: (k, tup3 X tX Y tY 1 tZ) :: (z, instObj 320 d) :: (d, dictOf (pjE w t1 t2 t3 t4 t5 c (.ref k) o g (.ref l)) 5) :: news) → (∀ p ∈ news, p.1 < d) → d < z → z < k → k < l → Q (.ref z) { s with heap := h', toks := tk' }
theorem c_mkPJ6 {news : List (Addr × Obj)} {x : Addr} {t1 t2 t3 t4 : Tok} {X Y n : Int} :
    Sp PR w (hd.heap_39 w.params) topProg LO mean mg mb 3 24 (call (.ref 320) [.ref x, .int X t1, .int Y t2, .int 1 t3, .int n t4, .bool true]) news (fun _ => True) (RPj (.ref x) X t1 Y t2 t3 (.int n t4) (.bool true) news w) := by
  (try unfold PR LO); k_fill; w_top off
  unfold Sp
  intro dp un gd cn cs a ccd cl outer A₀ base h₀ L M s Q E B F X N T hk hd hu hpre hret
  try dsimp only at hpre
  unfold RPj at hret
  k_steps
  rename (_ < _ ∧ _ < _ ∧ AllLt _ _) => l1
  rename (_ < _ ∧ _ < _ ∧ _ < _ ∧ AllLt _ _) => l2
  exact hret _ _ _ _ _ _ _ _ _ _ _ (by assumption) (by assumption) (by assumption) (by assumption) l1.1 l2.1
theorem c_mkPJ4 {news : List (Addr × Obj)} {x : Addr} {t1 t2 t3 : Tok} {X Y : Int} :
    Sp PR w (hd.heap_39 w.params) topProg LO mean mg mb 3 24 (call (.ref 320) [.ref x, .int X t1, .int Y t2, .int 1 t3]) news (fun _ => True) (RPj (.ref x) X t1 Y t2 t3 .none (.bool false) news w) := by
  (try unfold PR LO); k_fill
  unfold Sp
  intro dp un gd cn cs a ccd cl outer A₀ base h₀ L M s Q E B F X N T hk hd hu hpre hret
  try dsimp only at hpre
  unfold RPj at hret
  k_steps
  rename (_ < _ ∧ _ < _ ∧ AllLt _ _) => l1
  rename (_ < _ ∧ _ < _ ∧ _ < _ ∧ AllLt _ _) => l2
  exact hret _ _ _ _ _ _ _ _ _ _ _ (by assumption) (by assumption) (by assumption) (by assumption) l1.1 l2.1
theorem c_pj_order {news : List (Addr × Obj)} {x d : Addr} {t1 t2 t3 t4 t5 : Tok} {c k o g l : Value} (hh : handedIn c = true ∧ handedIn k = true ∧ handedIn o = true ∧ handedIn g = true ∧ handedIn l = true) (m1 : (x, instObj 320 d) ∈ news) (m2 : (d, dictOf (pjE w t1 t2 t3 t4 t5 c k o g l) 5) ∈ news) :
    Sp PR w (hd.heap_39 w.params) topProg LO mean mg mb 1 8 (call (.ref 166) [.ref x]) news (fun _ => True) (RV o news) := by
  (try unfold PR LO); k_fill
  unfold Sp
  intro dp un gd cn cs a ccd cl outer A₀ base h₀ L M s Q E B F X N T hk hd hu hpre hret
  try dsimp only at hpre
  refine wpAny_call ?_
  k_dflt cell_enter
  unfold RV at hret
  obtain ⟨hh1, hh2, hh3, hh4, hh5⟩ := hh
  walk_at "go"
  refine hret _ _ ?_ ?_ <;> assumption
theorem c_pj_curve {news : List (Addr × Obj)} {x d : Addr} {t1 t2 t3 t4 t5 : Tok} {c k o g l : Value} (hh : handedIn c = true ∧ handedIn k = true ∧ handedIn o = true ∧ handedIn g = true ∧ handedIn l = true) (m1 : (x, instObj 320 d) ∈ news) (m2 : (d, dictOf (pjE w t1 t2 t3 t4 t5 c k o g l) 5) ∈ news) :
    Sp PR w (hd.heap_39 w.params) topProg LO mean mg mb 1 8 (call (.ref 173) [.ref x]) news (fun _ => True) (RV c news) := by
  (try unfold PR LO); k_fill
  unfold Sp
  intro dp un gd cn cs a ccd cl outer A₀ base h₀ L M s Q E B F X N T hk hd hu hpre hret
  try dsimp only at hpre
  refine wpAny_call ?_
  k_dflt cell_enter
  unfold RV at hret
  obtain ⟨hh1, hh2, hh3, hh4, hh5⟩ := hh
  walk_at "go"
  refine hret _ _ ?_ ?_ <;> assumption
theorem c_pj_x {news : List (Addr × Obj)} {x d k : Addr} {t1 t2 t3 t4 t5 tx ty tz : Tok} {c o g l : Value} {X Y : Int} (hh : handedIn c = true ∧ handedIn o = true ∧ handedIn g = true ∧ handedIn l = true) (m1 : (x, instObj 320 d) ∈ news) (m2 : (d, dictOf (pjE w t1 t2 t3 t4 t5 c (.ref k) o g l) 5) ∈ news) (m3 : (k, tup3 X tx Y ty 1 tz) ∈ news) :
    Sp PR w (hd.heap_39 w.params) topProg LO mean mg mb 1 8 (call (.ref 180) [.ref x]) news (fun _ => True) (RV (.int X tx) news) := by
  (try unfold PR LO); k_fill
  unfold Sp
  intro dp un gd cn cs a ccd cl outer A₀ base h₀ L M s Q E B F X N T hk hd hu hpre hret
  try dsimp only at hpre
  refine wpAny_call ?_
  k_dflt cell_enter
  unfold RV at hret
  obtain ⟨hh1, hh2, hh3, hh4⟩ := hh
  walk_at "go"
  refine hret _ _ ?_ ?_ <;> assumption
theorem c_pj_y {news : List (Addr × Obj)} {x d k : Addr} {t1 t2 t3 t4 t5 tx ty tz : Tok} {c o g l : Value} {X Y : Int} (hh : handedIn c = true ∧ handedIn o = true ∧ handedIn g = true ∧ handedIn l = true) (m1 : (x, instObj 320 d) ∈ news) (m2 : (d, dictOf (pjE w t1 t2 t3 t4 t5 c (.ref k) o g l) 5) ∈ news) (m3 : (k, tup3 X tx Y ty 1 tz) ∈ news) :
    Sp PR w (hd.heap_39 w.params) topProg LO mean mg mb 1 8 (call (.ref 187) [.ref x]) news (fun _ => True) (RV (.int Y ty) news) := by
  (try unfold PR LO); k_fill
  unfold Sp
  intro dp un gd cn cs a ccd cl outer A₀ base h₀ L M s Q E B F X N T hk hd hu hpre hret
  try dsimp only at hpre
  refine wpAny_call ?_
  k_dflt cell_enter
  unfold RV at hret
  obtain ⟨hh1, hh2, hh3, hh4⟩ := hh
  walk_at "go"
  refine hret _ _ ?_ ?_ <;> assumption
end
-- L04l
section
local macro_rules | `(tactic| walk_at "call ref") => `(tactic| (
  k_here
  (with_reducible show wpAny _ _ (PySem.call (Value.ref 64) _) _ _ _)
  k_dflt (refine' Sp.use (c_fp_p ?q1 ?q2 ?q3) ?k1 ?k2 ?k3 ?k4 ?k5 ?k6 ?k7 ?k8 ?k9 ?_; walk_at "use"; (case q2 => k_dflt k_mem); (case q3 => k_dflt k_mem); (case q1 => k_dflt (exact ⟨rfl, rfl, rfl, rfl⟩))); unfold RV; intro h9 tk9 F9 N9; (try dsimp only); (try k_sweep); (try k_fold)))
local macro_rules | `(tactic| walk_at "call ref") => `(tactic| (
  k_here
  (with_reducible show wpAny _ _ (PySem.call (Value.ref 71) _) _ _ _)
  k_dflt (refine' Sp.use (c_fp_a ?q1 ?q2 ?q3) ?k1 ?k2 ?k3 ?k4 ?k5 ?k6 ?k7 ?k8 ?k9 ?_; walk_at "use"; (case q2 => k_dflt k_mem); (case q3 => k_dflt k_mem); (case q1 => k_dflt (exact ⟨rfl, rfl, rfl, rfl⟩))); unfold RV; intro h9 tk9 F9 N9; (try dsimp only); (try k_sweep); (try k_fold)))
local macro_rules | `(tactic| walk_at "call ref") => `(tactic| (
  k_here
  (with_reducible show wpAny _ _ (PySem.call (Value.ref 78) _) _ _ _)
  k_dflt (refine' Sp.use (c_fp_b ?q1 ?q2 ?q3) ?k1 ?k2 ?k3 ?k4 ?k5 ?k6 ?k7 ?k8 ?k9 ?_; walk_at "use"; (case q2 => k_dflt k_mem); (case q3 => k_dflt k_mem); (case q1 => k_dflt (exact ⟨rfl, rfl, rfl, rfl⟩))); unfold RV; intro h9 tk9 F9 N9; (try dsimp only); (try k_sweep); (try k_fold)))
local macro_rules | `(tactic| walk_at "call ref") => `(tactic| (
  k_here
  (with_reducible show wpAny _ _ (PySem.call (Value.ref 85) _) _ _ _)
  k_dflt (refine' Sp.use (c_fp_h ?q1 ?q2 ?q3) ?k1 ?k2 ?k3 ?k4 ?k5 ?k6 ?k7 ?k8 ?k9 ?_; walk_at "use"; (case q2 => k_dflt k_mem); (case q3 => k_dflt k_mem); (case q1 => k_dflt (exact ⟨rfl, rfl, rfl, rfl⟩))); unfold RV; intro h9 tk9 F9 N9; (try dsimp only); (try k_sweep); (try k_fold)))
local macro_rules | `(tactic| walk_at "call ref") => `(tactic| (
  k_here
  (with_reducible show wpAny _ _ (PySem.call (Value.ref 92) _) _ _ _)
  k_dflt (refine' Sp.use (c_fp_on ?q1 ?q2 ?q3 ?q4 ?q5 ?q6 ?q7 ?q8) ?k1 ?k2 ?k3 ?k4 ?k5 ?k6 ?k7 ?k8 ?k9 ?_; walk_at "use"; (case q1 => k_dflt k_mem); (case q2 => k_dflt k_mem); (case q3 => omega); (case q4 => omega); (case q5 => omega); (case q6 => omega); (case q7 => omega); (case q8 => omega)); unfold RBool; intro h9 tk9 F9 N9; (try dsimp only); (try k_sweep); (try k_fold)))
local macro_rules | `(tactic| walk_at "call ref") => `(tactic| (
  k_here
  (with_reducible show wpAny _ _ (PySem.call (Value.ref 407) _) _ _ _)
  k_dflt (refine' Sp.use (c_po_curve ?q1 ?q2 ?q3) ?k1 ?k2 ?k3 ?k4 ?k5 ?k6 ?k7 ?k8 ?k9 ?_; walk_at "use"; (case q1 => k_dflt (first | exact ⟨rfl, rfl, rfl, rfl⟩ | (refine ⟨rfl, rfl, rfl, ?_⟩; assumption) | (refine ⟨rfl, ?_, rfl, rfl⟩; assumption))); (case q2 => k_dflt k_mem); (case q3 => k_dflt k_mem)); unfold RV; intro h9 tk9 F9 N9; (try dsimp only); (try k_sweep); (try k_fold)))
local macro_rules | `(tactic| walk_at "call ref") => `(tactic| (
  k_here
  (with_reducible show wpAny _ _ (PySem.call (Value.ref 414) _) _ _ _)
  k_dflt (refine' Sp.use (c_po_order ?q1 ?q2 ?q3) ?k1 ?k2 ?k3 ?k4 ?k5 ?k6 ?k7 ?k8 ?k9 ?_; walk_at "use"; (case q1 => k_dflt (first | exact ⟨rfl, rfl, rfl, rfl⟩ | (refine ⟨rfl, rfl, rfl, ?_⟩; assumption) | (refine ⟨rfl, ?_, rfl, rfl⟩; assumption))); (case q2 => k_dflt k_mem); (case q3 => k_dflt k_mem)); unfold RV; intro h9 tk9 F9 N9; (try dsimp only); (try k_sweep); (try k_fold)))
local macro_rules | `(tactic| walk_at "call ref") => `(tactic| (
  k_here
  (with_reducible show wpAny _ _ (PySem.call (Value.ref 173) _) _ _ _)
  k_dflt (refine' Sp.use (c_pj_curve ?q1 ?q2 ?q3) ?k1 ?k2 ?k3 ?k4 ?k5 ?k6 ?k7 ?k8 ?k9 ?_; walk_at "use"; (case q1 => k_dflt (first | exact ⟨rfl, rfl, rfl, rfl, rfl⟩ | (refine ⟨rfl, rfl, ?_, rfl, rfl⟩; assumption))); (case q2 => k_dflt k_mem); (case q3 => k_dflt k_mem)); unfold RV; intro h9 tk9 F9 N9; (try dsimp only); (try k_sweep); (try k_fold)))
local macro_rules | `(tactic| walk_at "call ref") => `(tactic| (
  k_here
  (with_reducible show wpAny _ _ (PySem.call (Value.ref 166) _) _ _ _)
  k_dflt (refine' Sp.use (c_pj_order ?q1 ?q2 ?q3) ?k1 ?k2 ?k3 ?k4 ?k5 ?k6 ?k7 ?k8 ?k9 ?_; walk_at "use"; (case q1 => k_dflt (first | exact ⟨rfl, rfl, rfl, rfl, rfl⟩ | (refine ⟨rfl, rfl, ?_, rfl, rfl⟩; assumption))); (case q2 => k_dflt k_mem); (case q3 => k_dflt k_mem)); unfold RV; intro h9 tk9 F9 N9; (try dsimp only); (try k_sweep); (try k_fold)))
local macro_rules | `(tactic| walk_at "call ref") => `(tactic| (
  k_here
  (with_reducible show wpAny _ _ (PySem.call (Value.ref 180) _) _ _ _)
  k_dflt (refine' Sp.use (c_pj_x ?q1 ?q2 ?q3 ?q4) ?k1 ?k2 ?k3 ?k4 ?k5 ?k6 ?k7 ?k8 ?k9 ?_; walk_at "use"; (case q1 => k_dflt (first | exact ⟨rfl, rfl, rfl, rfl⟩ | (refine ⟨rfl, rfl, rfl, ?_⟩; assumption) | (refine ⟨rfl, ?_, rfl, rfl⟩; assumption))); (case q2 => k_dflt k_mem); (case q3 => k_dflt k_mem); (case q4 => k_dflt k_mem)); unfold RV; intro h9 tk9 F9 N9; (try dsimp only); (try k_sweep); (try k_fold)))
local macro_rules | `(tactic| walk_at "call ref") => `(tactic| (
  k_here
  (with_reducible show wpAny _ _ (PySem.call (Value.ref 187) _) _ _ _)
  k_dflt (refine' Sp.use (c_pj_y ?q1 ?q2 ?q3 ?q4) ?k1 ?k2 ?k3 ?k4 ?k5 ?k6 ?k7 ?k8 ?k9 ?_; walk_at "use"; (case q1 => k_dflt (first | exact ⟨rfl, rfl, rfl, rfl⟩ | (refine ⟨rfl, rfl, rfl, ?_⟩; assumption) | (refine ⟨rfl, ?_, rfl, rfl⟩; assumption))); (case q2 => k_dflt k_mem); (case q3 => k_dflt k_mem); (case q4 => k_dflt k_mem)); unfold RV; intro h9 tk9 F9 N9; (try dsimp only); (try k_sweep); (try k_fold)))
variable {w : World} {mean : ExcName → Option Value} {mg mb : Str → Option Value}
/-- x and y lie within the field -/
def inB (p X Y : Int) : Bool := decide (0 ≤ X ∧ X < p ∧ 0 ≤ Y ∧ Y < p)
def onB (p a b X Y : Int) : Bool := (Y * Y - ((X * X + a) * X + b)).fmod p == 0
theorem inB_no {p X Y : Int} (h : ¬ (0 ≤ X ∧ X < p ∧ 0 ≤ Y ∧ Y < p)) : inB p X Y = false := by unfold inB; simpa using h
theorem inB_yes {p X Y : Int} (h : 0 ≤ X ∧ X < p ∧ 0 ≤ Y ∧ Y < p) : inB p X Y = true := by unfold inB; simpa using h
theorem c_valid_po {news : List (Addr × Obj)} {g gd0 x d : Addr} {g1 g2 g3 g4 t1 t2 t3 t4 t5 t6 t7 t8 t9 ta : Tok} {gx gy o : Value} {p a b X Y : Int} (hh : handedIn gx = true ∧ handedIn gy = true ∧ handedIn o = true) (n1 : (g, instObj 417 gd0) ∈ news) (n2 : (gd0, dictOf (poE w g1 g2 g3 g4 (.ref x) gx gy o) 4) ∈ news) (m1 : (x, instObj 95 d) ∈ news) (m2 : (d, dictOf (fpE w t1 t2 t3 t4 (.int p t5) (.int a t6) (.int b t7) (.int 1 t8)) 4) ∈ news) (h0 : 0 < p) (h1 : p < 1000) (ha : -1000 ≤ a ∧ a ≤ 1000) (hb : -1000 ≤ b ∧ b ≤ 1000) (hX : -1000 ≤ X ∧ X ≤ 1000) (hY : -1000 ≤ Y ∧ Y ≤ 1000) :
    Sp PR w (hd.heap_39 w.params) topProg LO mean mg mb 3 28 (call (.ref 485) [.ref g, .int X t9, .int Y ta]) news (fun _ => True) (RBool (inB p X Y && onB p a b X Y) news) := by
  (try unfold PR LO); k_fill; w_top off
  unfold Sp
  intro dp un gd cn cs a ccd cl outer A₀ base h₀ L M s Q E B F X N T hk hd hu hpre hret
  try dsimp only at hpre
  refine wpAny_call ?_
  k_dflt cell_enter
  unfold RBool at hret
  obtain ⟨hh1, hh2, hh3⟩ := hh
  have hc : handedIn (.ref x) = true := rfl
  walk_at "go"
  all_goals (
    refine cb_retB (fun _ => hret) ?_ (by assumption) (by assumption)
    first
    | (rw [inB_no (by omega)]; rfl)
    | (rw [inB_yes (by omega)]; unfold onB; simp only [Bool.true_and]; rename (_ = (0 : Int)) => hz; rw [hz]; rfl)
    | (rw [inB_yes (by omega)]; unfold onB; simp only [Bool.true_and]; rename (_ ≠ (0 : Int)) => hz; simpa using hz)
    | (rw [inB_yes (by omega)]; unfold onB; simp only [Bool.true_and]; rename (¬ (_ = (0 : Int))) => hz; simpa using hz))
theorem c_valid_pj {news : List (Addr × Obj)} {g gd0 k x d : Addr} {g1 g2 g3 g4 g5 t1 t2 t3 t4 t5 t6 t7 t8 t9 ta tx ty tz : Tok} {o gg gl : Value} {p a b X Y gX gY : Int} (hh : handedIn o = true ∧ handedIn gg = true ∧ handedIn gl = true) (n1 : (g, instObj 320 gd0) ∈ news) (n2 : (gd0, dictOf (pjE w g1 g2 g3 g4 g5 (.ref x) (.ref k) o gg gl) 5) ∈ news) (n3 : (k, tup3 gX tx gY ty 1 tz) ∈ news) (m1 : (x, instObj 95 d) ∈ news) (m2 : (d, dictOf (fpE w t1 t2 t3 t4 (.int p t5) (.int a t6) (.int b t7) (.int 1 t8)) 4) ∈ news) (h0 : 0 < p) (h1 : p < 1000) (ha : -1000 ≤ a ∧ a ≤ 1000) (hb : -1000 ≤ b ∧ b ≤ 1000) (hX : -1000 ≤ X ∧ X ≤ 1000) (hY : -1000 ≤ Y ∧ Y ≤ 1000) :
    Sp PR w (hd.heap_39 w.params) topProg LO mean mg mb 3 28 (call (.ref 485) [.ref g, .int X t9, .int Y ta]) news (fun _ => True) (RBool (inB p X Y && onB p a b X Y) news) := by
  (try unfold PR LO); k_fill
  unfold Sp
  intro dp un gd cn cs a ccd cl outer A₀ base h₀ L M s Q E B F X N T hk hd hu hpre hret
  try dsimp only at hpre
  refine wpAny_call ?_
  k_dflt cell_enter
  unfold RBool at hret
  obtain ⟨hh1, hh2, hh3⟩ := hh
  have hc : handedIn (.ref x) = true := rfl
  walk_at "go"
  all_goals (
    refine cb_retB (fun _ => hret) ?_ (by assumption) (by assumption)
    first
    | (rw [inB_no (by omega)]; rfl)
    | (rw [inB_yes (by omega)]; unfold onB; simp only [Bool.true_and]; rename (_ = (0 : Int)) => hz; rw [hz]; rfl)
    | (rw [inB_yes (by omega)]; unfold onB; simp only [Bool.true_and]; rename (_ ≠ (0 : Int)) => hz; simpa using hz)
    | (rw [inB_yes (by omega)]; unfold onB; simp only [Bool.true_and]; rename (¬ (_ = (0 : Int))) => hz; simpa using hz))
end
-- L04m
section
section
variable {prog : Program} {w : World} {A₀ A : Around} {s : Shared} {base h₀ : Heap} {L : Addr} {m : Str → Option Value} {env : Env} {news : List (Addr × Obj)} {K : Frag} {p : Program} {loose : List Str} {mean : ExcName → Option Value} {mg mb : Str → Option Value}
    {R : Result → Shared → Prop} {name qual : Str} {params : Arguments} {body : List Stmt} {scope : Scope} {dV kV doc pm cdv ct oc : Value} {an od : Option Addr} {osl : Array (Option Value)} {f : Addr} {args : Args} {binds : List (Str × Value)}
/-- a call out of the law's own frame (with cells or without) of a def that catches further in: the frame's slots may have turned behind it -/
theorem enter_turn (B : Below A₀ base [] h₀) (F : Fr h₀ L s.heap m) (X₀ : K.In h₀) (N : News h₀ L s.heap news) (T : Top p loose mean mg mb h₀) (hA : A.frames = some [env]) (hf : env.frame = some L) (hke : env.scope.kind = .function)
    (ho : K.lookup f = some ⟨oc, od, .func (fnOf name qual params body scope dV kV doc pm an cdv ct), osl⟩) (hcd : codeIn K cdv qual = true) (hroom : A.depth < recursionLimit)
    (hbind : BindsTo s (fnOf name qual params body scope dV kV doc pm an cdv ct) args binds) (hloc : ∀ y ∈ binds, scope.names.lookup y.1 = some .local)
    (h : ∀ g L' h₁, Fr h₀ L g m → Fr g L' h₁ (fun y => binds.reverse.lookup y) → News g L' h₁ news → Below A base [env] g → K.In g → Top p loose mean mg mb g → KtsDicts ([env].filterMap (·.frame)) g →
      wpAny (model prog w) (A.deeper (envOf qual scope L' f cdv)) (execs body (envOf qual scope L' f cdv))
        (fun fl s' => LeaveS0 ([env].filterMap (·.frame)) h₀ L m g R (match fl with | .ret v => v | _ => .none) s')
        (fun e s' => wpAny (model prog w) (A.deeper (envOf qual scope L' f cdv)) (leaving (envOf qual scope L' f cdv) e) (fun _ s'' => R (.error e) s'') (fun e' s'' => R (.error e') s'') s')
        { s with heap := h₁, toks := s.toks + binds.length })
    (hco : scope.isCoroutine = false) (hgen : scope.isGenerator = false) (hk : scope.kind = .function)
    (hcell : ∀ x ∈ scope.names, x.2 ≠ .cell) : codeAny (model prog w) A (.call (.ref f) args) R s := by
  obtain ⟨FG, BG, st, _⟩ := groundX (R := R) B F N hA hf hke
  have fl1 : [env].filterMap (·.frame) = [L] := by simp [hf]
  have only : ∀ b, b ∈ [env].filterMap (·.frame) → b = L := fun b hb => by rw [fl1] at hb; exact List.mem_singleton.mp hb
  have off : h₀.get? L = none := kts_self F
  obtain ⟨oL, es, ep, hLg, hLd, hLk, hLf⟩ := FG.ns
  have X := X₀.keeps F.keep
  refine codeAny_call_def (fd := fnOf name qual params body scope dV kV doc pm an cdv ct) (body := body) (binds := binds) hroom (X _ _ ho) rfl (T.nolimit.keeps F.keep) (codeRec_of X hcd) rfl hbind hcell hloc (fun h₁ hns hk₁ => ?_) hco hgen hk
  have inner : Fr (hideAll s.heap (news.map (·.1))) s.heap.objs.size h₁ (fun y => binds.reverse.lookup y) := ⟨hns, fun b o e => hk₁ b o (of_hideAll _ e), Nat.le_of_eq (hideAll_size _ _)⟩
  have led : News (hideAll s.heap (news.map (·.1))) s.heap.objs.size h₁ news := fun q hq => ⟨hk₁ _ _ (N q hq).1, Nat.ne_of_lt (Heap.lt_size (N q hq).1), hideAll_none _ (List.mem_map_of_mem hq)⟩
  have dicts : KtsDicts ([env].filterMap (·.frame)) (hideAll s.heap (news.map (·.1))) := fun b hb => ⟨oL, es, ep, only b hb ▸ hLg, hLd⟩
  refine wpAny_mono (h _ _ h₁ FG inner led BG (X₀.keeps st) (T.keeps st) dicts) (fun fl s' hl => ?_) fun _ _ y => y
  obtain ⟨g', L', m', news', T', F', N', k⟩ := hl
  obtain ⟨sl, hs⟩ := T'.up hLg
  have keep : ∀ b o, h₀.get? b = some o → ∃ sl', g'.get? b = some { o with slots := sl' } := fun b o e => T'.up (st b o e)
  refine k ⟨⟨_, es, ep, F'.keep _ _ hs, hLd, hLk, hLf⟩, fun b o e => F'.keep b o (T'.other b o (st b o e) fun q => ?_), F.above⟩ fun q hq => ⟨(N' q hq).1, fun e => ?_, ?_⟩
  · rw [only b q, off] at e; cases e
  · have z := (N' q hq).2.2
    rw [e, hs] at z; cases z
  · rcases e : h₀.get? q.1 with _ | o
    · rfl
    · obtain ⟨sl', hs'⟩ := keep _ _ e
      have z := (N' q hq).2.2
      rw [hs'] at z; cases z
/-- a contract at the law's own frame -/
def SpL {α : Type} (prog : Program) (w : World) (K : Frag) (p : Program) (loose : List Str) (mean : ExcName → Option Value) (mg mb : Str → Option Value) (D U : Nat) (t : Sem α) (news : List (Addr × Obj))
    (R : Heap → Addr → (Str → Option Value) → Shared → (α → Shared → Prop) → Prop) : Prop :=
  ∀ (dp un : Nat) (gd : Option (List Code)) (cn : Str) (cs : Scope) (a : Addr) (ccd : Value) (cl : List (Str × Addr)) (A₀ : Around) (h₀ : Heap) (L : Addr) (m : Str → Option Value) (s : Shared) (Q : α → Shared → Prop) (E : Value → Shared → Prop),
    Below A₀ h₀ [] h₀ → Fr h₀ L s.heap m → K.In h₀ → News h₀ L s.heap news → Top p loose mean mg mb h₀ → cs.kind = .function → dp + D < recursionLimit → un + U < cLine → R h₀ L m s Q →
    wpAny (model prog w) (ktrTop dp un gd cn cs L a ccd cl []) t Q E s
theorem SpL.use {α : Type} {prog : Program} {w : World} {K : Frag} {p : Program} {loose : List Str} {mean : ExcName → Option Value} {mg mb : Str → Option Value} {D U : Nat} {t : Sem α} {news : List (Addr × Obj)}
    {R : Heap → Addr → (Str → Option Value) → Shared → (α → Shared → Prop) → Prop} (h : SpL prog w K p loose mean mg mb D U t news R)
    {dp un : Nat} {gd : Option (List Code)} {cn : Str} {cs : Scope} {a : Addr} {ccd : Value} {cl : List (Str × Addr)} {A₀ : Around} {h₀ : Heap} {L : Addr} {m : Str → Option Value} {s : Shared} {Q : α → Shared → Prop} {E : Value → Shared → Prop}
    (B : Below A₀ h₀ [] h₀) (F : Fr h₀ L s.heap m) (X : K.In h₀) (N : News h₀ L s.heap news) (T : Top p loose mean mg mb h₀) (hk : cs.kind = .function) (hd : dp + D < recursionLimit) (hu : un + U < cLine) (hr : R h₀ L m s Q) :
    wpAny (model prog w) (ktrTop dp un gd cn cs L a ccd cl []) t Q E s := h _ _ _ _ _ _ _ _ _ _ _ _ _ _ _ B F X N T hk hd hu hr
/-- a test cut off: it comes out as b -/
def CutT (b : Bool) (m : Str → Option Value) (led : List (Addr × Obj)) (h₀ : Heap) (L : Addr) (s : Shared) (b' : Bool) (s' : Shared) : Prop :=
  b' = b ∧ ∃ h' tk', s' = { s with heap := h', toks := tk' } ∧ Fr h₀ L h' m ∧ News h₀ L h' led
theorem cutT_end {b b' : Bool} {m : Str → Option Value} {led led' : List (Addr × Obj)} {h₀ h' : Heap} {L : Addr} {s : Shared} {tk' : Nat} (e : b' = b) (F : Fr h₀ L h' m) (N : News h₀ L h' led') (hs : ∀ p ∈ led, p ∈ led') :
    CutT b m led h₀ L s b' { s with heap := h', toks := tk' } := ⟨e, h', tk', rfl, F, fun p hp => N p (hs p hp)⟩
theorem cut_test {M : Model} {A : Around} {E : Value → Shared → Prop} {s : Shared} {env : Env} {test : Expr} {t : Sem Value} {Q : Bool → Shared → Prop} {h₀ : Heap} {L : Addr} {m : Str → Option Value} {led : List (Addr × Obj)} (b : Bool) (_F : Fr h₀ L s.heap m) (_N : News h₀ L s.heap led)
    (hw : wpAny M A (isTrue test env t) (CutT b m led h₀ L s) E s)
    (hc : ∀ h' tk', Fr h₀ L h' m → News h₀ L h' led → Q b { s with heap := h', toks := tk' }) : wpAny M A (isTrue test env t) Q E s :=
  wpAny_mono hw (fun b' s' h => by obtain ⟨rfl, h', tk', rfl, F', N'⟩ := h; exact hc h' tk' F' N') fun _ _ e => e
end
local macro_rules | `(tactic| walk_at "call ref") => `(tactic| (
  k_here
  (with_reducible show wpAny _ _ (PySem.call (Value.ref 64) _) _ _ _)
  k_dflt (refine' Sp.use (c_fp_p ?q1 ?q2 ?q3) ?k1 ?k2 ?k3 ?k4 ?k5 ?k6 ?k7 ?k8 ?k9 ?_; walk_at "use"; (case q2 => k_dflt k_mem); (case q3 => k_dflt k_mem); (case q1 => k_dflt (exact ⟨rfl, rfl, rfl, rfl⟩))); unfold RV; intro h9 tk9 F9 N9; (try dsimp only); (try k_sweep); (try k_fold)))
local macro_rules | `(tactic| walk_at "call ref") => `(tactic| (
  k_here
  (with_reducible show wpAny _ _ (PySem.call (Value.ref 71) _) _ _ _)
  k_dflt (refine' Sp.use (c_fp_a ?q1 ?q2 ?q3) ?k1 ?k2 ?k3 ?k4 ?k5 ?k6 ?k7 ?k8 ?k9 ?_; walk_at "use"; (case q2 => k_dflt k_mem); (case q3 => k_dflt k_mem); (case q1 => k_dflt (exact ⟨rfl, rfl, rfl, rfl⟩))); unfold RV; intro h9 tk9 F9 N9; (try dsimp only); (try k_sweep); (try k_fold)))
local macro_rules | `(tactic| walk_at "call ref") => `(tactic| (
  k_here
  (with_reducible show wpAny _ _ (PySem.call (Value.ref 78) _) _ _ _)
  k_dflt (refine' Sp.use (c_fp_b ?q1 ?q2 ?q3) ?k1 ?k2 ?k3 ?k4 ?k5 ?k6 ?k7 ?k8 ?k9 ?_; walk_at "use"; (case q2 => k_dflt k_mem); (case q3 => k_dflt k_mem); (case q1 => k_dflt (exact ⟨rfl, rfl, rfl, rfl⟩))); unfold RV; intro h9 tk9 F9 N9; (try dsimp only); (try k_sweep); (try k_fold)))
local macro_rules | `(tactic| walk_at "call ref") => `(tactic| (
  k_here
  (with_reducible show wpAny _ _ (PySem.call (Value.ref 85) _) _ _ _)
  k_dflt (refine' Sp.use (c_fp_h ?q1 ?q2 ?q3) ?k1 ?k2 ?k3 ?k4 ?k5 ?k6 ?k7 ?k8 ?k9 ?_; walk_at "use"; (case q2 => k_dflt k_mem); (case q3 => k_dflt k_mem); (case q1 => k_dflt (exact ⟨rfl, rfl, rfl, rfl⟩))); unfold RV; intro h9 tk9 F9 N9; (try dsimp only); (try k_sweep); (try k_fold)))
local macro_rules | `(tactic| walk_at "call ref") => `(tactic| (
  k_here
  (with_reducible show wpAny _ _ (PySem.call (Value.ref 92) _) _ _ _)
  k_dflt (refine' Sp.use (c_fp_on ?q1 ?q2 ?q3 ?q4 ?q5 ?q6 ?q7 ?q8) ?k1 ?k2 ?k3 ?k4 ?k5 ?k6 ?k7 ?k8 ?k9 ?_; walk_at "use"; (case q1 => k_dflt k_mem); (case q2 => k_dflt k_mem); (case q3 => omega); (case q4 => omega); (case q5 => omega); (case q6 => omega); (case q7 => omega); (case q8 => omega)); unfold RBool; intro h9 tk9 F9 N9; (try dsimp only); (try k_sweep); (try k_fold)))
local macro_rules | `(tactic| walk_at "call ref") => `(tactic| (
  k_here
  (with_reducible show wpAny _ _ (PySem.call (Value.ref 407) _) _ _ _)
  k_dflt (refine' Sp.use (c_po_curve ?q1 ?q2 ?q3) ?k1 ?k2 ?k3 ?k4 ?k5 ?k6 ?k7 ?k8 ?k9 ?_; walk_at "use"; (case q1 => k_dflt (first | exact ⟨rfl, rfl, rfl, rfl⟩ | (refine ⟨rfl, rfl, rfl, ?_⟩; assumption) | (refine ⟨rfl, ?_, rfl, rfl⟩; assumption))); (case q2 => k_dflt k_mem); (case q3 => k_dflt k_mem)); unfold RV; intro h9 tk9 F9 N9; (try dsimp only); (try k_sweep); (try k_fold)))
local macro_rules | `(tactic| walk_at "call ref") => `(tactic| (
  k_here
  (with_reducible show wpAny _ _ (PySem.call (Value.ref 414) _) _ _ _)
  k_dflt (refine' Sp.use (c_po_order ?q1 ?q2 ?q3) ?k1 ?k2 ?k3 ?k4 ?k5 ?k6 ?k7 ?k8 ?k9 ?_; walk_at "use"; (case q1 => k_dflt (first | exact ⟨rfl, rfl, rfl, rfl⟩ | (refine ⟨rfl, rfl, rfl, ?_⟩; assumption) | (refine ⟨rfl, ?_, rfl, rfl⟩; assumption))); (case q2 => k_dflt k_mem); (case q3 => k_dflt k_mem)); unfold RV; intro h9 tk9 F9 N9; (try dsimp only); (try k_sweep); (try k_fold)))
local macro_rules | `(tactic| walk_at "call ref") => `(tactic| (
  k_here
  (with_reducible show wpAny _ _ (PySem.call (Value.ref 173) _) _ _ _)
  k_dflt (refine' Sp.use (c_pj_curve ?q1 ?q2 ?q3) ?k1 ?k2 ?k3 ?k4 ?k5 ?k6 ?k7 ?k8 ?k9 ?_; walk_at "use"; (case q1 => k_dflt (first | exact ⟨rfl, rfl, rfl, rfl, rfl⟩ | (refine ⟨rfl, rfl, ?_, rfl, rfl⟩; assumption))); (case q2 => k_dflt k_mem); (case q3 => k_dflt k_mem)); unfold RV; intro h9 tk9 F9 N9; (try dsimp only); (try k_sweep); (try k_fold)))
local macro_rules | `(tactic| walk_at "call ref") => `(tactic| (
  k_here
  (with_reducible show wpAny _ _ (PySem.call (Value.ref 166) _) _ _ _)
  k_dflt (refine' Sp.use (c_pj_order ?q1 ?q2 ?q3) ?k1 ?k2 ?k3 ?k4 ?k5 ?k6 ?k7 ?k8 ?k9 ?_; walk_at "use"; (case q1 => k_dflt (first | exact ⟨rfl, rfl, rfl, rfl, rfl⟩ | (refine ⟨rfl, rfl, ?_, rfl, rfl⟩; assumption))); (case q2 => k_dflt k_mem); (case q3 => k_dflt k_mem)); unfold RV; intro h9 tk9 F9 N9; (try dsimp only); (try k_sweep); (try k_fold)))
local macro_rules | `(tactic| walk_at "call ref") => `(tactic| (
  k_here
  (with_reducible show wpAny _ _ (PySem.call (Value.ref 180) _) _ _ _)
  k_dflt (refine' Sp.use (c_pj_x ?q1 ?q2 ?q3 ?q4) ?k1 ?k2 ?k3 ?k4 ?k5 ?k6 ?k7 ?k8 ?k9 ?_; walk_at "use"; (case q1 => k_dflt (first | exact ⟨rfl, rfl, rfl, rfl⟩ | (refine ⟨rfl, rfl, rfl, ?_⟩; assumption) | (refine ⟨rfl, ?_, rfl, rfl⟩; assumption))); (case q2 => k_dflt k_mem); (case q3 => k_dflt k_mem); (case q4 => k_dflt k_mem)); unfold RV; intro h9 tk9 F9 N9; (try dsimp only); (try k_sweep); (try k_fold)))
local macro_rules | `(tactic| walk_at "call ref") => `(tactic| (
  k_here
  (with_reducible show wpAny _ _ (PySem.call (Value.ref 187) _) _ _ _)
  k_dflt (refine' Sp.use (c_pj_y ?q1 ?q2 ?q3 ?q4) ?k1 ?k2 ?k3 ?k4 ?k5 ?k6 ?k7 ?k8 ?k9 ?_; walk_at "use"; (case q1 => k_dflt (first | exact ⟨rfl, rfl, rfl, rfl⟩ | (refine ⟨rfl, rfl, rfl, ?_⟩; assumption) | (refine ⟨rfl, ?_, rfl, rfl⟩; assumption))); (case q2 => k_dflt k_mem); (case q3 => k_dflt k_mem); (case q4 => k_dflt k_mem)); unfold RV; intro h9 tk9 F9 N9; (try dsimp only); (try k_sweep); (try k_fold)))
local macro_rules | `(tactic| walk_at "isTrue BoolOp") => `(tactic| (k_here; goal_lacks CutT; refine Stop.of ?_))
-- the kit's own way into a def that catches
local macro_rules | `(tactic| k_enter) => `(tactic| kts_go)
variable {w : World} {mean : ExcName → Option Value} {mg mb : Str → Option Value}
def orderB : Value → Bool
  | .none => false
  | _ => true
theorem c_whole_po {news : List (Addr × Obj)} {v due : Bool} {g gd0 x d pt pd k : Addr} {g1 g2 g3 g4 t1 t2 t3 t4 t5 t6 t7 t8 p1 p2 p3 p4 p5 tx ty tz : Tok} {gx gy o po pg pl : Value} {p a b X Y : Int} (hh : handedIn gx = true ∧ handedIn gy = true ∧ handedIn po = true ∧ handedIn pg = true ∧ handedIn pl = true) (ho : o = .none ∨ ∃ n tn, o = .int n tn ∧ 0 < n) (n1 : (g, instObj 417 gd0) ∈ news) (n2 : (gd0, dictOf (poE w g1 g2 g3 g4 (.ref x) gx gy o) 4) ∈ news) (o1 : (pt, instObj 320 pd) ∈ news) (o2 : (pd, dictOf (pjE w p1 p2 p3 p4 p5 (.ref x) (.ref k) po pg pl) 5) ∈ news) (o3 : (k, tup3 X tx Y ty 1 tz) ∈ news)
    (m1 : (x, instObj 95 d) ∈ news) (m2 : (d, dictOf (fpE w t1 t2 t3 t4 (.int p t5) (.int a t6) (.int b t7) (.int 1 t8)) 4) ∈ news) (h0 : 0 < p) (h1 : p < 1000) (ha : -1000 ≤ a ∧ a ≤ 1000) (hb : -1000 ≤ b ∧ b ≤ 1000) (hX : -1000 ≤ X ∧ X ≤ 1000) (hY : -1000 ≤ Y ∧ Y ≤ 1000) (hdue : due = (inB p X Y && (!v || onB p a b X Y) && orderB o)) :
    SpL PR w (hd.heap_39 w.params) topProg LO mean mg mb 8 80 (call (.ref 563) [.ref g, .ref pt, .bool v, .bool due]) news (RBool true news) := by
  obtain ⟨iB, hiB⟩ : ∃ c, c = inB p X Y := ⟨_, rfl⟩
  obtain ⟨oB, hoB⟩ : ∃ c, c = onB p a b X Y := ⟨_, rfl⟩
  rw [← hiB, ← hoB] at hdue
  (try unfold PR LO); k_fill; w_top off
  unfold SpL
  intro dp un gd cn cs a ccd cl A₀ h₀ L M s Q E B F X N T hk hd hu hret
  unfold RBool at hret
  obtain ⟨hh1, hh2, hh3, hh4, hh5⟩ := hh
  have hho : handedIn o = true := by rcases ho with rfl | ⟨_, _, rfl, _⟩ <;> rfl
  refine wpAny_call ?_
  refine' enter_turn B F X N T rfl rfl hk ?k6 ?k7 ?k8 ?k9 ?kB ?_ ?c2 ?c3 ?c4 ?c5
  (case k6 => k_is)
  (case k7 => k_is)
  (case k8 => ktr_room)
  (case k9 => exact BindsTo.of_eq rfl)
  (case kB => exact locs rfl)
  (case c2 => exact rfl)
  (case c3 => exact rfl)
  (case c4 => exact rfl)
  (case c5 => decide)
  intro g' L' h' FG' F' N' B' X' T' D'
  try dsimp only
  try k_lift B'
  try k_fold
  walk_at "go"
  refine Stop.to ?_
  k_dflt (refine' cut_test (!iB) ?zf1 ?zn1 ?_ ?_)
  (case zf1 => k_asm)
  (case zn1 => k_asm)
  · walk_at "go"
    all_goals (
      refine cutT_end ?_ (by k_asm) (by k_asm) (fun _ h => h)
      first
      | (rw [hiB, inB_no (by omega)]; rfl)
      | (rw [hiB, inB_yes (by omega)]; rfl)
      | (rw [hiB]; unfold inB; simp; omega))
  intro h2 tk2 F2 N2
  rcases hin : iB with _ | _
  · simp only [Bool.not_false, if_true]
    walk_at "go"
    all_goals (try (dsimp only [InitBack]; walk_at "go"))
    all_goals (
      refine cb_retB (fun _ => hret) ?_ (by assumption) (cb_drop (by assumption) fun q hq => by repeat (first | exact hq | apply List.mem_cons_of_mem))
      first
      | rfl
      | (rw [hdue, hin]; rfl))
  simp only [Bool.not_true, Bool.false_eq_true, if_false]
  walk_at "go"
  refine Stop.to ?_
  k_dflt (refine' cut_test (v && !oB) ?zf2 ?zn2 ?_ ?_)
  (case zf2 => k_asm)
  (case zn2 => k_asm)
  · walk_at "go"
    all_goals (
      refine cutT_end ?_ (by k_asm) (by k_asm) (fun _ h => h)
      first | rfl | (rw [hoB]; unfold onB; simp_all; done))
  intro h3 tk3 F3 N3
  rcases hv : (v && !oB) with _ | _
  · simp only [Bool.false_eq_true, if_false]
    rcases ho with rfl | ⟨n, tn, rfl, hn⟩
    · walk_at "go"
      all_goals (try (dsimp only [InitBack]; walk_at "go"))
      all_goals (
        refine cb_retB (fun _ => hret) ?_ (by assumption) (cb_drop (by assumption) fun q hq => by repeat (first | exact hq | apply List.mem_cons_of_mem))
        first
        | rfl
        | (rw [hdue, hin]; unfold orderB; simp_all; done))
    · walk_at "go"
      refine Stop.to ?_
      k_dflt (refine' cut_test false ?zf3 ?zn3 ?_ ?_)
      (case zf3 => k_asm)
      (case zn3 => k_asm)
      · walk_at "go"
        all_goals (refine cutT_end ?_ (by k_asm) (by k_asm) (fun _ h => h); rfl)
      intro h4 tk4 F4 N4
      simp only [Bool.false_eq_true, if_false]
      walk_at "go"
      all_goals (try (dsimp only [InitBack]; walk_at "go"))
      all_goals (
        refine cb_retB (fun _ => hret) ?_ (by assumption) (cb_drop (by assumption) fun q hq => by repeat (first | exact hq | apply List.mem_cons_of_mem))
        first
        | rfl
        | (rw [hdue, hin]; unfold orderB; rcases v with _ | _ <;> simp_all; done))
  · simp only [if_true]
    walk_at "go"
    all_goals (try (dsimp only [InitBack]; walk_at "go"))
    all_goals (
      refine cb_retB (fun _ => hret) ?_ (by assumption) (cb_drop (by assumption) fun q hq => by repeat (first | exact hq | apply List.mem_cons_of_mem))
      first
      | rfl
      | (rw [hdue, hin]; simp_all; done))
end
-- L04n
section
local macro_rules | `(tactic| walk_at "pad0") => `(tactic| fail)
local macro_rules | `(tactic| walk_at "call ref") => `(tactic| (
  k_here
  (with_reducible show wpAny _ _ (PySem.call (Value.ref 64) _) _ _ _)
  k_dflt (refine' Sp.use (c_fp_p ?q1 ?q2 ?q3) ?k1 ?k2 ?k3 ?k4 ?k5 ?k6 ?k7 ?k8 ?k9 ?_; walk_at "use"; (case q2 => k_dflt k_mem); (case q3 => k_dflt k_mem); (case q1 => k_dflt (exact ⟨rfl, rfl, rfl, rfl⟩))); unfold RV; intro h9 tk9 F9 N9; (try dsimp only); (try k_sweep); (try k_fold)))
local macro_rules | `(tactic| walk_at "call ref") => `(tactic| (
  k_here
  (with_reducible show wpAny _ _ (PySem.call (Value.ref 71) _) _ _ _)
  k_dflt (refine' Sp.use (c_fp_a ?q1 ?q2 ?q3) ?k1 ?k2 ?k3 ?k4 ?k5 ?k6 ?k7 ?k8 ?k9 ?_; walk_at "use"; (case q2 => k_dflt k_mem); (case q3 => k_dflt k_mem); (case q1 => k_dflt (exact ⟨rfl, rfl, rfl, rfl⟩))); unfold RV; intro h9 tk9 F9 N9; (try dsimp only); (try k_sweep); (try k_fold)))
local macro_rules | `(tactic| walk_at "call ref") => `(tactic| (
  k_here
  (with_reducible show wpAny _ _ (PySem.call (Value.ref 78) _) _ _ _)
  k_dflt (refine' Sp.use (c_fp_b ?q1 ?q2 ?q3) ?k1 ?k2 ?k3 ?k4 ?k5 ?k6 ?k7 ?k8 ?k9 ?_; walk_at "use"; (case q2 => k_dflt k_mem); (case q3 => k_dflt k_mem); (case q1 => k_dflt (exact ⟨rfl, rfl, rfl, rfl⟩))); unfold RV; intro h9 tk9 F9 N9; (try dsimp only); (try k_sweep); (try k_fold)))
local macro_rules | `(tactic| walk_at "call ref") => `(tactic| (
  k_here
  (with_reducible show wpAny _ _ (PySem.call (Value.ref 85) _) _ _ _)
  k_dflt (refine' Sp.use (c_fp_h ?q1 ?q2 ?q3) ?k1 ?k2 ?k3 ?k4 ?k5 ?k6 ?k7 ?k8 ?k9 ?_; walk_at "use"; (case q2 => k_dflt k_mem); (case q3 => k_dflt k_mem); (case q1 => k_dflt (exact ⟨rfl, rfl, rfl, rfl⟩))); unfold RV; intro h9 tk9 F9 N9; (try dsimp only); (try k_sweep); (try k_fold)))
local macro_rules | `(tactic| walk_at "call ref") => `(tactic| (
  k_here
  (with_reducible show wpAny _ _ (PySem.call (Value.ref 92) _) _ _ _)
  k_dflt (refine' Sp.use (c_fp_on ?q1 ?q2 ?q3 ?q4 ?q5 ?q6 ?q7 ?q8) ?k1 ?k2 ?k3 ?k4 ?k5 ?k6 ?k7 ?k8 ?k9 ?_; walk_at "use"; (case q1 => k_dflt k_mem); (case q2 => k_dflt k_mem); (case q3 => omega); (case q4 => omega); (case q5 => omega); (case q6 => omega); (case q7 => omega); (case q8 => omega)); unfold RBool; intro h9 tk9 F9 N9; (try dsimp only); (try k_sweep); (try k_fold)))
local macro_rules | `(tactic| walk_at "call ref") => `(tactic| (
  k_here
  (with_reducible show wpAny _ _ (PySem.call (Value.ref 407) _) _ _ _)
  k_dflt (refine' Sp.use (c_po_curve ?q1 ?q2 ?q3) ?k1 ?k2 ?k3 ?k4 ?k5 ?k6 ?k7 ?k8 ?k9 ?_; walk_at "use"; (case q1 => k_dflt (first | exact ⟨rfl, rfl, rfl, rfl⟩ | (refine ⟨rfl, rfl, rfl, ?_⟩; assumption) | (refine ⟨rfl, ?_, rfl, rfl⟩; assumption))); (case q2 => k_dflt k_mem); (case q3 => k_dflt k_mem)); unfold RV; intro h9 tk9 F9 N9; (try dsimp only); (try k_sweep); (try k_fold)))
local macro_rules | `(tactic| walk_at "call ref") => `(tactic| (
  k_here
  (with_reducible show wpAny _ _ (PySem.call (Value.ref 414) _) _ _ _)
  k_dflt (refine' Sp.use (c_po_order ?q1 ?q2 ?q3) ?k1 ?k2 ?k3 ?k4 ?k5 ?k6 ?k7 ?k8 ?k9 ?_; walk_at "use"; (case q1 => k_dflt (first | exact ⟨rfl, rfl, rfl, rfl⟩ | (refine ⟨rfl, rfl, rfl, ?_⟩; assumption) | (refine ⟨rfl, ?_, rfl, rfl⟩; assumption))); (case q2 => k_dflt k_mem); (case q3 => k_dflt k_mem)); unfold RV; intro h9 tk9 F9 N9; (try dsimp only); (try k_sweep); (try k_fold)))
local macro_rules | `(tactic| walk_at "call ref") => `(tactic| (
  k_here
  (with_reducible show wpAny _ _ (PySem.call (Value.ref 173) _) _ _ _)
  k_dflt (refine' Sp.use (c_pj_curve ?q1 ?q2 ?q3) ?k1 ?k2 ?k3 ?k4 ?k5 ?k6 ?k7 ?k8 ?k9 ?_; walk_at "use"; (case q1 => k_dflt (first | exact ⟨rfl, rfl, rfl, rfl, rfl⟩ | (refine ⟨rfl, rfl, ?_, rfl, rfl⟩; assumption))); (case q2 => k_dflt k_mem); (case q3 => k_dflt k_mem)); unfold RV; intro h9 tk9 F9 N9; (try dsimp only); (try k_sweep); (try k_fold)))
local macro_rules | `(tactic| walk_at "call ref") => `(tactic| (
  k_here
  (with_reducible show wpAny _ _ (PySem.call (Value.ref 166) _) _ _ _)
  k_dflt (refine' Sp.use (c_pj_order ?q1 ?q2 ?q3) ?k1 ?k2 ?k3 ?k4 ?k5 ?k6 ?k7 ?k8 ?k9 ?_; walk_at "use"; (case q1 => k_dflt (first | exact ⟨rfl, rfl, rfl, rfl, rfl⟩ | (refine ⟨rfl, rfl, ?_, rfl, rfl⟩; assumption))); (case q2 => k_dflt k_mem); (case q3 => k_dflt k_mem)); unfold RV; intro h9 tk9 F9 N9; (try dsimp only); (try k_sweep); (try k_fold)))
local macro_rules | `(tactic| walk_at "call ref") => `(tactic| (
  k_here
  (with_reducible show wpAny _ _ (PySem.call (Value.ref 180) _) _ _ _)
  k_dflt (refine' Sp.use (c_pj_x ?q1 ?q2 ?q3 ?q4) ?k1 ?k2 ?k3 ?k4 ?k5 ?k6 ?k7 ?k8 ?k9 ?_; walk_at "use"; (case q1 => k_dflt (first | exact ⟨rfl, rfl, rfl, rfl⟩ | (refine ⟨rfl, rfl, rfl, ?_⟩; assumption) | (refine ⟨rfl, ?_, rfl, rfl⟩; assumption))); (case q2 => k_dflt k_mem); (case q3 => k_dflt k_mem); (case q4 => k_dflt k_mem)); unfold RV; intro h9 tk9 F9 N9; (try dsimp only); (try k_sweep); (try k_fold)))
local macro_rules | `(tactic| walk_at "call ref") => `(tactic| (
  k_here
  (with_reducible show wpAny _ _ (PySem.call (Value.ref 187) _) _ _ _)
  k_dflt (refine' Sp.use (c_pj_y ?q1 ?q2 ?q3 ?q4) ?k1 ?k2 ?k3 ?k4 ?k5 ?k6 ?k7 ?k8 ?k9 ?_; walk_at "use"; (case q1 => k_dflt (first | exact ⟨rfl, rfl, rfl, rfl⟩ | (refine ⟨rfl, rfl, rfl, ?_⟩; assumption) | (refine ⟨rfl, ?_, rfl, rfl⟩; assumption))); (case q2 => k_dflt k_mem); (case q3 => k_dflt k_mem); (case q4 => k_dflt k_mem)); unfold RV; intro h9 tk9 F9 N9; (try dsimp only); (try k_sweep); (try k_fold)))
local macro_rules | `(tactic| walk_at "isTrue BoolOp") => `(tactic| (k_here; goal_lacks CutT; refine Stop.of ?_))
local macro_rules | `(tactic| k_enter) => `(tactic| kts_go)
variable {w : World} {mean : ExcName → Option Value} {mg mb : Str → Option Value}
theorem c_whole_pj {news : List (Addr × Obj)} {v due : Bool} {g gd0 gk x d pt pd k : Addr} {g1 g2 g3 g4 g5 tgx tgy tgz t1 t2 t3 t4 t5 t6 t7 t8 p1 p2 p3 p4 p5 tx ty tz : Tok} {o gg gl po pg pl : Value} {p a b X Y gX gY : Int} (hh : handedIn gg = true ∧ handedIn gl = true ∧ handedIn po = true ∧ handedIn pg = true ∧ handedIn pl = true) (ho : o = .none ∨ ∃ n tn, o = .int n tn ∧ 0 < n) (n1 : (g, instObj 320 gd0) ∈ news) (n2 : (gd0, dictOf (pjE w g1 g2 g3 g4 g5 (.ref x) (.ref gk) o gg gl) 5) ∈ news) (n3 : (gk, tup3 gX tgx gY tgy 1 tgz) ∈ news) (o1 : (pt, instObj 320 pd) ∈ news) (o2 : (pd, dictOf (pjE w p1 p2 p3 p4 p5 (.ref x) (.ref k) po pg pl) 5) ∈ news) (o3 : (k, tup3 X tx Y ty 1 tz) ∈ news)
    (m1 : (x, instObj 95 d) ∈ news) (m2 : (d, dictOf (fpE w t1 t2 t3 t4 (.int p t5) (.int a t6) (.int b t7) (.int 1 t8)) 4) ∈ news) (h0 : 0 < p) (h1 : p < 1000) (ha : -1000 ≤ a ∧ a ≤ 1000) (hb : -1000 ≤ b ∧ b ≤ 1000) (hX : -1000 ≤ X ∧ X ≤ 1000) (hY : -1000 ≤ Y ∧ Y ≤ 1000) (hdue : due = (inB p X Y && (!v || onB p a b X Y) && orderB o)) :
    SpL PR w (hd.heap_39 w.params) topProg LO mean mg mb 8 80 (call (.ref 563) [.ref g, .ref pt, .bool v, .bool due]) news (RBool true news) := by
  obtain ⟨iB, hiB⟩ : ∃ c, c = inB p X Y := ⟨_, rfl⟩
  obtain ⟨oB, hoB⟩ : ∃ c, c = onB p a b X Y := ⟨_, rfl⟩
  rw [← hiB, ← hoB] at hdue
  (try unfold PR LO); k_fill; w_top off
  unfold SpL
  intro dp un gd cn cs a ccd cl A₀ h₀ L M s Q E B F X N T hk hd hu hret
  unfold RBool at hret
  obtain ⟨hh1, hh2, hh3, hh4, hh5⟩ := hh
  have hho : handedIn o = true := by rcases ho with rfl | ⟨_, _, rfl, _⟩ <;> rfl
  refine wpAny_call ?_
  refine' enter_turn B F X N T rfl rfl hk ?k6 ?k7 ?k8 ?k9 ?kB ?_ ?c2 ?c3 ?c4 ?c5
  (case k6 => k_is)
  (case k7 => k_is)
  (case k8 => ktr_room)
  (case k9 => exact BindsTo.of_eq rfl)
  (case kB => exact locs rfl)
  (case c2 => exact rfl)
  (case c3 => exact rfl)
  (case c4 => exact rfl)
  (case c5 => decide)
  intro g' L' h' FG' F' N' B' X' T' D'
  try dsimp only
  try k_lift B'
  try k_fold
  walk_at "go"
  refine Stop.to ?_
  k_dflt (refine' cut_test (!iB) ?zf1 ?zn1 ?_ ?_)
  (case zf1 => k_asm)
  (case zn1 => k_asm)
  · walk_at "go"
    all_goals (
      refine cutT_end ?_ (by k_asm) (by k_asm) (fun _ h => h)
      first
      | (rw [hiB, inB_no (by omega)]; rfl)
      | (rw [hiB, inB_yes (by omega)]; rfl)
      | (rw [hiB]; unfold inB; simp; omega))
  intro h2 tk2 F2 N2
  rcases hin : iB with _ | _
  · simp only [Bool.not_false, if_true]
    walk_at "go"
    all_goals (try (dsimp only [InitBack]; walk_at "go"))
    all_goals (
      refine cb_retB (fun _ => hret) ?_ (by assumption) (cb_drop (by assumption) fun q hq => by repeat (first | exact hq | apply List.mem_cons_of_mem))
      first
      | rfl
      | (rw [hdue, hin]; rfl))
  simp only [Bool.not_true, Bool.false_eq_true, if_false]
  walk_at "go"
  refine Stop.to ?_
  k_dflt (refine' cut_test (v && !oB) ?zf2 ?zn2 ?_ ?_)
  (case zf2 => k_asm)
  (case zn2 => k_asm)
  · walk_at "go"
    all_goals (
      refine cutT_end ?_ (by k_asm) (by k_asm) (fun _ h => h)
      first | rfl | (rw [hoB]; unfold onB; simp_all; done))
  intro h3 tk3 F3 N3
  rcases hv : (v && !oB) with _ | _
  · simp only [Bool.false_eq_true, if_false]
    rcases ho with rfl | ⟨n, tn, rfl, hn⟩
    · walk_at "go"
      all_goals (try (dsimp only [InitBack]; walk_at "go"))
      all_goals (
        refine cb_retB (fun _ => hret) ?_ (by assumption) (cb_drop (by assumption) fun q hq => by repeat (first | exact hq | apply List.mem_cons_of_mem))
        first
        | rfl
        | (rw [hdue, hin]; unfold orderB; simp_all; done))
    · walk_at "go"
      refine Stop.to ?_
      k_dflt (refine' cut_test false ?zf3 ?zn3 ?_ ?_)
      (case zf3 => k_asm)
      (case zn3 => k_asm)
      · walk_at "go"
        all_goals (refine cutT_end ?_ (by k_asm) (by k_asm) (fun _ h => h); rfl)
      intro h4 tk4 F4 N4
      simp only [Bool.false_eq_true, if_false]
      walk_at "go"
      all_goals (try (dsimp only [InitBack]; walk_at "go"))
      all_goals (
        refine cb_retB (fun _ => hret) ?_ (by assumption) (cb_drop (by assumption) fun q hq => by repeat (first | exact hq | apply List.mem_cons_of_mem))
        first
        | rfl
        | (rw [hdue, hin]; unfold orderB; rcases v with _ | _ <;> simp_all; done))
  · simp only [if_true]
    walk_at "go"
    all_goals (try (dsimp only [InitBack]; walk_at "go"))
    all_goals (
      refine cb_retB (fun _ => hret) ?_ (by assumption) (cb_drop (by assumption) fun q hq => by repeat (first | exact hq | apply List.mem_cons_of_mem))
      first
      | rfl
      | (rw [hdue, hin]; simp_all; done))
end
-- L04p
section
/-! the multiples 1..5 of a point of a good curve are points -/
def nInv (p v : Nat) : Nat := v ^ (p - 2) % p
def nrow (p a x y : Nat) : Nat → Nat → Nat → Bool
  | 0, _, _ => true
  | k + 1, X, Y =>
    let s := cond (Nat.beq X x) ((3 * X * X + a) * nInv p (2 * Y % p) % p) ((y + (p - Y)) * nInv p ((x + (p - X)) % p) % p)
    let X' := (s * s + (p - X) + (p - x)) % p
    cond (Nat.beq X x && Nat.beq ((Y + y) % p) 0) false (nrow p a x y k X' ((s * (X + (p - X')) + (p - Y)) % p))
def nrhs (p a b x : Nat) : Nat := (x * x * x + a * x + b) % p
/-- 1 + the number of points, or 0 where a point is not fine -/
def ncount (p a b : Nat) : Nat → Nat → Nat
  | 0, n => n
  | x + 1, n => cond (Nat.beq (nrhs p a b x) 0) 0 (cond (Nat.beq (nrhs p a b x ^ ((p - 1) / 2) % p) 1) (cond (Nat.beq ((3 * x * x + a) % p) 0) 0 (ncount p a b x (n + 2))) (ncount p a b x n))
def nPr (n : Nat) : Bool := Nat.beq n 5 || Nat.beq n 7 || Nat.beq n 11 || Nat.beq n 13 || Nat.beq n 17 || Nat.beq n 19 || Nat.beq n 23 || Nat.beq n 29 || Nat.beq n 31 || Nat.beq n 37 || Nat.beq n 41 || Nat.beq n 43 || Nat.beq n 47
def nok (p a b n : Nat) : Bool :=
  !(nPr n) ||
    (List.range p).all fun x => cond (Nat.beq (nrhs p a b x ^ ((p - 1) / 2) % p) 1) ((List.range p).all fun y => !(Nat.beq (y * y % p) (nrhs p a b x)) || nrow p a x y (cond (Nat.beq n 5) 3 4) x y) true
def nall (p : Nat) : Bool := (List.range p).all fun a => (List.range p).all fun b => nok p a b (ncount p a b p 1)
theorem nbeq_ne {a b : Nat} (h : a ≠ b) : Nat.beq a b = false := by
  cases e : Nat.beq a b with
  | false => rfl
  | true => exact absurd (Nat.eq_of_beq_eq_true e) h
theorem nbeq_eq {a b : Nat} (h : a = b) : Nat.beq a b = true := by subst h; exact Nat.beq_refl a
theorem n5 : nall 5 = true := by decide +kernel
theorem n7 : nall 7 = true := by decide +kernel
theorem n11 : nall 11 = true := by decide +kernel
theorem n13 : nall 13 = true := by decide +kernel
theorem n17 : nall 17 = true := by decide +kernel
theorem n19 : nall 19 = true := by decide +kernel
theorem n23 : nall 23 = true := by decide +kernel
/-- the small facts of one prime -/
def small (p : Nat) : Bool := (List.range p).all fun r => linv p r == (nInv p r : Int) && (r == 0 || (sqs p p r).length == (if r ^ ((p - 1) / 2) % p = 1 then 2 else 0)) && (sqs p p r).length ≤ 2
theorem smalls : ∀ p ∈ [5, 7, 11, 13, 17, 19, 23], small p = true := by decide +kernel
theorem nalls : ∀ p ∈ [5, 7, 11, 13, 17, 19, 23], nall p = true := by
  intro p hp
  simp only [List.mem_cons, List.not_mem_nil, or_false] at hp
  rcases hp with rfl | rfl | rfl | rfl | rfl | rfl | rfl
  · exact n5
  · exact n7
  · exact n11
  · exact n13
  · exact n17
  · exact n19
  · exact n23
theorem prs : ∀ n : Nat, n < 48 → 4 < n → isPr (n : Int) = true → nPr n = true := by decide +kernel
section
variable {p : Nat} (hp : p ∈ [5, 7, 11, 13, 17, 19, 23])
include hp
theorem p_pos : 0 < p := by
  simp only [List.mem_cons, List.not_mem_nil, or_false] at hp; omega
theorem small_inv {r : Nat} (hr : r < p) : linv p r = (nInv p r : Int) := by
  have h := List.all_eq_true.mp (smalls p hp) r (List.mem_range.mpr hr)
  simp only [Bool.and_eq_true, beq_iff_eq] at h
  exact h.1.1
theorem small_len {r : Nat} (hr : r < p) (h0 : r ≠ 0) : (sqs p p r).length = if r ^ ((p - 1) / 2) % p = 1 then 2 else 0 := by
  have h := List.all_eq_true.mp (smalls p hp) r (List.mem_range.mpr hr)
  simp only [Bool.and_eq_true, Bool.or_eq_true, beq_iff_eq] at h
  exact h.1.2.resolve_left h0
theorem small_two {r : Nat} (hr : r < p) : (sqs p p r).length ≤ 2 := by
  have h := List.all_eq_true.mp (smalls p hp) r (List.mem_range.mpr hr)
  simp only [Bool.and_eq_true, decide_eq_true_eq] at h
  exact h.2
omit hp in
theorem fmod_nat (hp0 : 0 < p) (x : Int) : x.fmod (p : Int) = x % (p : Int) := Int.fmod_eq_emod_of_nonneg x (by omega)
theorem linv_nat {v : Int} {r : Nat} (h : v % (p : Int) = (r : Int)) : linv p v = (nInv p r : Int) := by
  have hp0 := p_pos hp
  have hr : r < p := by
    have := Int.emod_lt_of_pos v (show (0 : Int) < p by omega)
    omega
  rw [← small_inv hp hr]
  unfold linv
  have : (fun k : Nat => (v * (k : Int)).fmod p == 1) = (fun k : Nat => ((r : Int) * (k : Int)).fmod p == 1) := by
    funext k
    rw [fmod_nat hp0, fmod_nat hp0, ← h, show v * (k : Int) % p = v % p * k % p from (Int.mul_emod v k p).trans (((Int.mul_emod (v % p) k p).trans (by rw [Int.emod_emod])).symm)]
  rw [this]
theorem nrow_step {a x y X Y k : Nat} (hX : X < p) (hY : Y < p) (hx : x < p) (hy : y < p) (h : nrow p a x y (k + 1) X Y = true) :
    ∃ X' Y' : Nat, X' < p ∧ Y' < p ∧ lsum p a (some ((X : Int), (Y : Int))) (some ((x : Int), (y : Int))) = some ((X' : Int), (Y' : Int)) ∧ nrow p a x y k X' Y' = true := by
  have hp0 := p_pos hp
  unfold nrow at h
  dsimp only at h
  have hn : ¬ ((X : Int) = (x : Int) ∧ ((Y : Int) + (y : Int)).fmod (p : Int) = 0) := by
    rintro ⟨h1, h2⟩
    have e1 : X = x := by omega
    rw [fmod_nat hp0] at h2
    have e2 : (Y + y) % p = 0 := by exact_mod_cast h2
    rw [e1, e2] at h
    simp at h
  have hc : (Nat.beq X x && Nat.beq ((Y + y) % p) 0) = false := by
    rw [Bool.and_eq_false_iff]
    by_cases e : X = x
    · right
      refine nbeq_ne fun e2 => ?_
      refine hn ⟨by rw [e], ?_⟩
      rw [fmod_nat hp0]
      exact_mod_cast e2
    · left
      exact nbeq_ne e
  rw [hc] at h
  simp only [cond_false] at h
  generalize hS : (cond (Nat.beq X x) ((3 * X * X + a) * nInv p (2 * Y % p) % p) ((y + (p - Y)) * nInv p ((x + (p - X)) % p) % p)) = S at h
  refine ⟨_, _, Nat.mod_lt _ hp0, Nat.mod_lt _ hp0, ?_, h⟩
  unfold lsum
  dsimp only
  rw [if_neg hn]
  generalize hs : (if (X : Int) = (x : Int) then (3 * (X : Int) * X + a) * linv p (2 * (Y : Int)) else ((y : Int) - Y) * linv p ((x : Int) - X)) = s
  have hSs : (S : Int) = s % (p : Int) := by
    rw [← hS, ← hs]
    by_cases e : X = x
    · subst e
      rw [if_pos rfl, linv_nat hp (r := 2 * Y % p) (by push_cast; rfl)]
      simp
    · rw [if_neg (by omega), linv_nat hp (r := (x + (p - X)) % p) (by
        push_cast [Int.ofNat_sub (Nat.le_of_lt hX)]
        rw [show (x : Int) + (p - X) = (x - X) + p by omega, Int.add_emod_right])]
      have : Nat.beq X x = false := nbeq_ne e
      rw [this]
      push_cast [Int.ofNat_sub (Nat.le_of_lt hY), cond_false]
      rw [show (y : Int) + (p - Y) = (y - Y) + p by omega, Int.add_mul, Int.add_mul_emod_self_left]
  have hsc : s = S + p * (s / p) := by rw [hSs]; exact (Int.emod_add_mul_ediv s p).symm
  generalize s / p = c at hsc
  have hx' : (s * s - X - x).fmod (p : Int) = (((S * S + (p - X) + (p - x)) % p : Nat) : Int) := by
    rw [fmod_nat hp0]
    push_cast [Int.ofNat_sub (Nat.le_of_lt hX), Int.ofNat_sub (Nat.le_of_lt hx)]
    rw [show s * s - X - x = (S * S + (p - X) + (p - x)) + p * (2 * S * c + p * c * c - 2) by rw [hsc]; grind, Int.add_mul_emod_self_left]
  rw [hx']
  generalize hX' : (S * S + (p - X) + (p - x)) % p = X'
  have hX'p : X' < p := hX' ▸ Nat.mod_lt _ hp0
  have hy' : (s * ((X : Int) - X') - Y).fmod (p : Int) = (((S * (X + (p - X')) + (p - Y)) % p : Nat) : Int) := by
    rw [fmod_nat hp0]
    push_cast [Int.ofNat_sub (Nat.le_of_lt hX'p), Int.ofNat_sub (Nat.le_of_lt hY)]
    rw [show s * ((X : Int) - X') - Y = (S * (X + (p - X')) + (p - Y)) + p * (c * (X - X') - S - 1) by rw [hsc]; grind, Int.add_mul_emod_self_left]
  rw [hy']
theorem nrow_mult {a x y : Nat} (hx : x < p) (hy : y < p) : ∀ (k i X Y : Nat), X < p → Y < p → mult p a ((x : Int), (y : Int)) i = some ((X : Int), (Y : Int)) → nrow p a x y k X Y = true →
    ∀ j, j ≤ k → mult p a ((x : Int), (y : Int)) (i + j) ≠ none
  | 0, i, X, Y, _, _, hm, _, j, hj => by
    have : j = 0 := by omega
    subst this
    rw [Nat.add_zero, hm]; simp
  | k + 1, i, X, Y, hX, hY, hm, h, j, hj => by
    obtain ⟨X', Y', hX', hY', hl, hr⟩ := nrow_step hp hX hY hx hy h
    have hm' : mult p a ((x : Int), (y : Int)) (i + 1) = some ((X' : Int), (Y' : Int)) := by
      show lsum p a (mult p a ((x : Int), (y : Int)) i) _ = _
      rw [hm]; exact hl
    match j with
    | 0 => rw [Nat.add_zero, hm]; simp
    | j + 1 =>
      have := nrow_mult hx hy k (i + 1) X' Y' hX' hY' hm' hr j (by omega)
      rw [show i + (j + 1) = i + 1 + j by omega]; exact this
theorem rhs_nat (a b x : Nat) : rhs p a b x = ((nrhs p a b x : Nat) : Int) := by
  unfold rhs nrhs
  rw [fmod_nat (p_pos hp)]
  push_cast
  rfl
theorem ncount_len {a b : Nat} : ∀ (i n : Nat), i ≤ p → (∀ q ∈ ptsTo p a b i, q.2 ≠ 0 ∧ (3 * q.1 * q.1 + (a : Int)).fmod p ≠ 0) → ncount p a b i n = n + (ptsTo p a b i).length
  | 0, n, _, _ => rfl
  | i + 1, n, hi, hf => by
    have hp0 := p_pos hp
    have e : ptsTo p a b (i + 1) = ptsTo p a b i ++ (sqs p p (rhs p a b i)).map fun y => ((i : Int), y) := ptsTo_succ p a b i
    rw [e] at hf ⊢
    have hr := rhs_nat hp a b i
    have hrp : nrhs p a b i < p := Nat.mod_lt _ hp0
    have hf1 : ∀ q ∈ ptsTo p a b i, q.2 ≠ 0 ∧ (3 * q.1 * q.1 + (a : Int)).fmod p ≠ 0 := fun q hq => hf q (List.mem_append_left _ hq)
    have hf2 : ∀ y ∈ sqs p p (rhs p a b i), y ≠ 0 ∧ (3 * (i : Int) * i + (a : Int)).fmod p ≠ 0 := fun y hy => hf ((i : Int), y) (List.mem_append_right _ (List.mem_map.mpr ⟨y, hy, rfl⟩))
    have h0 : nrhs p a b i ≠ 0 := by
      intro e0
      refine (hf2 0 ?_).1 rfl
      unfold sqs
      refine List.mem_filter.mpr ⟨List.mem_map.mpr ⟨0, List.mem_range.mpr hp0, rfl⟩, ?_⟩
      rw [hr, e0]; simp
    have hl := small_len hp hrp h0
    rw [← hr] at hl
    unfold ncount
    rw [show Nat.beq (nrhs p a b i) 0 = false from nbeq_ne h0]
    rw [List.length_append, List.length_map, hl]
    by_cases hq : nrhs p a b i ^ ((p - 1) / 2) % p = 1
    · rw [if_pos hq, show Nat.beq (nrhs p a b i ^ ((p - 1) / 2) % p) 1 = true from nbeq_eq hq]
      rw [if_pos hq] at hl
      obtain ⟨y, hy⟩ : ∃ y, y ∈ sqs p p (rhs p a b i) := List.exists_mem_of_length_pos (by omega)
      have h3 := (hf2 y hy).2
      have h3' : (3 * i * i + a) % p ≠ 0 := by
        intro e3
        refine h3 ?_
        rw [fmod_nat hp0]
        exact_mod_cast e3
      rw [show Nat.beq ((3 * i * i + a) % p) 0 = false from nbeq_ne h3']
      simp only [cond_false, cond_true]
      rw [ncount_len i (n + 2) (by omega) hf1]; omega
    · rw [if_neg hq, show Nat.beq (nrhs p a b i ^ ((p - 1) / 2) % p) 1 = false from nbeq_ne hq]
      simp only [cond_false]
      rw [ncount_len i n (by omega) hf1]; omega
theorem ptsTo_two (a b : Nat) : ∀ i : Nat, (ptsTo p a b i).length ≤ 2 * i
  | 0 => Nat.le_refl _
  | i + 1 => by
    have e : ptsTo p a b (i + 1) = ptsTo p a b i ++ (sqs p p (rhs p a b i)).map fun y => ((i : Int), y) := ptsTo_succ p a b i
    rw [e, List.length_append, List.length_map, rhs_nat hp]
    have := ptsTo_two a b i
    have := small_two hp (r := nrhs p a b i) (Nat.mod_lt _ (p_pos hp))
    omega
theorem good_nat {a b : Nat} (ha : a < p) (hb : b < p) (h3 : (pts p a b).length > 3) (hpr : isPr ((pts p a b).length + 1) = true) (hf : fine p a (pts p a b) = true) {x y : Nat} (hq : ((x : Int), (y : Int)) ∈ pts p a b) (j : Nat) (hj : 1 ≤ j) (hj5 : j ≤ 5) (hjl : j ≤ (pts p a b).length) :
    mult p a ((x : Int), (y : Int)) j ≠ none := by
  have hp0 := p_pos hp
  have hp23 : p ≤ 23 := by simp only [List.mem_cons, List.not_mem_nil, or_false] at hp; omega
  have hm := pts_mem hq
  dsimp only at hm
  have hx : x < p := by omega
  have hy : y < p := by omega
  unfold fine at hf
  rw [Bool.and_eq_true] at hf
  have hf1 : ∀ q ∈ ptsTo p a b p, q.2 ≠ 0 ∧ (3 * q.1 * q.1 + (a : Int)).fmod p ≠ 0 := by
    intro q hq
    have := List.all_eq_true.mp hf.1 q hq
    simpa using this
  have hn := ncount_len hp p 1 (Nat.le_refl _) hf1
  have hpts : ptsTo (p : Int) a b p = pts p a b := rfl
  have hle := ptsTo_two hp a b p
  rw [hpts] at hn hle
  have hP := prs (ncount p a b p 1) (by omega) (by omega) (by rw [hn]; push_cast; rw [Int.add_comm]; exact hpr)
  have hA := List.all_eq_true.mp (List.all_eq_true.mp (nalls p hp) a (List.mem_range.mpr ha)) b (List.mem_range.mpr hb)
  unfold nok at hA
  rw [hP] at hA
  simp only [Bool.not_true, Bool.false_or] at hA
  have hB := List.all_eq_true.mp hA x (List.mem_range.mpr hx)
  have hrr := rhs_nat hp a b x
  have hy2 : y * y % p = nrhs p a b x := by
    have := hm.2.2.2.2
    rw [hrr, fmod_nat hp0] at this
    exact_mod_cast this
  have hyl : (y : Int) ∈ sqs p p (nrhs p a b x) := by
    unfold sqs
    refine List.mem_filter.mpr ⟨List.mem_map.mpr ⟨y, List.mem_range.mpr hy, rfl⟩, ?_⟩
    rw [← hrr, hm.2.2.2.2]; simp
  have h0 : nrhs p a b x ≠ 0 := by
    intro e0
    refine (hf1 ((x : Int), 0) ?_).1 rfl
    unfold ptsTo
    refine List.mem_flatMap.mpr ⟨x, List.mem_range.mpr hx, List.mem_map.mpr ⟨0, ?_, rfl⟩⟩
    unfold sqs
    refine List.mem_filter.mpr ⟨List.mem_map.mpr ⟨0, List.mem_range.mpr hp0, rfl⟩, ?_⟩
    rw [hrr, e0]; simp
  have hlen := small_len hp (r := nrhs p a b x) (Nat.mod_lt _ hp0) h0
  have hpos := List.length_pos_of_mem hyl
  have hpow : nrhs p a b x ^ ((p - 1) / 2) % p = 1 := by
    by_cases h : nrhs p a b x ^ ((p - 1) / 2) % p = 1
    · exact h
    · rw [if_neg h] at hlen; omega
  rw [hpow] at hB
  have hC := List.all_eq_true.mp hB y (List.mem_range.mpr hy)
  rw [hy2] at hC
  have hrow : nrow p a x y (cond (Nat.beq (ncount p a b p 1) 5) 3 4) x y = true := by simpa using hC
  have hm1 : mult p a ((x : Int), (y : Int)) 1 = some ((x : Int), (y : Int)) := rfl
  have := nrow_mult hp hx hy _ 1 x y hx hy hm1 hrow (j - 1) (by
    rw [hn]
    by_cases h5 : 1 + (pts (p : Int) a b).length = 5
    · rw [h5]; simp; omega
    · rw [show Nat.beq (1 + (pts (p : Int) a b).length) 5 = false from nbeq_ne h5]
      simp; omega)
  rw [show 1 + (j - 1) = j by omega] at this
  exact this
end
theorem good_mult {p a b : Int} (hG : Good p a b) {q : Int × Int} (hq : q ∈ pts p a b) (j : Nat) (hj : 1 ≤ j) (hj5 : j ≤ 5) (hjl : j ≤ (pts p a b).length) : mult p a q j ≠ none := by
  obtain ⟨hpp, hA1, hA2, hB1, hB2, hG1, hG2, hG3⟩ := hG
  have hm := pts_mem hq
  obtain ⟨P, rfl⟩ : ∃ P : Nat, p = (P : Int) := ⟨p.toNat, by simp only [primes, List.mem_cons, List.not_mem_nil, or_false] at hpp; omega⟩
  obtain ⟨a, rfl⟩ := Int.eq_ofNat_of_zero_le hA1
  obtain ⟨b, rfl⟩ := Int.eq_ofNat_of_zero_le hB1
  obtain ⟨x, y⟩ := q
  dsimp only at hm
  obtain ⟨x, rfl⟩ := Int.eq_ofNat_of_zero_le hm.1
  obtain ⟨y, rfl⟩ := Int.eq_ofNat_of_zero_le hm.2.2.1
  refine good_nat ?_ (by omega) (by omega) hG1 hG2 hG3 hq j hj hj5 hjl
  simp only [primes, List.mem_cons, List.not_mem_nil, or_false] at hpp ⊢
  omega
end
-- Lt
section
section
variable {prog : Program} {w : World} {A : Around} {E : Value → Shared → Prop} {s : Shared} {env : Env} {h₀ : Heap} {x : Str} {target : Expr} {body : List Stmt} {Q : Flow → Shared → Prop}
/-- a loop with any target over a list of the ledger; nothing is kept but the ledger -/
theorem lt_list {l : Addr} {k : Nat} {m₀ : Str → Option Value} {led : List (Addr × Obj)} {vs : List Value} (stored : List Str) (hx : stored.contains x = true)
    (hh : A.handled = none) (hm : (l, W.listOf vs.toArray k) ∈ led)
    (F : Fr h₀ env.locals s.heap m₀) (N : News h₀ env.locals s.heap led)
    (turn : ∀ I (i : Nat) v (u : Str → Option Value) h tk it, vs[i]? = some v → (∀ p ∈ led, p.1 ≠ I) →
      Fr h₀ env.locals h (fun y => if stored.contains y then u y else m₀ y) → News h₀ env.locals h ((I, it) :: led) →
      wpAny (model prog w) A (assign target env v) (fun _ s₃ => wpAny (model prog w) A (execs body env) (LpPost (σ := Unit) (fun _ => led) (fun _ => []) (fun _ => True) stored x m₀ h₀ env.locals I it { s with heap := h, toks := tk } Q) E s₃) E { s with heap := h, toks := tk })
    (done : ∀ (u : Str → Option Value) h tk, Fr h₀ env.locals h (fun y => if stored.contains y then u y else m₀ y) → News h₀ env.locals h led → Q .next { s with heap := h, toks := tk }) :
    wpAny (model prog w) A (pyIter (.ref l)) (fun it s₂ => TurnsAt prog w A h₀ env target body Q E it s₂) E s := by
  have hl : s.heap.IsList l vs.toArray := ⟨_, (N _ hm).1, rfl, k, rfl⟩
  have hne : l ≠ s.heap.objs.size := Nat.ne_of_lt (Heap.lt_size (N _ hm).1)
  refine wpAny_pyIter_list hl ?_
  have W0 := Walks.list (prog := prog) (w := w) hh s.heap.objs.size l hne vs.toArray
  have hlen : vs.toArray.size = vs.length := by simp
  have W1 := KTurns.ofWalks (target := target) W0 fun i v s Q E st q => letGo_listiter st.1 q
  rw [hlen] at W1
  have fr : ∀ {h : Heap} {m : Str → Option Value}, (∀ z, stored.contains z = false → m z = m₀ z) → Fr h₀ env.locals h m → Fr h₀ env.locals h (fun y => if stored.contains y then m y else m₀ y) := fun {h m} e F => by
    have : m = fun y => if stored.contains y then m y else m₀ y := funext fun y => by
      by_cases c : stored.contains y = true
      · rw [if_pos c]
      · rw [if_neg c]; exact e y (by simpa using c)
    exact this ▸ F
  have nx : ∀ z, stored.contains z = false → z ≠ x := fun z hz e => by rw [e, hx] at hz; cases hz
  refine ⟨s.heap.objs.size, _, [s.heap.objs.size], vs.length, _, _, _, m₀, led, fun _ m n => n = led ∧ ∀ z, stored.contains z = false → m z = m₀ z, rfl, W1, ?_, ?_, ?_, ?_, F.push _, (fun p hp => ⟨Heap.get?_push_of_some _ (N p hp).1, (N p hp).2⟩), ⟨rfl, fun _ _ => rfl⟩, ?_, ?_⟩
  · intro hm'
    rcases List.mem_cons.mp hm' with e | hm'
    · exact absurd F.ns.lt (e ▸ Nat.lt_irrefl _)
    · exact (N _ hm).2.1 (List.mem_singleton.mp hm').symm
  · intro b hb; rw [List.mem_singleton.mp hb]; exact next_is_new F
  · intro p hp hq; exact absurd (Heap.lt_size (N p hp).1) ((List.mem_singleton.mp hq) ▸ Nat.lt_irrefl _)
  · exact ⟨⟨_, Heap.get?_push_size _ rfl, rfl, rfl⟩, hl.at fun o e => Heap.get?_push_of_some _ e⟩
  · rintro i v m₁ news₁ h₁ tk₁ own hin hP ⟨rfl, hsm⟩ hoff hof hown1 hown2 hst' F₁ N₁
    obtain ⟨⟨it, hit, _⟩, _⟩ := id hst'
    have hIo := hown2 _ (W0.sub _ (List.mem_singleton.mpr rfl)) (next_is_new F) it hit
    have N₂ : News h₀ env.locals h₁ ((s.heap.objs.size, it) :: news₁) := fun p hp => (List.mem_cons.mp hp).elim (fun e => e ▸ N₁ _ (List.mem_append.mpr (.inl hIo))) fun h => N₁ p (List.mem_append.mpr (.inr h))
    have hne' : ∀ p ∈ news₁, p.1 ≠ s.heap.objs.size := fun p hp e => hoff p hp (e ▸ List.mem_singleton.mpr rfl)
    refine wpAny_mono (turn _ i v m₁ h₁ tk₁ it (by simpa using hP) hne' (fr hsm F₁) N₂) (fun _ s₃ q => wpAny_mono q (fun f s₂ p => ?_) fun _ _ e => e) fun _ _ e => e
    have fin : LpEnd (σ := Unit) (fun _ => news₁) (fun _ => []) (fun _ => True) stored x m₀ h₀ env.locals s.heap.objs.size it { s with heap := h₁, toks := tk₁ } s₂ → LoopStepU h₀ env.locals [s.heap.objs.size] own (fun m nx => nx = news₁ ∧ ∀ z, stored.contains z = false → m z = m₀ z) { s with heap := h₁, toks := tk₁ } .next s₂ := by
      rintro ⟨c', h', tk, m', news', e, F', N', hn, hI', hne'', _, hs', _⟩
      refine ⟨rfl, h', tk, m', news₁, e, F', fun p hp => ?_, fun p hp hq => hne'' p hp (List.mem_singleton.mp hq), rfl, fun z hz => hs' z (nx z hz) hz⟩
      rcases List.mem_append.mp hp with h | h
      · have hg := hown1 p h
        rcases List.mem_cons.mp (hof p h) with e1 | e1
        · obtain ⟨p1, p2⟩ := p
          dsimp only at e1 hg
          subst e1
          obtain rfl : p2 = it := Option.some.inj (hg.symm.trans hit)
          exact N' _ hI'
        · have e2 := List.mem_singleton.mp e1
          obtain ⟨p1, p2⟩ := p
          dsimp only at e2 hg
          subst e2
          obtain rfl : p2 = _ := Option.some.inj (hg.symm.trans (N₂ _ (List.mem_cons_of_mem _ hm)).1)
          exact N' _ (hn _ hm)
      · exact N' p (hn p h)
    cases f with
    | ret v => exact .ret p
    | brk => exact .brk p
    | next => exact .next (fin p)
    | cont => exact .cont (fin p)
  · rintro h' tk m' news' F' N' hoff ⟨rfl, hs'⟩
    exact done m' h' tk (fr hs' F') N'
end
end
-- L04q
section
theorem pick_e {vs : List Value} {lo hi : Option Int} : kms_pick vs.toArray.toList lo hi = kms_pick vs lo hi := rfl
theorem pick_sub {vs : List Value} (h : 1 ≤ vs.length) : ∀ v ∈ kms_pick vs (some 1) (some 6), v ∈ (vs.drop 1).take 5 := by
  intro v hv
  have e1 : kms_lo (some 1) vs.length = 1 := by
    show min 1 vs.length = 1
    omega
  have e2 : kms_hi (some 6) vs.length = min 6 vs.length := rfl
  unfold kms_pick at hv
  rw [e1, e2] at hv
  exact (List.take_sublist_take_left (by omega)).subset hv
theorem primes_at {w : World} : PR = PR ∧ ∀ h : Heap, (hd.heap_39 w.params).In h → ∃ pvs, IntsAre pvs primes ∧ h.IsList 486 pvs.toArray := by
  (try unfold PR); k_fill; w_top off
  refine ⟨rfl, ?_⟩
  intro h X
  refine ⟨[.int 5 987, .int 7 988, .int 11 989, .int 13 990, .int 17 991, .int 19 992, .int 23 993], .cons _ _ (.cons _ _ (.cons _ _ (.cons _ _ (.cons _ _ (.cons _ _ (.cons _ _ .nil)))))), ?_⟩
  have e : ∃ o, (hd.heap_39 w.params).lookup 486 = some o ∧ o.cls = .type "list" ∧ ∃ n, o.data = .seq #[.int 5 987, .int 7 988, .int 11 989, .int 13 990, .int 17 991, .int 19 992, .int 23 993] n := ⟨_, by k_is, rfl, _, rfl⟩
  obtain ⟨o, e, hc, n, hd⟩ := e
  exact ⟨o, X _ _ e, hc, n, hd⟩
theorem RowAre.at {led : List (Addr × Obj)} {vs : List Value} {os : List (Option (Int × Int))} (h : RowAre led vs os) : ∀ {i : Nat} {o : Option (Int × Int)}, os[i]? = some o → ∃ v, vs[i]? = some v ∧ Pt led v o := by
  induction h with
  | nil => intro i o h; simp at h
  | @snoc vs os v o hr hp ih =>
    intro i o' h
    have hl := hr.length
    by_cases hi : i < os.length
    · rw [List.getElem?_append_left hi] at h
      obtain ⟨v', h1, h2⟩ := ih h
      exact ⟨v', by rw [List.getElem?_append_left (by omega)]; exact h1, h2⟩
    · have hi2 := (List.getElem?_eq_some_iff.mp h).1
      simp only [List.length_append, List.length_cons, List.length_nil] at hi2
      have e : i = os.length := by omega
      subst e
      rw [List.getElem?_append_right (Nat.le_refl _)] at h
      simp at h
      subst h
      exact ⟨v, by rw [← hl]; simp, hp⟩
/-- a value that is a pair of small ints -/
def PairOk (led : List (Addr × Obj)) (v : Value) : Prop := ∃ r x t y u, v = .ref r ∧ (r, tup2 x t y u) ∈ led ∧ (-1000 ≤ x ∧ x ≤ 1000) ∧ (-1000 ≤ y ∧ y ≤ 1000)
theorem PairOk.mono {led led' : List (Addr × Obj)} (hs : ∀ q ∈ led, q ∈ led') {v : Value} : PairOk led v → PairOk led' v
  | ⟨r, x, t, y, u, e, hm, hb⟩ => ⟨r, x, t, y, u, e, hs _ hm, hb⟩
theorem row_ok {p a b : Int} {q : Int × Int} {led : List (Addr × Obj)} {vs : List Value} (hG : Good p a b) (hq : q ∈ pts p a b) (hR : RowAre led vs (mrow p a q ((pts p a b).length + 1))) : ∀ v ∈ (vs.drop 1).take 5, PairOk led v := by
  intro v hv
  obtain ⟨i, hi⟩ := List.mem_iff_getElem?.mp hv
  have hi5 : i < 5 := by
    have := (List.getElem?_eq_some_iff.mp hi).1
    rw [List.length_take] at this
    omega
  rw [List.getElem?_take_of_lt hi5, List.getElem?_drop] at hi
  have hl := hR.length
  unfold mrow at hl
  rw [List.length_map, List.length_range] at hl
  have hi2 := (List.getElem?_eq_some_iff.mp hi).1
  obtain ⟨v', h1, h2⟩ := hR.at (i := 1 + i) (o := mult p a q (1 + i)) (by unfold mrow; rw [List.getElem?_map, List.getElem?_range (by omega)]; rfl)
  obtain rfl : v' = v := Option.some.inj (h1.symm.trans hi)
  have hp5 : 5 ≤ p ∧ p ≤ 23 := by
    have hpp := hG.1
    simp only [primes, List.mem_cons, List.not_mem_nil, or_false] at hpp; omega
  have hq2 := pts_mem hq
  have hbd := mult_bd (p := p) (a := a) (q := q) (by omega) (by omega) (by omega) (1 + i)
  rcases hm : mult p a q (1 + i) with _ | r
  · exact absurd hm (good_mult hG hq (1 + i) (by omega) (by omega) (by omega))
  · rw [hm] at h2
    have hb := hbd r hm
    obtain ⟨ad, t, u, e, hmem⟩ := h2
    exact ⟨ad, r.1, t, r.2, u, e, hmem, by omega, by omega⟩
theorem on_of_mem {p a b : Int} {q : Int × Int} (hp : 0 < p) (hq : q ∈ pts p a b) : (q.2 * q.2 - ((q.1 * q.1 + a) * q.1 + b)).fmod p = 0 := by
  have h := (pts_mem hq).2.2.2.2
  unfold rhs at h
  rw [Int.fmod_eq_emod_of_nonneg _ (by omega), Int.fmod_eq_emod_of_nonneg _ (by omega)] at h
  rw [Int.fmod_eq_emod_of_nonneg _ (by omega), show (q.1 * q.1 + a) * q.1 + b = q.1 * q.1 * q.1 + a * q.1 + b by grind]
  exact Int.emod_eq_emod_iff_emod_sub_eq_zero.mp h
/-- a generator of either kind: its curve and its order -/
def GenIs (w : World) (led : List (Addr × Obj)) (g x : Addr) (o : Value) : Prop :=
  (∃ gd g1 g2 g3 g4 gx gy, (g, instObj 417 gd) ∈ led ∧ (gd, dictOf (poE w g1 g2 g3 g4 (.ref x) gx gy o) 4) ∈ led ∧ handedIn gx = true ∧ handedIn gy = true) ∨
  ∃ gd gk g1 g2 g3 g4 g5 gX tX gY tY tZ gg gl, (g, instObj 320 gd) ∈ led ∧ (gd, dictOf (pjE w g1 g2 g3 g4 g5 (.ref x) (.ref gk) o gg gl) 5) ∈ led ∧ (gk, tup3 gX tX gY tY 1 tZ) ∈ led ∧ handedIn gg = true ∧ handedIn gl = true
theorem GenIs.mono {w : World} {led led' : List (Addr × Obj)} (hs : ∀ q ∈ led, q ∈ led') {g x : Addr} {o : Value} : GenIs w led g x o → GenIs w led' g x o
  | .inl ⟨gd, g1, g2, g3, g4, gx, gy, c, d, a⟩ => .inl ⟨gd, g1, g2, g3, g4, gx, gy, hs _ c, hs _ d, a⟩
  | .inr ⟨gd, gk, g1, g2, g3, g4, g5, gX, tX, gY, tY, tZ, gg, gl, c, d, e, a⟩ => .inr ⟨gd, gk, g1, g2, g3, g4, g5, gX, tX, gY, tY, tZ, gg, gl, hs _ c, hs _ d, hs _ e, a⟩
section
variable {M : Model} {A : Around} {E : Value → Shared → Prop} {s : Shared} {env : Env} {h₀ : Heap} {Q : Flow → Shared → Prop}
/-- a statement cut off: it ends with a frame and a ledger of which R holds -/
def CutL (R : (Str → Option Value) → List (Addr × Obj) → Prop) (h₀ : Heap) (L : Addr) (s : Shared) (f : Flow) (s' : Shared) : Prop :=
  f = .next ∧ ∃ m led h' tk', R m led ∧ s' = { s with heap := h', toks := tk' } ∧ Fr h₀ L h' m ∧ News h₀ L h' led
theorem cutL_end {R : (Str → Option Value) → List (Addr × Obj) → Prop} {m : Str → Option Value} {led : List (Addr × Obj)} {L : Addr} {h' : Heap} {tk' : Nat} (F : Fr h₀ L h' m) (N : News h₀ L h' led) (hR : R m led) :
    CutL R h₀ L s .next { s with heap := h', toks := tk' } := ⟨rfl, m, led, h', tk', hR, rfl, F, N⟩
theorem cut_led {st : Stmt} (R : (Str → Option Value) → List (Addr × Obj) → Prop) (hw : wpAny M A (exec st env) (CutL R h₀ env.locals s) E s)
    (hc : ∀ m led h' tk', R m led → Fr h₀ env.locals h' m → News h₀ env.locals h' led → Q .next { s with heap := h', toks := tk' }) : wpAny M A (exec st env) Q E s :=
  wpAny_mono hw (fun f s' h => by obtain ⟨rfl, m, led, h', tk', hR, rfl, F', N'⟩ := h; exact hc m led h' tk' hR F' N') fun _ _ e => e
end
/-- what the choice of the generator leaves -/
def RG (w : World) (x : Addr) (o : Value) (m : Str → Option Value) (led : List (Addr × Obj)) (m' : Str → Option Value) (led' : List (Addr × Obj)) : Prop :=
  ∃ g b, m' = (fun z => if z = Str.ofString "bare" then some (.ref b) else if z = Str.ofString "generator" then some (.ref g) else m z) ∧ GenIs w led' g x o ∧ GenIs w led' b x .none ∧ ∀ q ∈ led, q ∈ led'
theorem add_refs_K {prog : Program} {w : World} {A : Around} {E : Value → Shared → Prop} {s : Shared} {h₀ : Heap} {L : Addr} {m : Str → Option Value} {news : List (Addr × Obj)} {l b : Addr} {vs ws : List Value} {k1 k2 : Nat} {Q : Value → Shared → Prop} (F : Fr h₀ L s.heap m) (N : News h₀ L s.heap news)
    (hl : (l, W.listOf vs.toArray k1) ∈ news) (hb : (b, W.listOf ws.toArray k2) ∈ news) (hsz : vs.length + ws.length ≤ sizeLine)
    (h : ∀ D h', Fr h₀ L h' m → News h₀ L h' ((D, W.listOf (vs ++ ws).toArray 0) :: news) → (∀ p ∈ news, p.1 < D) → Q (.ref D) { s with heap := h' }) :
    wpAny (model prog w) A (binaryOp .Add (.ref l) (.ref b)) Q E s :=
  add_lists (hsz := hsz) F N (News.isList N hl) (News.isList N hb) fun h' F' N' => h _ h' F' N' (fun p hp => Heap.lt_size (N p hp).1)
theorem comp_end_pair {h₀ : Heap} {L I C D T : Addr} {m : Str → Option Value} {s₁ : Shared} {oI oC oD : Obj} {S : List (Addr × Obj) → Prop} {rest : Value → List (Addr × Obj) → Prop} {h' : Heap} {tk : Nat} {news : List (Addr × Obj)} {x y : Int} {t u : Tok} {P : Prop}
    (F : Fr h₀ L h' m) (N : News h₀ L h' ((T, tup2 x t y u) :: (I, oI) :: (C, oC) :: (D, oD) :: news)) (l9 : I < T ∧ C < T ∧ D < T ∧ P) (off : LCg.Off3 I C D news) (hS : S ((T, tup2 x t y u) :: news)) (r : rest (.ref T) ((T, tup2 x t y u) :: news)) :
    LCg.CompEnd h₀ L m s₁ I oI C oC D oD S rest (.ref T) { s₁ with heap := h', toks := tk } :=
  LCg.CompEnd.intro F N ((T, tup2 x t y u) :: news) (List.forall_mem_cons.mpr ⟨.tail _ (.head _), List.forall_mem_cons.mpr ⟨.tail _ (.tail _ (.head _)), List.forall_mem_cons.mpr ⟨.tail _ (.tail _ (.tail _ (.head _))), List.forall_mem_cons.mpr ⟨.head _, fun q hq => .tail _ (.tail _ (.tail _ (.tail _ hq)))⟩⟩⟩⟩)
    ⟨⟨Nat.ne_of_gt l9.1, Nat.ne_of_gt l9.2.1, Nat.ne_of_gt l9.2.2.1⟩, off⟩ hS r
/-- the locals that are known, the rest forgotten -/
theorem fr_known {h₀ h : Heap} {L : Addr} {m : Str → Option Value} (Ps : List (Str × Value)) (hps : ∀ p ∈ Ps, m p.1 = some p.2) (F : Fr h₀ L h m) : ∃ u, Fr h₀ L h (fun y => kstB u Ps y) :=
  ⟨m, by
    have e : (fun y => kstB m Ps y) = m := funext fun y => kstB_eq hps fun _ => rfl
    rw [e]; exact F⟩
theorem RG.same {w : World} {x : Addr} {o : Value} {m : Str → Option Value} {led : List (Addr × Obj)} {g b : Addr} (hg : m (Str.ofString "generator") = some (.ref g)) (hb : m (Str.ofString "bare") = some (.ref b)) (h4 : GenIs w led g x o) (h5 : GenIs w led b x .none) : RG w x o m led m led :=
  ⟨g, b, funext fun z => by
    by_cases h1 : z = Str.ofString "bare"
    · rw [if_pos h1, h1]; exact hb
    · rw [if_neg h1]
      by_cases h2 : z = Str.ofString "generator"
      · rw [if_pos h2, h2]; exact hg
      · rw [if_neg h2], h4, h5, fun _ h => h⟩
theorem cut_gen {M : Model} {A : Around} {E : Value → Shared → Prop} {s : Shared} {env : Env} {h₀ : Heap} {Q : Flow → Shared → Prop} {st : Stmt} {m : Str → Option Value} {led : List (Addr × Obj)} (w : World) (x : Addr) (o : Value) (_F : Fr h₀ env.locals s.heap m) (_N : News h₀ env.locals s.heap led)
    (hw : wpAny M A (exec st env) (CutL (RG w x o m led) h₀ env.locals s) E s)
    (hc : ∀ m' led' h' tk', RG w x o m led m' led' → Fr h₀ env.locals h' m' → News h₀ env.locals h' led' → Q .next { s with heap := h', toks := tk' }) : wpAny M A (exec st env) Q E s := cut_led _ hw hc
/-- what a statement leaves that stores a list of pairs -/
def RP (B : Nat) (y : Str) (m : Str → Option Value) (led : List (Addr × Obj)) (m' : Str → Option Value) (led' : List (Addr × Obj)) : Prop :=
  ∃ (D : Addr) (ys : List Value) (k : Nat), m' = (fun z => if z = y then some (.ref D) else m z) ∧ (D, W.listOf ys.toArray k) ∈ led' ∧ (∀ v ∈ ys, PairOk led' v) ∧ ys.length ≤ B ∧ ∀ q ∈ led, q ∈ led'
theorem cut_pairs {M : Model} {A : Around} {E : Value → Shared → Prop} {s : Shared} {env : Env} {h₀ : Heap} {Q : Flow → Shared → Prop} {st : Stmt} {m : Str → Option Value} {led : List (Addr × Obj)} (B : Nat) (y : Str) (_F : Fr h₀ env.locals s.heap m) (_N : News h₀ env.locals s.heap led)
    (hw : wpAny M A (exec st env) (CutL (RP B y m led) h₀ env.locals s) E s)
    (hc : ∀ m' led' h' tk', RP B y m led m' led' → Fr h₀ env.locals h' m' → News h₀ env.locals h' led' → Q .next { s with heap := h', toks := tk' }) : wpAny M A (exec st env) Q E s := cut_led _ hw hc
section
open LCg
variable {prog : Program} {w : World} {A : Around} {s : Shared} {h₀ : Heap} {L : Addr} {m : Str → Option Value} {env : Env}
/-- a comprehension by what holds of its list and of the ledger after each turn -/
theorem comp_inv {elt : Expr} {x : Str} {scope : Scope} {cl : List (Str × Addr)} {S : List (Addr × Obj) → Prop} {P : Nat → Value → Prop} {Fin : List Value → List (Addr × Obj) → Prop} {n : Nat} (Inv : Nat → List Value → List (Addr × Obj) → Prop)
    (turn : ∀ i ys news v I oI C oC D m₂ h tk (E' : Value → Shared → Prop), i < n → Inv i ys news → P i v → NsObj oC m₂ → m₂ x = some v → Fr h₀ L h m → News h₀ L h ((I, oI) :: (C, oC) :: (D, lst ys) :: news) → Off3 I C D news → ((@Ne Nat I C) ∧ (@Ne Nat I D) ∧ (@Ne Nat C D)) →
      wpAny (model prog w) A (eval elt (compEnvC scope cl C env)) (CompEnd h₀ L m { s with heap := h, toks := tk } I oI C oC D (lst ys) S (fun y news' => Inv (i + 1) (ys ++ [y]) news')) E' { s with heap := h, toks := tk })
    (done : ∀ ys news, Inv n ys news → Fin ys news) : ∀ (k i : Nat) (ys : List Value) (news : List (Addr × Obj)), k + i = n → Inv i ys news → CompRest prog w A h₀ L m env elt x scope cl s S P Fin k i ys news
  | 0, i, ys, news, hk, hi => .zero (done ys news (by rw [Nat.zero_add] at hk; exact hk ▸ hi))
  | k + 1, i, ys, news, hk, hi => .succ fun v I oI C oC D m₂ h tk E' hP hC hx F N off ne => by
    refine wpAny_mono (turn i ys news v I oI C oC D m₂ h tk E' (by omega) hi hP hC hx F N off ne) (fun y s' hy => ?_) fun _ _ e => e
    obtain ⟨h', tk', news', e, F', N', off', hS, hr⟩ := hy
    exact ⟨h', tk', news', e, F', N', off', hS, comp_inv Inv turn done k (i + 1) (ys ++ [y]) news' (by omega) hr⟩
end
theorem news_ne {h₀ h : Heap} {L : Addr} {news : List (Addr × Obj)} {a b : Addr} {o o' : Obj} (N : News h₀ L h news) (ha : (a, o) ∈ news) (hb : (b, o') ∈ news) (hd : o.data ≠ o'.data) : a ≠ b := by
  rintro rfl
  have := (N _ ha).1.symm.trans (N _ hb).1
  exact hd (congrArg Obj.data (Option.some.inj this))
variable {w : World} {mean : ExcName → Option Value} {mg mb : Str → Option Value}
theorem handed_o {o : Value} (ho : o = .none ∨ ∃ n tn, o = .int n tn ∧ 0 < n) : handedIn o = true := by rcases ho with rfl | ⟨_, _, rfl, _⟩ <;> rfl
theorem c_valid {news : List (Addr × Obj)} {g x d : Addr} {t1 t2 t3 t4 t5 t6 t7 t8 t9 ta : Tok} {o : Value} {p a b X Y : Int} (hg : GenIs w news g x o) (ho : o = .none ∨ ∃ n tn, o = .int n tn ∧ 0 < n) (m1 : (x, instObj 95 d) ∈ news) (m2 : (d, dictOf (fpE w t1 t2 t3 t4 (.int p t5) (.int a t6) (.int b t7) (.int 1 t8)) 4) ∈ news) (h0 : 0 < p) (h1 : p < 1000) (ha : -1000 ≤ a ∧ a ≤ 1000) (hb : -1000 ≤ b ∧ b ≤ 1000) (hX : -1000 ≤ X ∧ X ≤ 1000) (hY : -1000 ≤ Y ∧ Y ≤ 1000) :
    Sp PR w (hd.heap_39 w.params) topProg LO mean mg mb 3 28 (call (.ref 485) [.ref g, .int X t9, .int Y ta]) news (fun _ => True) (RBool (inB p X Y && onB p a b X Y) news) := by
  rcases hg with ⟨gd, g1, g2, g3, g4, gx, gy, n1, n2, e1, e2⟩ | ⟨gd, gk, g1, g2, g3, g4, g5, gX, tX, gY, tY, tZ, gg, gl, n1, n2, n3, e1, e2⟩
  · exact c_valid_po ⟨e1, e2, handed_o ho⟩ n1 n2 m1 m2 h0 h1 ha hb hX hY
  · exact c_valid_pj ⟨handed_o ho, e1, e2⟩ n1 n2 n3 m1 m2 h0 h1 ha hb hX hY
theorem c_whole {news : List (Addr × Obj)} {v due : Bool} {g x d pt pd k : Addr} {t1 t2 t3 t4 t5 t6 t7 t8 p1 p2 p3 p4 p5 tx ty tz : Tok} {o po pg pl : Value} {p a b X Y : Int} (hg : GenIs w news g x o) (ho : o = .none ∨ ∃ n tn, o = .int n tn ∧ 0 < n) (o1 : (pt, instObj 320 pd) ∈ news) (o2 : (pd, dictOf (pjE w p1 p2 p3 p4 p5 (.ref x) (.ref k) po pg pl) 5) ∈ news) (o3 : (k, tup3 X tx Y ty 1 tz) ∈ news)
    (hh : handedIn po = true ∧ handedIn pg = true ∧ handedIn pl = true) (m1 : (x, instObj 95 d) ∈ news) (m2 : (d, dictOf (fpE w t1 t2 t3 t4 (.int p t5) (.int a t6) (.int b t7) (.int 1 t8)) 4) ∈ news) (h0 : 0 < p) (h1 : p < 1000) (ha : -1000 ≤ a ∧ a ≤ 1000) (hb : -1000 ≤ b ∧ b ≤ 1000) (hX : -1000 ≤ X ∧ X ≤ 1000) (hY : -1000 ≤ Y ∧ Y ≤ 1000) (hdue : due = (inB p X Y && (!v || onB p a b X Y) && orderB o)) :
    SpL PR w (hd.heap_39 w.params) topProg LO mean mg mb 8 80 (call (.ref 563) [.ref g, .ref pt, .bool v, .bool due]) news (RBool true news) := by
  rcases hg with ⟨gd, g1, g2, g3, g4, gx, gy, n1, n2, e1, e2⟩ | ⟨gd, gk, g1, g2, g3, g4, g5, gX, tX, gY, tY, tZ, gg, gl, n1, n2, n3, e1, e2⟩
  · exact c_whole_po ⟨e1, e2, hh⟩ ho n1 n2 o1 o2 o3 m1 m2 h0 h1 ha hb hX hY hdue
  · exact c_whole_pj ⟨e1, e2, hh⟩ ho n1 n2 n3 o1 o2 o3 m1 m2 h0 h1 ha hb hX hY hdue
end
-- L04r
section
local macro_rules | `(tactic| walk_at "call ref") => `(tactic| (
  k_here
  (with_reducible show wpAny _ _ (PySem.call (Value.ref 493) _) _ _ _)
  k_dflt (refine' Sp.use (c_cell ?q1 ?q2 ?q3 ?q4) ?k1 ?k2 ?k3 ?k4 ?k5 ?k6 ?k7 ?k8 ?k9 ?_; walk_at "use"; (case q1 => k_asm); (case q2 => omega); (case q3 => omega); (case q4 => omega)); unfold RInt; intro t9 h9 tk9 F9 N9; (try dsimp only); (try k_sweep); (try k_fold)))
local macro_rules | `(tactic| walk_at "call ref") => `(tactic| (
  k_here
  (with_reducible show wpAny _ _ (PySem.call (Value.ref 500) _) _ _ _)
  k_dflt (refine' Sp.use (c_linv ?q1 ?q2 ?q3 ?q4) ?k1 ?k2 ?k3 ?k4 ?k5 ?k6 ?k7 ?k8 ?k9 ?_; walk_at "use"; (case q1 => omega); (case q2 => omega); (case q3 => omega); (case q4 => omega)); unfold RInt; intro t9 h9 tk9 F9 N9; (try dsimp only); (try k_sweep); (try k_fold)))
local macro_rules | `(tactic| walk_at "call ref") => `(tactic| (
  k_here
  (with_reducible show wpAny _ _ (PySem.call (Value.ref 528) _) _ _ _)
  k_dflt (refine' Sp.use (c_prime ?q1 ?q2) ?k1 ?k2 ?k3 ?k4 ?k5 ?k6 ?k7 ?k8 ?k9 ?_; walk_at "use"; (case q1 => omega); (case q2 => omega)); unfold RBool; intro h9 tk9 F9 N9; (try dsimp only); (try k_sweep); (try k_fold)))
local macro_rules | `(tactic| walk_at "call ref") => `(tactic| (
  k_here
  (with_reducible show wpAny _ _ (PySem.call (Value.ref 542) _) _ _ _)
  k_dflt (refine' Sp.use (c_row ?q1 ?q2 ?q3 ?q4 ?q5 ?q6 ?q7 ?q8) ?k1 ?k2 ?k3 ?k4 ?k5 ?k6 ?k7 ?k8 ?k9 ?_; walk_at "use"; (case q1 => omega); (case q2 => omega); (case q3 => omega); (case q4 => omega); (case q5 => k_dflt (first | k_mem | exact List.mem_cons_of_mem _ (List.mem_cons_of_mem _ (by assumption)))); (case q6 => assumption); (case q7 => omega); (case q8 => omega)); unfold RRow; intro l9 vs9 n9 led9 h9 tk9 F9 N9 hR9 hs9; (try dsimp only); (try k_sweep); (try k_fold)))
local macro_rules | `(tactic| walk_at "call ref") => `(tactic| (
  k_here
  (with_reducible show wpAny _ _ (PySem.call (Value.ref 95) _) _ _ _)
  k_dflt (refine' Sp.use c_mkFp4 ?k1 ?k2 ?k3 ?k4 ?k5 ?k6 ?k7 ?k8 ?k9 ?_; walk_at "use"); unfold RFp; intro x9 d9 t1 t2 t3 t4 h9 tk9 F9 N9 l1 l2; (try dsimp only); (try k_sweep); (try k_fold)))
local macro_rules | `(tactic| walk_at "call ref") => `(tactic| (
  k_here
  (with_reducible show wpAny _ _ (PySem.call (Value.ref 64) _) _ _ _)
  k_dflt (refine' Sp.use (c_fp_p ?q1 ?q2 ?q3) ?k1 ?k2 ?k3 ?k4 ?k5 ?k6 ?k7 ?k8 ?k9 ?_; walk_at "use"; (case q2 => k_dflt k_mem); (case q3 => k_dflt k_mem); (case q1 => k_dflt (exact ⟨rfl, rfl, rfl, rfl⟩))); unfold RV; intro h9 tk9 F9 N9; (try dsimp only); (try k_sweep); (try k_fold)))
local macro_rules | `(tactic| walk_at "call ref") => `(tactic| (
  k_here
  (with_reducible show wpAny _ _ (PySem.call (Value.ref 71) _) _ _ _)
  k_dflt (refine' Sp.use (c_fp_a ?q1 ?q2 ?q3) ?k1 ?k2 ?k3 ?k4 ?k5 ?k6 ?k7 ?k8 ?k9 ?_; walk_at "use"; (case q2 => k_dflt k_mem); (case q3 => k_dflt k_mem); (case q1 => k_dflt (exact ⟨rfl, rfl, rfl, rfl⟩))); unfold RV; intro h9 tk9 F9 N9; (try dsimp only); (try k_sweep); (try k_fold)))
local macro_rules | `(tactic| walk_at "call ref") => `(tactic| (
  k_here
  (with_reducible show wpAny _ _ (PySem.call (Value.ref 78) _) _ _ _)
  k_dflt (refine' Sp.use (c_fp_b ?q1 ?q2 ?q3) ?k1 ?k2 ?k3 ?k4 ?k5 ?k6 ?k7 ?k8 ?k9 ?_; walk_at "use"; (case q2 => k_dflt k_mem); (case q3 => k_dflt k_mem); (case q1 => k_dflt (exact ⟨rfl, rfl, rfl, rfl⟩))); unfold RV; intro h9 tk9 F9 N9; (try dsimp only); (try k_sweep); (try k_fold)))
local macro_rules | `(tactic| walk_at "call ref") => `(tactic| (
  k_here
  (with_reducible show wpAny _ _ (PySem.call (Value.ref 85) _) _ _ _)
  k_dflt (refine' Sp.use (c_fp_h ?q1 ?q2 ?q3) ?k1 ?k2 ?k3 ?k4 ?k5 ?k6 ?k7 ?k8 ?k9 ?_; walk_at "use"; (case q2 => k_dflt k_mem); (case q3 => k_dflt k_mem); (case q1 => k_dflt (exact ⟨rfl, rfl, rfl, rfl⟩))); unfold RV; intro h9 tk9 F9 N9; (try dsimp only); (try k_sweep); (try k_fold)))
local macro_rules | `(tactic| walk_at "call ref") => `(tactic| (
  k_here
  (with_reducible show wpAny _ _ (PySem.call (Value.ref 92) _) _ _ _)
  k_dflt (refine' Sp.use (c_fp_on ?q1 ?q2 ?q3 ?q4 ?q5 ?q6 ?q7 ?q8) ?k1 ?k2 ?k3 ?k4 ?k5 ?k6 ?k7 ?k8 ?k9 ?_; walk_at "use"; (case q1 => k_dflt k_mem); (case q2 => k_dflt k_mem); (case q3 => omega); (case q4 => omega); (case q5 => omega); (case q6 => omega); (case q7 => omega); (case q8 => omega)); unfold RBool; intro h9 tk9 F9 N9; (try dsimp only); (try k_sweep); (try k_fold)))
local macro_rules | `(tactic| walk_at "call ref") => `(tactic| (
  k_here
  (with_reducible show wpAny _ _ (PySem.call (Value.ref 320) _) _ _ _)
  k_dflt (refine' Sp.use c_mkPJ6 ?k1 ?k2 ?k3 ?k4 ?k5 ?k6 ?k7 ?k8 ?k9 ?_; walk_at "use"); unfold RPj; intro z9 d9 l9 k9 t1 t2 t3 t4 t5 h9 tk9 F9 N9 l1 l2 l3 l4; (try dsimp only); (try k_sweep); (try k_fold)))
local macro_rules | `(tactic| walk_at "call ref") => `(tactic| (
  k_here
  (with_reducible show wpAny _ _ (PySem.call (Value.ref 320) _) _ _ _)
  k_dflt (refine' Sp.use c_mkPJ4 ?k1 ?k2 ?k3 ?k4 ?k5 ?k6 ?k7 ?k8 ?k9 ?_; walk_at "use"); unfold RPj; intro z9 d9 l9 k9 t1 t2 t3 t4 t5 h9 tk9 F9 N9 l1 l2 l3 l4; (try dsimp only); (try k_sweep); (try k_fold)))
local macro_rules | `(tactic| walk_at "call ref") => `(tactic| (
  k_here
  (with_reducible show wpAny _ _ (PySem.call (Value.ref 417) _) _ _ _)
  k_dflt (refine' Sp.use (c_mkPt4 ?q1 ?q2 ?q3 ?q4 ?q5 ?q6 ?q7 ?q8 ?q9) ?k1 ?k2 ?k3 ?k4 ?k5 ?k6 ?k7 ?k8 ?k9 ?_; walk_at "use"; (case q1 => k_dflt k_mem); (case q2 => k_dflt k_mem); (case q3 => omega); (case q4 => omega); (case q5 => omega); (case q6 => omega); (case q7 => omega); (case q8 => omega); (case q9 => assumption)); unfold RPo; intro z9 d9 t1 t2 t3 t4 h9 tk9 F9 N9 l1 l2; (try dsimp only); (try k_sweep); (try k_fold)))
local macro_rules | `(tactic| walk_at "call ref") => `(tactic| (
  k_here
  (with_reducible show wpAny _ _ (PySem.call (Value.ref 417) _) _ _ _)
  k_dflt (refine' Sp.use (c_mkPt3 ?q1 ?q2 ?q3 ?q4 ?q5 ?q6 ?q7 ?q8 ?q9) ?k1 ?k2 ?k3 ?k4 ?k5 ?k6 ?k7 ?k8 ?k9 ?_; walk_at "use"; (case q1 => k_dflt k_mem); (case q2 => k_dflt k_mem); (case q3 => omega); (case q4 => omega); (case q5 => omega); (case q6 => omega); (case q7 => omega); (case q8 => omega); (case q9 => assumption)); unfold RPo; intro z9 d9 t1 t2 t3 t4 h9 tk9 F9 N9 l1 l2; (try dsimp only); (try k_sweep); (try k_fold)))
local macro_rules | `(tactic| walk_at "call ref") => `(tactic| (
  k_here; (with_reducible show wpAny _ _ (PySem.call (Value.ref 549) _) _ _ _)
  refine Stop.of ?_))
local macro_rules | `(tactic| walk_at "eval ListComp") => `(tactic| (k_here; k_dflt (refine LCg.ListComp_U (F₀ := by k_asm) (by with_unfolding_all rfl) (by decide) (by rfl) (by decide) (by rfl) ?_)))
local macro_rules | `(tactic| walk_at "exec Assign cons ListComp") => `(tactic| (k_here; k_dflt (refine LCg.Assign_ListComp_U (F₀ := by k_asm) (by rfl) (by with_unfolding_all rfl) (by with_unfolding_all rfl) (by decide) (by rfl) (by decide) (by rfl) (by rfl) (by rfl) ?_)))
local macro_rules | `(tactic| k_all) => `(tactic| with_reducible assumption)
local macro_rules | `(tactic| walk_at "CompSrc") => `(tactic| (k_here; refine Stop.of ?_))
local macro_rules | `(tactic| walk_at "subscriptTail") => `(tactic| (
  k_here; (with_reducible show wpAny _ _ (subscriptTail _ _ (Value.ref _) (Value.int _ _)) _ _ _)
  k_dflt (refine' item_list ?q1 ?q2 ?q3 ?q4 ?_ ?q5 ?q6; (case q1 => exact News.isList (by k_asm) (by k_mem)); (case q4 => assumption); (case q2 => omega); (case q3 => omega); (case q5 => with_unfolding_all rfl); (case q6 => intro _; with_unfolding_all rfl))))
local macro_rules | `(tactic| walk_at "binaryOp Add ref ref") => `(tactic| (
  k_here; k_dflt (refine' add_refs_K ?q1 ?q2 ?q3 ?q4 ?q5 ?_; (case q1 => k_asm); (case q2 => k_asm); (case q3 => k_mem); (case q4 => k_mem); (case q5 => (rw [sizeLine_eq]; (try simp only [List.length_take, List.length_drop, List.length_append, List.length_cons, List.length_nil]); omega))); intro D' h' F' N' l1; (try k_lt l1); (try k_sweep)))
local macro_rules | `(tactic| walk_at "subscriptTail Name Slice ref ref") => `(tactic| (k_here; k_dflt (refine' kms_slice_lit ?F ?N ?l ?p ?q ?e ?_ ?s ?t ?z; (case F => k_asm); (case N => k_asm); (case l => exact News.isList (by k_asm) (by k_mem)); (case p => kmk_part); (case q => kmk_part); (case e => exact pick_e); (case s => with_unfolding_all rfl); (case t => kmk_pure); (case z => (rw [List.size_toArray, sizeLine_eq]; omega))); intro D' h' F' N' l1; (try k_lt l1); (try k_sweep)))
local macro_rules | `(tactic| walk_at "exec For Tuple Name cons nil") => `(tactic| (k_here; (rename Fr _ _ _ _ => lF'); k_dflt (refine For_turns lF' ?_)))
local macro_rules | `(tactic| walk_at "mm") => `(tactic| (repeat (first | (with_reducible_and_instances assumption) | exact List.Mem.head _ | refine List.mem_cons_of_mem _ ?_)))
local macro_rules | `(tactic| walk_at "gm") => `(tactic| (refine GenIs.mono ?_ (by with_reducible assumption); exact fun q hq => by repeat (first | exact hq | apply List.mem_cons_of_mem)))
local macro_rules | `(tactic| walk_at "om") => `(tactic| first | exact .inl rfl | exact .inr ⟨_, _, rfl, by omega⟩)
local macro_rules | `(tactic| walk_at "call ref") => `(tactic| (
  k_here; (with_reducible show wpAny _ _ (PySem.call (Value.ref 485) _) _ _ _)
  k_dflt (refine' Sp.use (c_valid ?q1 ?q2 ?q3 ?q4 ?q5 ?q6 ?q7 ?q8 ?q9 ?qa) ?k1 ?k2 ?k3 ?k4 ?k5 ?k6 ?k7 ?k8 ?k9 ?_; walk_at "use"; (case q1 => walk_at "gm"); (case q2 => walk_at "om"); (case q3 => walk_at "mm"); (case q4 => walk_at "mm"); (case q5 => omega); (case q6 => omega); (case q7 => omega); (case q8 => omega); (case q9 => omega); (case qa => omega)); unfold RBool; intro h9 tk9 F9 N9; (try dsimp only); (try k_sweep); (try k_fold)))
local macro_rules | `(tactic| walk_at "call ref") => `(tactic| (
  k_here; (with_reducible show wpAny _ _ (PySem.call (Value.ref 563) _) _ _ _)
  k_dflt (refine' SpL.use (c_whole ?q1 ?q2 ?q3 ?q4 ?q5 ?qh ?q6 ?q7 ?q8 ?q9 ?qa ?qb ?qc ?qd ?qe) ?k1 ?k2 ?k3 ?k4 ?k5 ?k6 ?k7 ?k8 ?_; (case k1 => k_asm); (case k2 => k_asm); (case k3 => k_asm); (case k4 => k_asm); (case k5 => k_asm); (case k6 => first | rfl | assumption); (case k7 => ktr_room); (case k8 => ktr_units)
          (case q1 => walk_at "gm"); (case q2 => walk_at "om"); (case q3 => walk_at "mm"); (case q4 => walk_at "mm"); (case q5 => walk_at "mm"); (case qh => exact ⟨rfl, rfl, rfl⟩); (case q6 => walk_at "mm"); (case q7 => walk_at "mm"); (case q8 => omega); (case q9 => omega); (case qa => omega); (case qb => omega); (case qc => omega); (case qd => omega); (case qe => first | (simp [orderB]; done) | rfl)); unfold RBool; intro h9 tk9 F9 N9; (try dsimp only); (try k_sweep); (try k_fold)))
theorem due_eq {p a b X Y : Int} : ((Y * Y - X * X * X - a * X - b).fmod p == 0) = (true && onB p a b X Y) := by
  rw [Bool.true_and]; unfold onB
  rw [show Y * Y - X * X * X - a * X - b = Y * Y - ((X * X + a) * X + b) by grind]
theorem holds : PySem.Challenge.rw_xq0002_04.Holds := hd (by
  w_top off; k_go0; (all_goals try k_fold)
  rename List Int => ns
  rename_i w s₀ s₁ mg mb G Y fa o pm cd doc ho hcd hg X V T B TE TW hs hlay0 hL9 hr9 hl2 w9 w8 lA vs0 w6 hL ra w1 r0 hI0 hr hcond2 hcond1 hD h₁ tk₁ oc1 oc2 left right X0 X' T' K' F' N' l0
  clear G Y hcd hT8 X V B TE TW T hT9 hs hlay0 hr9 hl2 ra w1 r0 hr hcond1 hD ho codeHd w6

  (rename Frag.In _ _ => X9)
  (rename IntsAre _ ns => hI)
  have hlen63 : ns.length ≤ 63 := by omega
  (rename Heap.IsList (ghostOf _ _) _ _ => hLs)
  walk_at "go"
  refine Stop.to ?_
  have hlen : ns.length < 2 ^ 62 := by omega
  obtain ⟨pvs, hpi, hp486⟩ := primes_at.2 _ X9
  k_dflt (refine' Sp.use (c_world hI hlen hpi) ?zk1 ?zk2 ?zk3 ?zk4 ?zk5 ?zk6 ?zk7 ?zk8 ⟨hLs, hp486⟩ ⟨?_, ?_⟩)
  (case zk1 => k_asm)
  (case zk2 => k_asm)
  (case zk3 => k_asm)
  (case zk4 => k_asm)
  (case zk5 => k_asm)
  (case zk6 => rfl)
  (case zk7 => ktr_room)
  (case zk8 => ktr_units)
  · intro led h' tk' F1 N1 hs
    dsimp only
    have h367 := hs _ (.tail _ (.tail _ (.head _)))
    walk_at "go"
    · wrow_close

  · intro p a b q D x d t1 t2 t3 t4 tp ta tb th tn l vs n led h' tk' hG hq F1 N1 hR hs
    dsimp only
    have hl4 : 3 < (pts p a b).length := hG.2.2.2.2.2.1
    have hok := row_ok hG hq hR
    have hpk : (kms_pick vs (some 1) (some 6)).length ≤ 5 := by
      unfold kms_pick
      rw [List.length_take]
      have e1 : kms_lo (some 1) vs.length = min 1 vs.length := rfl
      have e2 : kms_hi (some 6) vs.length = min 6 vs.length := rfl
      rw [e1, e2, List.length_drop]
      omega
    have hvl : vs.length ≤ 2400 ∧ 1 ≤ vs.length := by
      have h1 := hR.length
      unfold mrow at h1
      rw [List.length_map, List.length_range] at h1
      have hp23 : p ≤ 23 := by
        have hpp := hG.1
        simp only [primes, List.mem_cons, List.not_mem_nil, or_false] at hpp; omega
      have h2 : (pts p a b).length ≤ p.toNat * 100 := ptsTo_len (show p < 100 by omega) a b p.toNat
      omega
    obtain ⟨v1, hv1, r1, tx1, ty1, rfl, hm1⟩ := hR.at (i := 1) (o := some q) (by unfold mrow; rw [List.getElem?_map, List.getElem?_range (by omega)]; rfl)
    have hv1' : vs.toArray[(1 : Int).toNat]? = some (.ref r1) := by simpa using hv1
    have left2 : ∃ v, oc1.data = .cell v := ⟨_, left⟩
    have right2 : oc2.data = .cell (some (.ref lA)) := right
    have hs1 := hs _ (.head _)
    have hs2 := hs _ (.tail _ (.head _))
    have hs3 := hs _ (.tail _ (.tail _ (.head _)))
    obtain ⟨w1, left2⟩ := left2
    clear left right
    have N0 : News _ _ h' led := cb_drop N1 fun q hq => .tail _ (.tail _ (.tail _ (.tail _ hq)))
    have hoff : ∀ {a : Addr} {o : Obj}, (a, o) ∈ led → o.data ≠ oc1.data → (a, o) ∈ led.filter (fun q => q.1 != s₁.heap.objs.size + 1 + 1) := fun {a o} hm hne =>
      List.mem_filter.mpr ⟨hm, by simpa using news_ne N0 hm hs1 hne⟩
    have hok' : ∀ v ∈ (vs.drop 1).take 5, PairOk (led.filter (fun q => q.1 != s₁.heap.objs.size + 1 + 1)) v := fun v hv => by
      obtain ⟨r, x, t, y, u, e, hm, hb⟩ := hok v hv
      exact ⟨r, x, t, y, u, e, hoff hm (by rw [left2]; exact fun h => nomatch h), hb⟩
    have hm1' := hoff hm1 (by rw [left2]; exact fun h => nomatch h)
    have hnD : D ≠ s₁.heap.objs.size + 1 + 1 := news_ne N1 (.head _) (.tail _ (.tail _ (.tail _ (.tail _ hs1)))) (by rw [left2]; exact fun h => nomatch h)
    have hnx : x ≠ s₁.heap.objs.size + 1 + 1 := news_ne N1 (.tail _ (.head _)) (.tail _ (.tail _ (.tail _ (.tail _ hs1)))) (by rw [left2]; exact fun h => nomatch h)
    have hnd : d ≠ s₁.heap.objs.size + 1 + 1 := news_ne N1 (.tail _ (.tail _ (.head _))) (.tail _ (.tail _ (.tail _ (.tail _ hs1)))) (by rw [left2]; exact fun h => nomatch h)
    have hnl : l ≠ s₁.heap.objs.size + 1 + 1 := news_ne N1 (.tail _ (.tail _ (.tail _ (.head _)))) (.tail _ (.tail _ (.tail _ (.tail _ hs1)))) (by rw [left2]; exact fun h => nomatch h)
    have hnl' : ∀ q ∈ led.filter (fun q => q.1 != s₁.heap.objs.size + 1 + 1), q.1 ≠ s₁.heap.objs.size + 1 + 1 := fun q hq => by simpa using (List.mem_filter.mp hq).2
    have N2 : News _ _ h' ((D, _) :: (x, _) :: (d, _) :: (l, _) :: (s₁.heap.objs.size + 1, oc2) :: (367, tabObj #[]) :: (s₁.heap.objs.size + 1 + 1, oc1) :: led.filter (fun q => q.1 != s₁.heap.objs.size + 1 + 1)) := cb_drop N1 (by
      refine List.forall_mem_cons.mpr ⟨.head _, List.forall_mem_cons.mpr ⟨.tail _ (.head _), List.forall_mem_cons.mpr ⟨.tail _ (.tail _ (.head _)), List.forall_mem_cons.mpr ⟨.tail _ (.tail _ (.tail _ (.head _))), ?_⟩⟩⟩⟩
      refine List.forall_mem_cons.mpr ⟨.tail _ (.tail _ (.tail _ (.tail _ hs2))), List.forall_mem_cons.mpr ⟨.tail _ (.tail _ (.tail _ (.tail _ hs3))), List.forall_mem_cons.mpr ⟨.tail _ (.tail _ (.tail _ (.tail _ hs1))), fun q hq => ?_⟩⟩⟩
      exact .tail _ (.tail _ (.tail _ (.tail _ (List.mem_filter.mp hq).1))))
    have hbit := pts_mem hq
    have hp5 : 5 ≤ p ∧ p ≤ 23 := by
      have hpp := hG.1
      simp only [primes, List.mem_cons, List.not_mem_nil, or_false] at hpp; omega
    have hon := on_of_mem (show 0 < p by omega) hq
    have hA := hG.2.1
    have hA' := hG.2.2.1
    have hB := hG.2.2.2.1
    have hB' := hG.2.2.2.2.1
    obtain ⟨ledr, hledr⟩ : ∃ ledr, ledr = led.filter (fun q => q.1 != s₁.heap.objs.size + 1 + 1) := ⟨_, rfl⟩
    rw [← hledr] at N2 hnl' hm1' hok'
    clear hoff N0 N1 hledr hR hok hs hs1 hs2 hs3 hm1
    (iterate 85 (try (first | walk1 | (k_unfold; (try dsimp only); walk1))))
    k_dflt (refine' cut_gen w x (.int ((pts p a b).length + 1) tn) ?zf ?zn ?_ ?_)
    (case zf => k_asm)
    (case zn => k_asm)
    · walk_at "go"
      all_goals (
        first
        | (refine' cutL_end ?z1 ?z2 (RG.same ?z3 ?z3b ?z4 ?z5)
           (case z1 => k_asm)
           (case z2 => k_asm)
           (case z3 => exact rfl)
           (case z3b => exact rfl)
           (case z4 => (refine' .inl ⟨_, _, _, _, _, _, _, ?ya, ?yb, ?yd, ?ye⟩; (case ya => k_dflt k_mem); (case yb => k_dflt k_mem); (case yd => rfl); (case ye => rfl)))
           (case z5 => (refine' .inl ⟨_, _, _, _, _, _, _, ?ya, ?yb, ?yd, ?ye⟩; (case ya => k_dflt k_mem); (case yb => k_dflt k_mem); (case yd => rfl); (case ye => rfl))))
        | (refine' cutL_end ?z1 ?z2 ⟨_, _, ?z3, ?z4, ?z5, ?z6⟩
           (case z1 => k_asm)
           (case z2 => k_asm)
           (case z3 => exact rfl)
           (case z4 => (refine' .inr ⟨_, _, _, _, _, _, _, _, _, _, _, _, _, _, ?ya, ?yb, ?yc, ?yd, ?ye⟩; (case ya => k_dflt k_mem); (case yb => k_dflt k_mem); (case yc => k_dflt k_mem); (case yd => rfl); (case ye => rfl)))
           (case z5 => (refine' .inr ⟨_, _, _, _, _, _, _, _, _, _, _, _, _, _, ?ya, ?yb, ?yc, ?yd, ?ye⟩; (case ya => k_dflt k_mem); (case yb => k_dflt k_mem); (case yc => k_dflt k_mem); (case yd => rfl); (case ye => rfl)))
           (case z6 => exact fun q hq => by repeat (first | exact hq | apply List.mem_cons_of_mem))))
    · rintro m3 led3 h3 tk3 ⟨g, b', rfl, hg1, hb1, hsub⟩ F3 N3
      dsimp only [envOf] at F3 N3
      have hmx : (x, instObj 95 d) ∈ led3 := hsub _ (by k_dflt k_mem)
      have hmd : (d, dictOf (fpE w t1 t2 t3 t4 (Value.int p tp) (Value.int a ta) (Value.int b tb) (Value.int 1 th)) 4) ∈ led3 := hsub _ (by k_dflt k_mem)
      have hml : (l, W.listOf vs.toArray n) ∈ led3 := hsub _ (by k_dflt k_mem)
      have hms : (s₁.heap.objs.size + 1, oc2) ∈ led3 := hsub _ (by k_dflt k_mem)
      have hmt : (367, tabObj #[]) ∈ led3 := hsub _ (by k_dflt k_mem)
      have hmc : ∃ oc, (s₁.heap.objs.size + 1 + 1, oc) ∈ led3 ∧ oc.data = .cell (some (.int p tp)) := ⟨_, hsub _ (by k_dflt k_mem), by assumption⟩
      have hok3 : ∀ v ∈ (vs.drop 1).take 5, PairOk led3 v := fun v hv => (hok' v hv).mono fun q hq => hsub q (by repeat (first | exact hq | apply List.mem_cons_of_mem))
      have hm13 := hsub _ (show (r1, _) ∈ _ by repeat (first | exact hm1' | apply List.mem_cons_of_mem))
      obtain ⟨ocp, hmc, hcp⟩ := hmc
      clear hsub hok' hm1' hnl' hnD hnx hnd hnl left2
      have F3 := fr_known [(Str.ofString "curve", .ref x), (Str.ofString "row", .ref l), (Str.ofString "one", .ref r1), (Str.ofString "generator", .ref g), (Str.ofString "bare", .ref b')] (by walk_at "ps") F3
      obtain ⟨u3, F3⟩ := F3
      walk1
      k_dflt (refine' cut_pairs 100 (Str.ofString "pairs") ?zf ?zn ?_ ?_)
      (case zf => k_asm)
      (case zn => k_asm)
      · walk_at "go"
        refine Stop.to ?_
        k_dflt (refine' LCg.CompSrc.range ?zh ?zf2 ?zn2 ?zr ?zsm ?zsz0 ?zsz ?_)
        (case zh => exact rfl)
        (case zf2 => k_asm)
        (case zn2 => k_asm)
        (case zr => assumption)
        (case zsm => exact small_one (by omega) (by omega) (by omega) (by omega))
        (case zsz0 => rw [rangeSize_nat])
        (case zsz => rw [sizeLine_eq]; omega)
        intro gh
        refine comp_inv (fun i ys news => ys.length = i ∧ (∀ v ∈ ys, PairOk news v) ∧ ∀ q ∈ led3, q ∈ news) ?_ ?_ _ 0 [] _ rfl ⟨rfl, List.forall_mem_nil _, fun _ h => h⟩
        · rintro i ys news v I oI C oC D m₂ h tk E' hi ⟨hl, hp, hsb⟩ ⟨t, rfl⟩ hC hx F N off ne
          have hms' := hsb _ hms
          have hmc' := hsb _ hmc
          walk_at "go"
          (rename News _ _ _ _ => N9)
          (rename (_ < _ ∧ _ < _ ∧ _ < _ ∧ AllLt _ _) => l9)
          refine' comp_end_pair ?y1 N9 l9 off trivial ⟨?y4, ?y5, ?y6⟩
          (case y1 => k_asm)
          (case y4 => simp [hl])
          (case y5 =>
            have hc5 := fmod_lit (x := cell ns 5) (show 0 < p by omega)
            exact List.forall_mem_append.mpr ⟨fun v hv => (hp v hv).mono fun q hq => .tail _ hq, List.forall_mem_cons.mpr ⟨⟨_, _, _, _, _, rfl, .head _, by omega, by omega⟩, List.forall_mem_nil _⟩⟩)
          (case y6 => exact fun q hq => .tail _ (hsb q hq))
        · rintro ys news ⟨hl, hp, hsb⟩
          walk_at "go"
          exact cutL_end (by k_asm) (by k_asm) ⟨_, ys, ys.length, rfl, .head _, (fun v hv => (hp v hv).mono fun q hq => .tail _ hq), by omega, fun q hq => .tail _ (hsb q hq)⟩
      · rintro m4 led4 h4 tk4 ⟨D4, ys4, k4, rfl, hm4, hp4, hlen4, hsub4⟩ F4 N4
        dsimp only [envOf] at F4 N4
        replace hmx := hsub4 _ hmx
        replace hmd := hsub4 _ hmd
        replace hml := hsub4 _ hml
        replace hms := hsub4 _ hms
        replace hmt := hsub4 _ hmt
        replace hmc := hsub4 _ hmc
        replace hm13 := hsub4 _ hm13
        replace hok3 : ∀ v ∈ (vs.drop 1).take 5, PairOk led4 v := fun v hv => (hok3 v hv).mono hsub4
        replace hg1 := hg1.mono hsub4
        replace hb1 := hb1.mono hsub4
        clear hsub4
        walk1
        k_dflt (refine' cut_pairs 1000 (Str.ofString "pairs") ?zf ?zn ?_ ?_)
        (case zf => k_asm)
        (case zn => k_asm)
        · walk_at "go"
          refine Stop.to ?_
          k_dflt (refine' LCg.CompSrc.range ?zh ?zf2 ?zn2 ?zr ?zsm ?zsz0 ?zsz ?_)
          (case zh => exact rfl)
          (case zf2 => k_asm)
          (case zn2 => k_asm)
          (case zr => assumption)
          (case zsm => exact small_one (by omega) (by omega) (by omega) (by omega))
          (case zsz0 => rw [rangeSize_nat])
          (case zsz => rw [sizeLine_eq]; omega)
          intro gh
          refine comp_inv (fun i ys news => ys.length = i ∧ (∀ v ∈ ys, PairOk news v) ∧ ∀ q ∈ led4, q ∈ news) ?_ ?_ _ 0 [] _ rfl ⟨rfl, List.forall_mem_nil _, fun _ h => h⟩
          · rintro i ys news v I oI C oC D m₂ h tk E' hi ⟨hl, hp, hsb⟩ ⟨t, rfl⟩ hC hx F N off ne
            have hms' := hsb _ hms
            have hmc' := hsb _ hmc
            walk_at "go"
            (rename News _ _ _ _ => N9)
            (rename (_ < _ ∧ _ < _ ∧ _ < _ ∧ AllLt _ _) => l9)
            refine' comp_end_pair ?y1 N9 l9 off trivial ⟨?y4, ?y5, ?y6⟩
            (case y1 => k_asm)
            (case y4 => simp [hl])
            (case y5 =>
              have hc5 := fmod_lit (x := cell ns 6) (show 0 < p by omega)
              exact List.forall_mem_append.mpr ⟨fun v hv => (hp v hv).mono fun q hq => .tail _ hq, List.forall_mem_cons.mpr ⟨⟨_, _, _, _, _, rfl, .head _, by omega, by omega⟩, List.forall_mem_nil _⟩⟩)
            (case y6 => exact fun q hq => .tail _ (hsb q hq))
          · rintro ys news ⟨hl, hp, hsb⟩
            unfold LCg.FinE
            intro D' h' tk' F' N' o1'
            have hmD : (D', W.listOf ys.toArray ys.length) ∈ (D', LCg.lst ys) :: news := .head _
            have hm4' : (D4, W.listOf ys4.toArray k4) ∈ (D', LCg.lst ys) :: news := .tail _ (hsb _ hm4)
            walk_at "go"
            exact cutL_end (by k_asm) (by k_asm) ⟨_, ys4 ++ ys, 0, rfl, .head _, List.forall_mem_append.mpr ⟨fun v hv => (hp4 v hv).mono fun q hq => .tail _ (.tail _ (hsb q hq)), fun v hv => (hp v hv).mono fun q hq => .tail _ (.tail _ hq)⟩, by rw [List.length_append]; omega, fun q hq => .tail _ (.tail _ (hsb q hq))⟩
        · rintro m5 led5 h5 tk5 ⟨D5, ys5, k5, rfl, hm5, hp5', hlen5, hsub5⟩ F5 N5
          dsimp only [envOf] at F5 N5
          replace hmx := hsub5 _ hmx
          replace hmd := hsub5 _ hmd
          replace hml := hsub5 _ hml
          replace hms := hsub5 _ hms
          replace hmt := hsub5 _ hmt
          replace hmc := hsub5 _ hmc
          replace hm13 := hsub5 _ hm13
          replace hok3 : ∀ v ∈ (vs.drop 1).take 5, PairOk led5 v := fun v hv => (hok3 v hv).mono hsub5
          replace hg1 := hg1.mono hsub5
          replace hb1 := hb1.mono hsub5
          clear hsub5
          walk1
          k_dflt (refine' cut_pairs 10000 (Str.ofString "pairs") ?zf ?zn ?_ ?_)
          (case zf => k_asm)
          (case zn => k_asm)
          · walk_at "go"
            (rename News _ _ _ _ => N9)
            refine' cutL_end ?y1 N9 ⟨_, _, 0, rfl, .head _, List.forall_mem_append.mpr ⟨List.forall_mem_append.mpr ⟨?y2, ?y3⟩, List.forall_mem_cons.mpr ⟨?y4, List.forall_mem_cons.mpr ⟨?y5, List.forall_mem_cons.mpr ⟨?y6, List.forall_mem_nil _⟩⟩⟩⟩, ?y7, ?y8⟩
            (case y1 => k_asm)
            (case y2 => exact fun v hv => (hp5' v hv).mono fun q hq => by repeat (first | exact hq | apply List.mem_cons_of_mem))
            (case y3 => exact fun v hv => (hok3 v (pick_sub hvl.2 v hv)).mono fun q hq => by repeat (first | exact hq | apply List.mem_cons_of_mem))
            (case y4 => refine' ⟨_, _, _, _, _, rfl, ?a1, ?a2, ?a3⟩; (case a1 => k_dflt k_mem); (case a2 => omega); (case a3 => omega))
            (case y5 => refine' ⟨_, _, _, _, _, rfl, ?a1, ?a2, ?a3⟩; (case a1 => k_dflt k_mem); (case a2 => omega); (case a3 => omega))
            (case y6 => refine' ⟨_, _, _, _, _, rfl, ?a1, ?a2, ?a3⟩; (case a1 => k_dflt k_mem); (case a2 => omega); (case a3 => omega))
            (case y7 => (simp only [List.length_append, List.length_cons, List.length_nil]; omega))
            (case y8 => exact fun q hq => by repeat (first | exact hq | apply List.mem_cons_of_mem))
          · rintro m6 led6 h6 tk6 ⟨D6, ys6, k6, rfl, hm6, hp6, hlen6, hsub6⟩ F6 N6
            dsimp only [envOf] at F6 N6
            replace hmx := hsub6 _ hmx
            replace hmd := hsub6 _ hmd
            replace hmt := hsub6 _ hmt
            replace hmc := hsub6 _ hmc
            replace hg1 := hg1.mono hsub6
            replace hb1 := hb1.mono hsub6
            clear hsub6 hok3 hml hms hm13 hm4 hm5
            clear hL9 hcond2 X0 l0 hlen63 hlen hpi hp486 hG hq hl4 hpk hvl hv1 hv1' right2 hbit hon hp4 hlen4 hp5' hlen5 hlen6 N3 F4 N4 F5 N5
            walk_at "go"
            refine Stop.to ?_
            k_dflt (refine' lt_list (x := Str.ofString "x") [Str.ofString "x", Str.ofString "y", Str.ofString "inside", Str.ofString "due", Str.ofString "point"] ?zx ?zh ?zm ?zf ?zN ?_ ?_)
            (case zx => rfl)
            (case zh => exact rfl)
            (case zm => exact hm6)
            (case zf => k_asm)
            (case zN => k_asm)
            · intro I i v u h tk it hv hne F7 N7
              obtain ⟨r, X, tX, Y, tY, rfl, hmr, hbX, hbY⟩ := hp6 v (List.mem_of_getElem? hv)
              have hmr' := List.mem_cons_of_mem (I, it) hmr
              have hmx' := List.mem_cons_of_mem (I, it) hmx
              have hmd' := List.mem_cons_of_mem (I, it) hmd
              have hmc' := List.mem_cons_of_mem (I, it) hmc
              clear hv N6 hmr hp6
              (rename (∀ (q : Addr × Obj), q ∈ _ → q.1 < _) => zz1; clear zz1)
              (rename (∀ (q : Addr × Obj), q ∈ _ → q.1 < _) => zz1; clear zz1)
              (rename News _ _ _ ((_, instObj 417 _) :: _) => zz1; clear zz1)
              (iterate 10 (try (first | walk1 | (k_unfold; (try dsimp only); walk1))))
              k_dflt (refine' cut_bool (inB p X Y) (Str.ofString "inside") ?zf ?zn ?_ ?_)
              (case zf => k_asm)
              (case zn => k_asm)
              · walk_at "go"
                all_goals (
                  refine cut_end ?_ (by k_asm) (by k_asm) (fun _ h => h)
                  first
                  | (unfold inB; exact decide_eq_decide.mpr ⟨fun h => by omega, fun h => by omega⟩)
                  | (rw [inB_no (by omega)])
                  | (rw [inB_yes (by omega)]))
              · intro h8 tk8 F8 N8
                (try dsimp only [envOf] at F8 N8)
                walk1
                k_dflt (refine' cut_bool (inB p X Y && onB p a b X Y) (Str.ofString "due") ?zf ?zn ?_ ?_)
                (case zf => k_asm)
                (case zn => k_asm)
                · rcases hin : inB p X Y with _ | _ <;> rw [hin] at F8
                  · walk_at "go"
                    all_goals (refine cut_end ?_ (by k_asm) (by k_asm) (fun _ h => h); rfl)
                  · walk_at "go"
                    all_goals (refine cut_end ?_ (by k_asm) (by k_asm) (fun _ h => h); first | rfl | exact due_eq)
                · intro h9 tk9 F9 N9
                  (try dsimp only [envOf] at F9 N9)
                  walk_at "go"
                  all_goals (exfalso; simp_all; done)
            · intro u h tk F7 N7
              walk_at "go"
              all_goals wrow_close)
end
end Mine
theorem PySem.Challenge.cw_xq0002_04_holds : PySem.Challenge.rw_xq0002_04.Holds := by
  exact Mine.holds
