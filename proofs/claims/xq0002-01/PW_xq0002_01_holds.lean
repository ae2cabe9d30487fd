import PyProof.Rows.All
import Wide.All
import OpenK.AllK
import Wide.FinOn
import PySem.Challenge.RW_xq0002_01
open PySem PySem.W PyProof.Rows PySem.Calls
set_option Elab.async false
set_option maxRecDepth 100000
set_option maxHeartbeats 8000000
-- Base
namespace Mine
/-- a goal set aside for the hand -/
def Stop (P : Prop) : Prop := P
theorem Stop.of {P : Prop} (h : Stop P) : P := h
theorem Stop.to {P : Prop} (h : P) : Stop P := h
/-- a contract: from every state in which the ledger is `news` the tree `t` comes back by `R` -/
def Sp {α : Type} (prog : Program) (w : World) (K : Frag) (p : Program) (loose : List Str) (mean : ExcName → Option Value) (mg mb : Str → Option Value) (D U : Nat) (t : Sem α) (news : List (Addr × Obj)) (Pre : Heap → Prop)
    (R : Heap → Addr → (Str → Option Value) → Shared → (α → Shared → Prop) → Prop) : Prop :=
  ∀ (dp un : Nat) (gd : Option (List Code)) (cn : Str) (cs : Scope) (a : Addr) (ccd : Value) (cl : List (Str × Addr)) (outer : List Env) (A₀ : Around) (base h₀ : Heap) (L : Addr) (m : Str → Option Value) (s : Shared) (Q : α → Shared → Prop) (E : Value → Shared → Prop),
    Below A₀ base outer h₀ → Fr h₀ L s.heap m → K.In h₀ → News h₀ L s.heap news → Top p loose mean mg mb h₀ → cs.kind = .function → dp + D < recursionLimit → un + U < cLine → Pre base → R h₀ L m s Q →
    wpAny (model prog w) (ktrTop dp un gd cn cs L a ccd cl outer) t Q E s

def RInt (v : Int) (news : List (Addr × Obj)) (h₀ : Heap) (L : Addr) (m : Str → Option Value) (s : Shared) (Q : Value → Shared → Prop) : Prop :=
  ∀ t h' tk', Fr h₀ L h' m → News h₀ L h' news → Q (.int v t) { s with heap := h', toks := tk' }
def RBool (v : Bool) (news : List (Addr × Obj)) (h₀ : Heap) (L : Addr) (m : Str → Option Value) (s : Shared) (Q : Value → Shared → Prop) : Prop :=
  ∀ h' tk', Fr h₀ L h' m → News h₀ L h' news → Q (.bool v) { s with heap := h', toks := tk' }

theorem Sp.use {α : Type} {prog : Program} {w : World} {K : Frag} {p : Program} {loose : List Str} {mean : ExcName → Option Value} {mg mb : Str → Option Value} {D U : Nat} {t : Sem α} {news : List (Addr × Obj)} {Pre : Heap → Prop}
    {R : Heap → Addr → (Str → Option Value) → Shared → (α → Shared → Prop) → Prop} (h : Sp prog w K p loose mean mg mb D U t news Pre R)
    {dp un : Nat} {gd : Option (List Code)} {cn : Str} {cs : Scope} {a : Addr} {ccd : Value} {cl : List (Str × Addr)} {outer : List Env} {A₀ : Around} {base h₀ : Heap} {L : Addr} {m : Str → Option Value} {s : Shared} {Q : α → Shared → Prop} {E : Value → Shared → Prop}
    (B : Below A₀ base outer h₀) (F : Fr h₀ L s.heap m) (X : K.In h₀) (N : News h₀ L s.heap news) (T : Top p loose mean mg mb h₀) (hk : cs.kind = .function) (hd : dp + D < recursionLimit) (hu : un + U < cLine) (hp : Pre base) (hr : R h₀ L m s Q) :
    wpAny (model prog w) (ktrTop dp un gd cn cs L a ccd cl outer) t Q E s := h _ _ _ _ _ _ _ _ _ _ _ _ _ _ _ _ _ B F X N T hk hd hu hp hr

section
variable {prog : Program} {w : World} {A : Around} {E : Value → Shared → Prop} {s : Shared} {env : Env} {h₀ : Heap} {x : Str} {body : List Stmt} {Q : Flow → Shared → Prop}

/-- the end of a turn: the state's datum is some `c` again -/
def LpEnd {σ : Type} (Led : σ → List (Addr × Obj)) (Ps : σ → List (Str × Value)) (Inv : σ → Prop) (stored : List Str) (x : Str) (m₀ : Str → Option Value) (h₀ : Heap) (L I : Addr) (it : Obj) (s₁ s₂ : Shared) : Prop :=
  ∃ c h' tk m' news', s₂ = { s₁ with heap := h', toks := tk } ∧ Fr h₀ L h' m' ∧ News h₀ L h' news' ∧ (∀ p ∈ Led c, p ∈ news') ∧ (I, it) ∈ news' ∧ (∀ p ∈ Led c, p.1 ≠ I) ∧ (∀ p ∈ Ps c, m' p.1 = some p.2) ∧
    (∀ z, z ≠ x → stored.contains z = false → m' z = m₀ z) ∧ Inv c
def LpPost {σ : Type} (Led : σ → List (Addr × Obj)) (Ps : σ → List (Str × Value)) (Inv : σ → Prop) (stored : List Str) (x : Str) (m₀ : Str → Option Value) (h₀ : Heap) (L I : Addr) (it : Obj) (s₁ : Shared) (Q : Flow → Shared → Prop) (f : Flow) (s₂ : Shared) : Prop :=
  match f with
  | .ret v => Q (.ret v) s₂
  | .brk => Q .next s₂
  | _ => LpEnd Led Ps Inv stored x m₀ h₀ L I it s₁ s₂
theorem lp_end {σ : Type} {Led : σ → List (Addr × Obj)} {Ps : σ → List (Str × Value)} {Inv : σ → Prop} {stored : List Str} {m₀ m' : Str → Option Value} {L I : Addr} {it : Obj} {s₁ : Shared} {h' : Heap} {tk : Nat} {news' : List (Addr × Obj)} (c : σ)
    (F : Fr h₀ L h' m') (N : News h₀ L h' news') (hin : ∀ p ∈ Led c, p ∈ news') (hI : (I, it) ∈ news') (hne : ∀ p ∈ Led c, p.1 ≠ I) (hps : ∀ p ∈ Ps c, m' p.1 = some p.2) (hs : ∀ z, z ≠ x → stored.contains z = false → m' z = m₀ z) (hi : Inv c) :
    LpEnd Led Ps Inv stored x m₀ h₀ L I it s₁ { s₁ with heap := h', toks := tk } := ⟨c, h', tk, m', news', rfl, F, N, hin, hI, hne, hps, hs, hi⟩

theorem lp_core {σ : Type} {I : Addr} {fp : List Addr} {n : Nat} {P : Nat → Value → Prop} {St : Nat → Heap → Prop} {m₀ : Str → Option Value} (Led : σ → List (Addr × Obj)) (Ps : σ → List (Str × Value)) (Inv : Nat → σ → Prop) (stored : List Str) (c₀ : σ) (lo : Addr → Obj)
    (W : Walks prog w A I fp [I] n P St) (live : ∀ i h, St i h → ∃ o, h.get? I = some o) (hLf : env.locals ∉ fp) (hI : h₀.get? I = none) (hst : St 0 s.heap) (hne : ∀ p ∈ Led c₀, p.1 ≠ I)
    (hown : ∀ i c, Inv i c → ∀ b ∈ fp, b ≠ I → h₀.get? b = none → (b, lo b) ∈ Led c)
    (F : Fr h₀ env.locals s.heap m₀) (N : News h₀ env.locals s.heap (Led c₀)) (hps : ∀ p ∈ Ps c₀, m₀ p.1 = some p.2) (h0 : Inv 0 c₀)
    (turn : ∀ i v c (u : Str → Option Value) h tk it, i < n → P i v → Inv i c → (∀ p ∈ Led c, p.1 ≠ I) →
      Fr h₀ env.locals h (fun y => if y = x then some v else kstB (fun z => if stored.contains z then u z else m₀ z) (Ps c) y) → News h₀ env.locals h ((I, it) :: Led c) →
      wpAny (model prog w) A (execs body env) (LpPost Led Ps (Inv (i + 1)) stored x m₀ h₀ env.locals I it { s with heap := h, toks := tk } Q) E { s with heap := h, toks := tk })
    (done : ∀ c (u : Str → Option Value) h tk, Inv n c → (∀ p ∈ Led c, p.1 ≠ I) → Fr h₀ env.locals h (fun y => if y = x then u y else kstB (fun z => if stored.contains z then u z else m₀ z) (Ps c) y) → News h₀ env.locals h (Led c) → Q .next { s with heap := h, toks := tk }) :
    LoopAtV prog w A h₀ env x body Q E (.ref I) s := by
  refine ⟨I, fp, [I], n, P, St, m₀, Led c₀, fun i m nx => ∃ c, nx = Led c ∧ (∀ p ∈ Ps c, m p.1 = some p.2) ∧ (∀ z, z ≠ x → stored.contains z = false → m z = m₀ z) ∧ Inv i c, rfl, W, hLf, ?_, ?_, hst, F, N, ⟨c₀, rfl, hps, fun _ _ _ => rfl, h0⟩, ?_, ?_⟩
  · intro b hb; rw [List.mem_singleton.mp hb]; exact hI
  · intro p hp hq; exact hne p hp (List.mem_singleton.mp hq)
  · rintro i v m₁ news₁ s₁ own ⟨hh', tk', rfl⟩ hin hP ⟨c, rfl, hps', hsm, hinv⟩ hoff hof hown1 hown2 hst' F₁ N₁
    obtain ⟨it, hit⟩ := live _ _ hst'
    have hIo : (I, it) ∈ own := hown2 I (W.sub I (List.mem_singleton.mpr rfl)) hI it hit
    have N₂ : News h₀ env.locals hh' ((I, it) :: Led c) := fun p hp => (List.mem_cons.mp hp).elim (fun e => e ▸ N₁ _ (List.mem_append.mpr (.inl hIo))) fun h => N₁ p (List.mem_append.mpr (.inr h))
    have hne' : ∀ p ∈ Led c, p.1 ≠ I := fun p hp e => hoff p hp (e ▸ List.mem_singleton.mpr rfl)
    refine wpAny_mono (turn i v c m₁ hh' tk' it hin hP hinv hne' (kst_fr hps' (fun z h1 _ h3 => hsm z h1 h3) F₁) N₂) (fun f s₂ p => ?_) fun _ _ e => e
    have fin : LpEnd Led Ps (Inv (i + 1)) stored x m₀ h₀ env.locals I it { s with heap := hh', toks := tk' } s₂ → LoopStepU h₀ env.locals [I] own (fun m nx => ∃ c, nx = Led c ∧ (∀ p ∈ Ps c, m p.1 = some p.2) ∧ (∀ z, z ≠ x → stored.contains z = false → m z = m₀ z) ∧ Inv (i + 1) c) { s with heap := hh', toks := tk' } .next s₂ := by
      rintro ⟨c', h', tk, m', news', e, F', N', hn, hI', hne'', hp', hs', hi'⟩
      refine ⟨rfl, h', tk, m', Led c', e, F', fun p hp => ?_, fun p hp hq => hne'' p hp (List.mem_singleton.mp hq), c', rfl, hp', hs', hi'⟩
      rcases List.mem_append.mp hp with h | h
      · have hg := hown1 p h
        by_cases e1 : p.1 = I
        · have : p = (I, it) := by
            obtain ⟨p1, p2⟩ := p
            simp only at e1 hg; subst e1
            have e2 : some p2 = some it := hg.symm.trans hit
            rw [Option.some.inj e2]
          exact this ▸ N' _ hI'
        · have h3 : h₀.get? p.1 = none := (N₁ p (List.mem_append.mpr (.inl h))).2.2
          have h4 := hown _ _ hinv p.1 (hof p h) e1 h3
          have h5 := hown _ _ hi' p.1 (hof p h) e1 h3
          have h6 := (N₂ _ (List.mem_cons_of_mem _ h4)).1
          have : p = (p.1, lo p.1) := by
            obtain ⟨p1, p2⟩ := p
            have e2 : some p2 = some (lo p1) := hg.symm.trans h6
            rw [Option.some.inj e2]
          exact this ▸ N' _ (hn _ h5)
      · exact N' p (hn p h)
    cases f with
    | ret v => exact .ret p
    | brk => exact .brk p
    | next => exact .next (fin p)
    | cont => exact .cont (fin p)
  · rintro h' tk m' news' F' N' hoff ⟨c, rfl, hp', hs', hi'⟩
    exact done c m' h' tk hi' (fun p hp e => hoff p hp (e ▸ List.mem_singleton.mpr rfl)) (kst_frOut hp' (fun z h1 _ h3 => hs' z h1 h3) F') N'

/-- a loop over a range by ones -/
theorem lp_range {σ : Type} {r : Addr} {a₀ b₀ : Int} {t₀ u₀ v₀ : Tok} {m₀ : Str → Option Value} (n : Nat) (Led : σ → List (Addr × Obj)) (Ps : σ → List (Str × Value)) (Inv : Nat → σ → Prop) (stored : List Str) (c₀ : σ)
    (hh : A.handled = none) (hr : IsRange s.heap r a₀ b₀ 1 t₀ u₀ v₀) (hsmall : Builtin.Range.small a₀ b₀ 1 = true) (hn : Builtin.Range.rangeSize a₀ b₀ 1 = (n : Int))
    (F : Fr h₀ env.locals s.heap m₀) (N : News h₀ env.locals s.heap (Led c₀)) (hps : ∀ p ∈ Ps c₀, m₀ p.1 = some p.2) (h0 : Inv 0 c₀)
    (turn : ∀ I (i : Nat) t c (u : Str → Option Value) h tk it, i < n → Inv i c → (∀ p ∈ Led c, p.1 ≠ I) →
      Fr h₀ env.locals h (fun y => if y = x then some (.int (a₀ + (i : Int)) t) else kstB (fun z => if stored.contains z then u z else m₀ z) (Ps c) y) → News h₀ env.locals h ((I, it) :: Led c) →
      wpAny (model prog w) A (execs body env) (LpPost Led Ps (Inv (i + 1)) stored x m₀ h₀ env.locals I it { s with heap := h, toks := tk } Q) E { s with heap := h, toks := tk })
    (done : ∀ c (u : Str → Option Value) h tk, Inv n c → Fr h₀ env.locals h (fun y => if y = x then u y else kstB (fun z => if stored.contains z then u z else m₀ z) (Ps c) y) → News h₀ env.locals h (Led c) → Q .next { s with heap := h, toks := tk }) :
    wpAny (model prog w) A (pyIter (.ref r)) (fun it s₂ => LoopAtV prog w A h₀ env x body Q E it s₂) E s := by
  refine wpAny_pyIter_range hr hsmall ?_
  have W : Walks prog w A s.heap.objs.size [s.heap.objs.size] [s.heap.objs.size] n (fun i v => ∃ t, v = .int (a₀ + i * 1) t)
      (fun i h => IsRangeIter h s.heap.objs.size (a₀ + (i : Nat) * 1) ((n : Int) - (i : Nat)) 1) := Walks.range hh _ a₀ 1 n
  refine lp_core Led Ps Inv stored c₀ (fun _ => { cls := .type "list", data := .seq #[] }) W (fun i h st => ⟨_, st⟩) ?_ ?_ ?_ ?_ ?_ (F.push _) (fun p hp => ⟨Heap.get?_push_of_some _ (N p hp).1, (N p hp).2⟩) hps h0 ?_ ?_
  · intro hm; exact absurd F.ns.lt ((List.mem_singleton.mp hm) ▸ Nat.lt_irrefl _)
  · exact next_is_new F
  · show IsRangeIter _ _ _ _ _; rw [hn]; simpa using Heap.get?_push_size _ rfl
  · intro p hp e; exact absurd (Heap.lt_size (N p hp).1) (e ▸ Nat.lt_irrefl _)
  · intro i c _ b hb hne; exact absurd (List.mem_singleton.mp hb) hne
  · rintro i v c u h tk it hi ⟨t, rfl⟩ hinv hne F₁ N₁
    have e1 : a₀ + (i : Int) * 1 = a₀ + (i : Int) := by omega
    rw [e1] at F₁
    exact turn _ i t c u h tk it hi hinv hne F₁ N₁
  · intro c u h tk hinv _ F₁ N₁
    exact done c u h tk hinv F₁ N₁

/-- a loop over a list: of the base (`hl0`) or of the ledger, where it stays as it is (`hlL`) -/
theorem lp_list {σ : Type} {l : Addr} {lo : Obj} {m₀ : Str → Option Value} (vs : List Value) (Led : σ → List (Addr × Obj)) (Ps : σ → List (Str × Value)) (Inv : Nat → σ → Prop) (stored : List Str) (c₀ : σ)
    (hh : A.handled = none) (hl : s.heap.IsList l vs.toArray) (hlL : h₀.get? l = none → ∀ i c, Inv i c → (l, lo) ∈ Led c) (hl0 : l ≠ env.locals)
    (F : Fr h₀ env.locals s.heap m₀) (N : News h₀ env.locals s.heap (Led c₀)) (hps : ∀ p ∈ Ps c₀, m₀ p.1 = some p.2) (h0 : Inv 0 c₀)
    (turn : ∀ I (i : Nat) v c (u : Str → Option Value) h tk it, vs[i]? = some v → Inv i c → (∀ p ∈ Led c, p.1 ≠ I) →
      Fr h₀ env.locals h (fun y => if y = x then some v else kstB (fun z => if stored.contains z then u z else m₀ z) (Ps c) y) → News h₀ env.locals h ((I, it) :: Led c) →
      wpAny (model prog w) A (execs body env) (LpPost Led Ps (Inv (i + 1)) stored x m₀ h₀ env.locals I it { s with heap := h, toks := tk } Q) E { s with heap := h, toks := tk })
    (done : ∀ c (u : Str → Option Value) h tk, Inv vs.length c → Fr h₀ env.locals h (fun y => if y = x then u y else kstB (fun z => if stored.contains z then u z else m₀ z) (Ps c) y) → News h₀ env.locals h (Led c) → Q .next { s with heap := h, toks := tk }) :
    wpAny (model prog w) A (pyIter (.ref l)) (fun it s₂ => LoopAtV prog w A h₀ env x body Q E it s₂) E s := by
  obtain ⟨ol, hol, hol'⟩ := id hl
  have hne : l ≠ s.heap.objs.size := Nat.ne_of_lt (Heap.lt_size hol)
  refine wpAny_pyIter_list hl ?_
  have W := Walks.list (prog := prog) (w := w) hh s.heap.objs.size l hne vs.toArray
  have hlen : vs.toArray.size = vs.length := by simp
  rw [hlen] at W
  refine lp_core Led Ps Inv stored c₀ (fun _ => lo) W (fun i h st => ?_) ?_ ?_ ?_ ?_ ?_ (F.push _) (fun p hp => ⟨Heap.get?_push_of_some _ (N p hp).1, (N p hp).2⟩) hps h0 ?_ ?_
  · obtain ⟨⟨o, ho, _⟩, _⟩ := st; exact ⟨o, ho⟩
  · intro hm
    rcases List.mem_cons.mp hm with e | hm
    · exact absurd F.ns.lt (e ▸ Nat.lt_irrefl _)
    · exact hl0 (List.mem_singleton.mp hm).symm
  · exact next_is_new F
  · exact ⟨⟨_, Heap.get?_push_size _ rfl, rfl, rfl⟩, hl.at fun o e => Heap.get?_push_of_some _ e⟩
  · intro p hp e; exact absurd (Heap.lt_size (N p hp).1) (e ▸ Nat.lt_irrefl _)
  · intro i c hc b hb hne h0
    rcases List.mem_cons.mp hb with e | hb
    · exact absurd e hne
    · rw [List.mem_singleton.mp hb] at h0 ⊢
      exact hlL h0 i c hc
  · rintro i v c u h tk it hi hP hinv hne F₁ N₁
    exact turn _ i v c u h tk it (by simpa using hP) hinv hne F₁ N₁
  · intro c u h tk hinv _ F₁ N₁
    exact done c u h tk hinv F₁ N₁

/-- the loops whose turns keep nothing -/
theorem lp_range0 {r : Addr} {a₀ b₀ : Int} {t₀ u₀ v₀ : Tok} {m₀ : Str → Option Value} {led : List (Addr × Obj)} (n : Nat) (stored : List Str)
    (hh : A.handled = none) (hr : IsRange s.heap r a₀ b₀ 1 t₀ u₀ v₀) (hsmall : Builtin.Range.small a₀ b₀ 1 = true) (hn : Builtin.Range.rangeSize a₀ b₀ 1 = (n : Int))
    (F : Fr h₀ env.locals s.heap m₀) (N : News h₀ env.locals s.heap led)
    (turn : ∀ I (i : Nat) t (u : Str → Option Value) h tk it, i < n → (∀ p ∈ led, p.1 ≠ I) →
      Fr h₀ env.locals h (fun y => if y = x then some (.int (a₀ + (i : Int)) t) else if stored.contains y then u y else m₀ y) → News h₀ env.locals h ((I, it) :: led) →
      wpAny (model prog w) A (execs body env) (LpPost (σ := Unit) (fun _ => led) (fun _ => []) (fun _ => True) stored x m₀ h₀ env.locals I it { s with heap := h, toks := tk } Q) E { s with heap := h, toks := tk })
    (done : ∀ (u : Str → Option Value) h tk, Fr h₀ env.locals h (fun y => if y = x then u y else if stored.contains y then u y else m₀ y) → News h₀ env.locals h led → Q .next { s with heap := h, toks := tk }) :
    wpAny (model prog w) A (pyIter (.ref r)) (fun it s₂ => LoopAtV prog w A h₀ env x body Q E it s₂) E s :=
  lp_range (σ := Unit) n (fun _ => led) (fun _ => []) (fun _ _ => True) stored () hh hr hsmall hn F N (List.forall_mem_nil _) trivial
    (fun I i t _ u h tk it hi _ hne F N => turn I i t u h tk it hi hne F N) (fun _ u h tk _ F N => done u h tk F N)
theorem lp_list0 {l : Addr} {lo : Obj} {m₀ : Str → Option Value} {led : List (Addr × Obj)} {vs : List Value} (stored : List Str)
    (hh : A.handled = none) (hl : s.heap.IsList l vs.toArray) (hlL : h₀.get? l = none → (l, lo) ∈ led) (hl0 : l ≠ env.locals)
    (F : Fr h₀ env.locals s.heap m₀) (N : News h₀ env.locals s.heap led)
    (turn : ∀ I (i : Nat) v (u : Str → Option Value) h tk it, vs[i]? = some v → (∀ p ∈ led, p.1 ≠ I) →
      Fr h₀ env.locals h (fun y => if y = x then some v else if stored.contains y then u y else m₀ y) → News h₀ env.locals h ((I, it) :: led) →
      wpAny (model prog w) A (execs body env) (LpPost (σ := Unit) (fun _ => led) (fun _ => []) (fun _ => True) stored x m₀ h₀ env.locals I it { s with heap := h, toks := tk } Q) E { s with heap := h, toks := tk })
    (done : ∀ (u : Str → Option Value) h tk, Fr h₀ env.locals h (fun y => if y = x then u y else if stored.contains y then u y else m₀ y) → News h₀ env.locals h led → Q .next { s with heap := h, toks := tk }) :
    wpAny (model prog w) A (pyIter (.ref l)) (fun it s₂ => LoopAtV prog w A h₀ env x body Q E it s₂) E s :=
  lp_list (σ := Unit) (lo := lo) vs (fun _ => led) (fun _ => []) (fun _ _ => True) stored () hh hl (fun h _ _ _ => hlL h) hl0 F N (List.forall_mem_nil _) trivial
    (fun I i v _ u h tk it hi _ hne F N => turn I i v u h tk it hi hne F N) (fun _ u h tk _ F N => done u h tk F N)
/-- a loop over a list of the ledger -/
theorem lp_listL {l : Addr} {k : Nat} {m₀ : Str → Option Value} {led : List (Addr × Obj)} {vs : List Value} (stored : List Str)
    (hh : A.handled = none) (hm : (l, listOf vs.toArray k) ∈ led)
    (F : Fr h₀ env.locals s.heap m₀) (N : News h₀ env.locals s.heap led)
    (turn : ∀ I (i : Nat) v (u : Str → Option Value) h tk it, vs[i]? = some v → (∀ p ∈ led, p.1 ≠ I) →
      Fr h₀ env.locals h (fun y => if y = x then some v else if stored.contains y then u y else m₀ y) → News h₀ env.locals h ((I, it) :: led) →
      wpAny (model prog w) A (execs body env) (LpPost (σ := Unit) (fun _ => led) (fun _ => []) (fun _ => True) stored x m₀ h₀ env.locals I it { s with heap := h, toks := tk } Q) E { s with heap := h, toks := tk })
    (done : ∀ (u : Str → Option Value) h tk, Fr h₀ env.locals h (fun y => if y = x then u y else if stored.contains y then u y else m₀ y) → News h₀ env.locals h led → Q .next { s with heap := h, toks := tk }) :
    wpAny (model prog w) A (pyIter (.ref l)) (fun it s₂ => LoopAtV prog w A h₀ env x body Q E it s₂) E s :=
  lp_list0 (lo := listOf vs.toArray k) stored hh ⟨_, (N _ hm).1, rfl, k, rfl⟩ (fun _ => hm) (N _ hm).2.1 F N turn done
theorem lp_end0 {led : List (Addr × Obj)} {stored : List Str} {m₀ m' : Str → Option Value} {L I : Addr} {it : Obj} {s₁ : Shared} {h' : Heap} {tk : Nat} {news' : List (Addr × Obj)}
    (F : Fr h₀ L h' m') (N : News h₀ L h' news') (hin : ∀ p ∈ led, p ∈ news') (hI : (I, it) ∈ news') (hne : ∀ p ∈ led, p.1 ≠ I) (hs : ∀ z, z ≠ x → stored.contains z = false → m' z = m₀ z) :
    LpEnd (σ := Unit) (fun _ => led) (fun _ => []) (fun _ => True) stored x m₀ h₀ L I it s₁ { s₁ with heap := h', toks := tk } :=
  lp_end () F N hin hI hne (List.forall_mem_nil _) hs trivial

/-- a statement's ways meet: it stores the one bool `D` -/
def CutEnd (D : Bool) (y : Str) (m : Str → Option Value) (led : List (Addr × Obj)) (h₀ : Heap) (L : Addr) (s : Shared) (f : Flow) (s' : Shared) : Prop :=
  f = .next ∧ ∃ h' tk', s' = { s with heap := h', toks := tk' } ∧ Fr h₀ L h' (fun z => if z = y then some (.bool D) else m z) ∧ News h₀ L h' led
theorem cut_end {D D' : Bool} {y : Str} {m : Str → Option Value} {led led' : List (Addr × Obj)} {L : Addr} {h' : Heap} {tk' : Nat} (e : D' = D) (F : Fr h₀ L h' (fun z => if z = y then some (.bool D') else m z)) (N : News h₀ L h' led') (hs : ∀ p ∈ led, p ∈ led') :
    CutEnd D y m led h₀ L s .next { s with heap := h', toks := tk' } := ⟨rfl, h', tk', rfl, e ▸ F, fun p hp => N p (hs p hp)⟩
theorem cut_bool {M : Model} {st : Stmt} {m : Str → Option Value} {led : List (Addr × Obj)} (D : Bool) (y : Str) (_F : Fr h₀ env.locals s.heap m) (_N : News h₀ env.locals s.heap led)
    (hw : wpAny M A (exec st env) (CutEnd D y m led h₀ env.locals s) E s)
    (hc : ∀ h' tk', Fr h₀ env.locals h' (fun z => if z = y then some (.bool D) else m z) → News h₀ env.locals h' led → Q .next { s with heap := h', toks := tk' }) : wpAny M A (exec st env) Q E s :=
  wpAny_mono hw (fun f s' h => by obtain ⟨rfl, h', tk', rfl, F', N'⟩ := h; exact hc h' tk' F' N') fun _ _ e => e
end
end Mine

-- Hd01
namespace Mine
open_top hd for PySem.Challenge.rw_xq0002_01
end Mine

-- L01a
namespace Mine
noncomputable abbrev PR := PySem.Challenge.rw_xq0002_01.row.prog
noncomputable abbrev LO := looseW hd.view_39 [Str.ofString "CurveFp", Str.ofString "CurveEdTw"]
local macro_rules | `(tactic| k_room) => `(tactic| ktr_room)
local macro_rules | `(tactic| k_units) => `(tactic| ktr_units)
local macro_rules | `(tactic| bits_by_make) => `(tactic| with_reducible assumption)
local macro_rules | `(tactic| walk_at "ps") => `(tactic| first | exact List.forall_mem_nil _ | (refine List.forall_mem_cons.mpr ⟨rfl, ?_⟩; walk_at "ps"))
variable {w : World} {mean : ExcName → Option Value} {mg mb : Str → Option Value}
def num (ns : List Int) (k : Int) : Int := if k < (ns.length : Int) then ns.getD k.toNat 0 else 7 * k + 3 - 100 * (if k.fmod 2 = 0 then 1 else 0)

theorem c_number {news : List (Addr × Obj)} {l : Addr} {vs : List Value} {ns : List Int} {k : Int} {t : Tok} (hi : IntsAre vs ns) (hlen : ns.length < 2 ^ 62) (h0 : 0 ≤ k) (h1 : k ≤ 100) :
    Sp PR w (hd.heap_39 w.params) hd.view_39 LO mean mg mb 1 8 (call (.ref 163) [.ref l, .int k t]) news (fun base => base.IsList l vs.toArray) (RInt (num ns k) news) := by
  (try unfold PR LO); k_fill
  unfold Sp
  intro dp un gd cn cs a ccd cl outer A₀ base h₀ L M s Q E B F X N T hk hd hu hpre hret
  try dsimp only at hpre
  refine wpAny_call ?_
  k_dflt cell_enter
  unfold RInt at hret
  k_steps
  · refine cb_retI hret ?_ (by assumption) (by assumption)
    unfold num; split <;> first | rfl | (exfalso; omega)
  · refine cb_retI hret ?_ (by assumption) (by assumption)
    unfold num; split <;> first | (exfalso; omega) | (simp; done) | simp_all
theorem sub_mul_fdiv (k m : Int) : k - m * k.fdiv m = k.fmod m := by
  have := Int.mul_fdiv_add_fmod k m; omega
theorem fmod_fmod_of_pos {k m : Int} (h : 0 < m) : (k.fmod m).fmod m = k.fmod m := by
  rw [Int.fmod_eq_emod_of_nonneg _ (by omega), Int.fmod_eq_emod_of_nonneg _ (by omega), Int.emod_emod]
theorem c_rest {news : List (Addr × Obj)} {n m : Int} {t u : Tok} (h0 : 0 < m) (h1 : m < 1000) (hb : Builtin.Int.intBits n ≤ 8388608) :
    Sp PR w (hd.heap_39 w.params) hd.view_39 LO mean mg mb 1 8 (call (.ref 170) [.int n t, .int m u]) news (fun _ => True) (RInt (n.fmod m) news) := by
  (try unfold PR LO); k_fill
  unfold Sp
  intro dp un gd cn cs a ccd cl outer A₀ base h₀ L M s Q E B F X N T hk hd hu hpre hret
  try dsimp only at hpre
  refine wpAny_call ?_
  k_dflt cell_enter
  unfold RInt at hret
  walk1
  walk1
  with_unfolding_all refine' ksw_while (σ := Int × Tok) (fun _ => news) (fun c => [(Str.ofString "number", Value.int c.1 c.2)]) (fun _ => True) [] (fun c => c.1.fmod m = n.fmod m ∧ Builtin.Int.intBits c.1 ≤ 8388608) (fun c => c.1.natAbs) (n, t) (by assumption) (by assumption) trivial ?_ ⟨rfl, hb⟩ ?_
  · walk_at "ps"
  rintro ⟨k, tt⟩ u' h tk - ⟨hk1, hk2⟩ F1 N1
  dsimp only at hk1 hk2 F1 N1
  k_steps
  · have hz := Int.fmod_nonneg_of_pos k h0
    have hz2 := Int.fmod_lt_of_pos k h0
    refine ksw_end (k - m * k.fdiv m, _) (by assumption) (by assumption) (fun _ h => h) trivial (by walk_at "ps") ?_ ⟨?_, ?_⟩ ?_
    · intro z h1 _
      have := h1 _ (.head _)
      simp only at this
      simp only [this, if_false, kstB]
      simp
    · show (k - m * k.fdiv m).fmod m = _
      rw [sub_mul_fdiv, fmod_fmod_of_pos h0, hk1]
    · show Builtin.Int.intBits (k - m * k.fdiv m) ≤ _
      rw [sub_mul_fdiv]
      exact Nat.le_trans (intBits_le_64 (by omega) (by omega)) (by decide)
    · show (k - m * k.fdiv m).natAbs < k.natAbs
      rw [sub_mul_fdiv]
      split at * <;> omega
  · rw [sub_mul_fdiv]
    exact cb_retI hret hk1 (by assumption) (by assumption)
end Mine

-- L01c
namespace Mine
local macro_rules | `(tactic| k_room) => `(tactic| ktr_room)
local macro_rules | `(tactic| k_units) => `(tactic| ktr_units)
local macro_rules | `(tactic| bits_by_make) => `(tactic| with_reducible assumption)
local macro_rules | `(tactic| k_handed) => `(tactic| with_reducible assumption)
local macro_rules | `(tactic| k_enter) => `(tactic| (
  refine' code_def ?k1 ?k2 ?k3 ?k4 ?k5 ?kA ?kF ?kK ?k6 ?k7 ?k8 ?k9 ?kB ?_ ?c2 ?c3 ?c4 ?c5; (case kA => exact rfl); (case kF => exact rfl); (case kK => first | exact rfl | assumption); (case k1 => k_asm); (case k2 => k_asm); (case k3 => k_asm); (case k4 => k_asm); (case k5 => k_asm); (case k6 => k_is); (case k7 => k_is); (case k8 => k_room)
  (case k9 => first | exact BindsTo.of_eq rfl | exact binds_K (by k_in) rfl (by k_is) rfl rfl rfl); (case c5 => decide); (case kB => exact locs rfl); (case c2 => exact rfl); (case c3 => exact rfl); (case c4 => exact rfl); k_whole; intro g' L' h' FG' F' N' B' X' T'; (try dsimp only); (try k_lift B'); (try k_fold)))
variable {w : World} {mean : ExcName → Option Value} {mg mb : Str → Option Value}
abbrev fpE (w : World) (t1 t2 t3 t4 : Tok) (p a b h : Value) : List DictEntry := [⟨PyData.keyHash w.params (Str.ofString "_CurveFp__p"), .str (Str.ofString "_CurveFp__p") t1, p⟩, ⟨PyData.keyHash w.params (Str.ofString "_CurveFp__a"), .str (Str.ofString "_CurveFp__a") t2, a⟩,
  ⟨PyData.keyHash w.params (Str.ofString "_CurveFp__b"), .str (Str.ofString "_CurveFp__b") t3, b⟩, ⟨PyData.keyHash w.params (Str.ofString "_CurveFp__h"), .str (Str.ofString "_CurveFp__h") t4, h⟩]
abbrev edE (w : World) (t1 t2 t3 t4 t5 : Tok) (p a d h : Value) : List DictEntry := [⟨PyData.keyHash w.params (Str.ofString "_CurveEdTw__p"), .str (Str.ofString "_CurveEdTw__p") t1, p⟩, ⟨PyData.keyHash w.params (Str.ofString "_CurveEdTw__a"), .str (Str.ofString "_CurveEdTw__a") t2, a⟩,
  ⟨PyData.keyHash w.params (Str.ofString "_CurveEdTw__d"), .str (Str.ofString "_CurveEdTw__d") t3, d⟩, ⟨PyData.keyHash w.params (Str.ofString "_CurveEdTw__h"), .str (Str.ofString "_CurveEdTw__h") t4, h⟩, ⟨PyData.keyHash w.params (Str.ofString "_CurveEdTw__hash_func"), .str (Str.ofString "_CurveEdTw__hash_func") t5, .none⟩]
def RFp (p a b hv : Value) (news : List (Addr × Obj)) (w : World) (h₀ : Heap) (L : Addr) (m : Str → Option Value) (s : Shared) (Q : Value → Shared → Prop) : Prop :=
  ∀ x d t1 t2 t3 t4 h' tk', Fr h₀ L h' m → News h₀ L h' ((x, instObj 81 d) :: (d, dictOf (fpE w t1 t2 t3 t4 p a b hv) 4) :: news) → (∀ p ∈ news, p.1 < d) → d < x → Q (.ref x) { s with heap := h', toks := tk' }
def REd (p a b hv : Value) (news : List (Addr × Obj)) (w : World) (h₀ : Heap) (L : Addr) (m : Str → Option Value) (s : Shared) (Q : Value → Shared → Prop) : Prop :=
  ∀ x d t1 t2 t3 t4 t5 h' tk', Fr h₀ L h' m → News h₀ L h' ((x, instObj 152 d) :: (d, dictOf (edE w t1 t2 t3 t4 t5 p a b hv) 5) :: news) → (∀ p ∈ news, p.1 < d) → d < x → Q (.ref x) { s with heap := h', toks := tk' }
def RV (v : Value) (news : List (Addr × Obj)) (h₀ : Heap) (L : Addr) (m : Str → Option Value) (s : Shared) (Q : Value → Shared → Prop) : Prop :=
  ∀ h' tk', Fr h₀ L h' m → News h₀ L h' news → Q v { s with heap := h', toks := tk' }
theorem c_mkFp3 {news : List (Addr × Obj)} {p a b : Value} :
    Sp PR w (hd.heap_39 w.params) hd.view_39 LO mean mg mb 3 24 (call (.ref 81) [p, a, b]) news (fun _ => True) (RFp p a b .none news w) := by
  (try unfold PR LO); k_fill
  unfold Sp
  intro dp un gd cn cs a ccd cl outer A₀ base h₀ L M s Q E B F X N T hk hd hu hpre hret
  try dsimp only at hpre
  unfold RFp at hret
  k_steps
  exact hret _ _ _ _ _ _ _ _ (by assumption) (by assumption) (by assumption) (by assumption)
theorem c_mkFp4 {news : List (Addr × Obj)} {p a b h : Value} :
    Sp PR w (hd.heap_39 w.params) hd.view_39 LO mean mg mb 3 24 (call (.ref 81) [p, a, b, h]) news (fun _ => True) (RFp p a b h news w) := by
  (try unfold PR LO); k_fill
  unfold Sp
  intro dp un gd cn cs a ccd cl outer A₀ base h₀ L M s Q E B F X N T hk hd hu hpre hret
  try dsimp only at hpre
  unfold RFp at hret
  k_steps
  exact hret _ _ _ _ _ _ _ _ (by assumption) (by assumption) (by assumption) (by assumption)
theorem c_mkEd3 {news : List (Addr × Obj)} {p a b : Value} :
    Sp PR w (hd.heap_39 w.params) hd.view_39 LO mean mg mb 3 24 (call (.ref 152) [p, a, b]) news (fun _ => True) (REd p a b .none news w) := by
  (try unfold PR LO); k_fill
  unfold Sp
  intro dp un gd cn cs a ccd cl outer A₀ base h₀ L M s Q E B F X N T hk hd hu hpre hret
  try dsimp only at hpre
  unfold REd at hret
  k_steps
  exact hret _ _ _ _ _ _ _ _ _ (by assumption) (by assumption) (by assumption) (by assumption)
theorem c_mkEd4 {news : List (Addr × Obj)} {p a b h : Value} :
    Sp PR w (hd.heap_39 w.params) hd.view_39 LO mean mg mb 3 24 (call (.ref 152) [p, a, b, h]) news (fun _ => True) (REd p a b h news w) := by
  (try unfold PR LO); k_fill
  unfold Sp
  intro dp un gd cn cs a ccd cl outer A₀ base h₀ L M s Q E B F X N T hk hd hu hpre hret
  try dsimp only at hpre
  unfold REd at hret
  k_steps
  exact hret _ _ _ _ _ _ _ _ _ (by assumption) (by assumption) (by assumption) (by assumption)
theorem c_fp_p {news : List (Addr × Obj)} {x d : Addr} {t1 t2 t3 t4 : Tok} {p a b h : Value} (hh : handedIn p = true ∧ handedIn a = true ∧ handedIn b = true ∧ handedIn h = true) (m1 : (x, instObj 81 d) ∈ news) (m2 : (d, dictOf (fpE w t1 t2 t3 t4 p a b h) 4) ∈ news) :
    Sp PR w (hd.heap_39 w.params) hd.view_39 LO mean mg mb 1 8 (call (.ref 50) [.ref x]) news (fun _ => True) (RV p news) := by
  (try unfold PR LO); k_fill
  unfold Sp
  intro dp un gd cn cs a ccd cl outer A₀ base h₀ L M s Q E B F X N T hk hd hu hpre hret
  try dsimp only at hpre
  refine wpAny_call ?_
  k_dflt cell_enter
  unfold RV at hret
  obtain ⟨hh1, hh2, hh3, hh4⟩ := hh
  k_steps
  refine hret _ _ ?_ ?_ <;> assumption
theorem c_fp_a {news : List (Addr × Obj)} {x d : Addr} {t1 t2 t3 t4 : Tok} {p a b h : Value} (hh : handedIn p = true ∧ handedIn a = true ∧ handedIn b = true ∧ handedIn h = true) (m1 : (x, instObj 81 d) ∈ news) (m2 : (d, dictOf (fpE w t1 t2 t3 t4 p a b h) 4) ∈ news) :
    Sp PR w (hd.heap_39 w.params) hd.view_39 LO mean mg mb 1 8 (call (.ref 57) [.ref x]) news (fun _ => True) (RV a news) := by
  (try unfold PR LO); k_fill
  unfold Sp
  intro dp un gd cn cs a ccd cl outer A₀ base h₀ L M s Q E B F X N T hk hd hu hpre hret
  try dsimp only at hpre
  refine wpAny_call ?_
  k_dflt cell_enter
  unfold RV at hret
  obtain ⟨hh1, hh2, hh3, hh4⟩ := hh
  k_steps
  refine hret _ _ ?_ ?_ <;> assumption
theorem c_fp_b {news : List (Addr × Obj)} {x d : Addr} {t1 t2 t3 t4 : Tok} {p a b h : Value} (hh : handedIn p = true ∧ handedIn a = true ∧ handedIn b = true ∧ handedIn h = true) (m1 : (x, instObj 81 d) ∈ news) (m2 : (d, dictOf (fpE w t1 t2 t3 t4 p a b h) 4) ∈ news) :
    Sp PR w (hd.heap_39 w.params) hd.view_39 LO mean mg mb 1 8 (call (.ref 64) [.ref x]) news (fun _ => True) (RV b news) := by
  (try unfold PR LO); k_fill
  unfold Sp
  intro dp un gd cn cs a ccd cl outer A₀ base h₀ L M s Q E B F X N T hk hd hu hpre hret
  try dsimp only at hpre
  refine wpAny_call ?_
  k_dflt cell_enter
  unfold RV at hret
  obtain ⟨hh1, hh2, hh3, hh4⟩ := hh
  k_steps
  refine hret _ _ ?_ ?_ <;> assumption
theorem c_fp_h {news : List (Addr × Obj)} {x d : Addr} {t1 t2 t3 t4 : Tok} {p a b h : Value} (hh : handedIn p = true ∧ handedIn a = true ∧ handedIn b = true ∧ handedIn h = true) (m1 : (x, instObj 81 d) ∈ news) (m2 : (d, dictOf (fpE w t1 t2 t3 t4 p a b h) 4) ∈ news) :
    Sp PR w (hd.heap_39 w.params) hd.view_39 LO mean mg mb 1 8 (call (.ref 71) [.ref x]) news (fun _ => True) (RV h news) := by
  (try unfold PR LO); k_fill
  unfold Sp
  intro dp un gd cn cs a ccd cl outer A₀ base h₀ L M s Q E B F X N T hk hd hu hpre hret
  try dsimp only at hpre
  refine wpAny_call ?_
  k_dflt cell_enter
  unfold RV at hret
  obtain ⟨hh1, hh2, hh3, hh4⟩ := hh
  k_steps
  refine hret _ _ ?_ ?_ <;> assumption
theorem c_ed_p {news : List (Addr × Obj)} {x d : Addr} {t1 t2 t3 t4 t5 : Tok} {p a b h : Value} (hh : handedIn p = true ∧ handedIn a = true ∧ handedIn b = true ∧ handedIn h = true) (m1 : (x, instObj 152 d) ∈ news) (m2 : (d, dictOf (edE w t1 t2 t3 t4 t5 p a b h) 5) ∈ news) :
    Sp PR w (hd.heap_39 w.params) hd.view_39 LO mean mg mb 1 8 (call (.ref 128) [.ref x]) news (fun _ => True) (RV p news) := by
  (try unfold PR LO); k_fill
  unfold Sp
  intro dp un gd cn cs a ccd cl outer A₀ base h₀ L M s Q E B F X N T hk hd hu hpre hret
  try dsimp only at hpre
  refine wpAny_call ?_
  k_dflt cell_enter
  unfold RV at hret
  obtain ⟨hh1, hh2, hh3, hh4⟩ := hh
  k_steps
  refine hret _ _ ?_ ?_ <;> assumption
theorem c_ed_a {news : List (Addr × Obj)} {x d : Addr} {t1 t2 t3 t4 t5 : Tok} {p a b h : Value} (hh : handedIn p = true ∧ handedIn a = true ∧ handedIn b = true ∧ handedIn h = true) (m1 : (x, instObj 152 d) ∈ news) (m2 : (d, dictOf (edE w t1 t2 t3 t4 t5 p a b h) 5) ∈ news) :
    Sp PR w (hd.heap_39 w.params) hd.view_39 LO mean mg mb 1 8 (call (.ref 135) [.ref x]) news (fun _ => True) (RV a news) := by
  (try unfold PR LO); k_fill
  unfold Sp
  intro dp un gd cn cs a ccd cl outer A₀ base h₀ L M s Q E B F X N T hk hd hu hpre hret
  try dsimp only at hpre
  refine wpAny_call ?_
  k_dflt cell_enter
  unfold RV at hret
  obtain ⟨hh1, hh2, hh3, hh4⟩ := hh
  k_steps
  refine hret _ _ ?_ ?_ <;> assumption
theorem c_ed_d {news : List (Addr × Obj)} {x d : Addr} {t1 t2 t3 t4 t5 : Tok} {p a b h : Value} (hh : handedIn p = true ∧ handedIn a = true ∧ handedIn b = true ∧ handedIn h = true) (m1 : (x, instObj 152 d) ∈ news) (m2 : (d, dictOf (edE w t1 t2 t3 t4 t5 p a b h) 5) ∈ news) :
    Sp PR w (hd.heap_39 w.params) hd.view_39 LO mean mg mb 1 8 (call (.ref 142) [.ref x]) news (fun _ => True) (RV b news) := by
  (try unfold PR LO); k_fill
  unfold Sp
  intro dp un gd cn cs a ccd cl outer A₀ base h₀ L M s Q E B F X N T hk hd hu hpre hret
  try dsimp only at hpre
  refine wpAny_call ?_
  k_dflt cell_enter
  unfold RV at hret
  obtain ⟨hh1, hh2, hh3, hh4⟩ := hh
  k_steps
  refine hret _ _ ?_ ?_ <;> assumption
theorem c_ed_h {news : List (Addr × Obj)} {x d : Addr} {t1 t2 t3 t4 t5 : Tok} {p a b h : Value} (hh : handedIn p = true ∧ handedIn a = true ∧ handedIn b = true ∧ handedIn h = true) (m1 : (x, instObj 152 d) ∈ news) (m2 : (d, dictOf (edE w t1 t2 t3 t4 t5 p a b h) 5) ∈ news) :
    Sp PR w (hd.heap_39 w.params) hd.view_39 LO mean mg mb 1 8 (call (.ref 149) [.ref x]) news (fun _ => True) (RV h news) := by
  (try unfold PR LO); k_fill
  unfold Sp
  intro dp un gd cn cs a ccd cl outer A₀ base h₀ L M s Q E B F X N T hk hd hu hpre hret
  try dsimp only at hpre
  refine wpAny_call ?_
  k_dflt cell_enter
  unfold RV at hret
  obtain ⟨hh1, hh2, hh3, hh4⟩ := hh
  k_steps
  refine hret _ _ ?_ ?_ <;> assumption
theorem c_fp_on {news : List (Addr × Obj)} {x d : Addr} {t1 t2 t3 t4 t5 t6 t7 t8 t9 : Tok} {p a b X Y : Int} {h : Value} (m1 : (x, instObj 81 d) ∈ news) (m2 : (d, dictOf (fpE w t1 t2 t3 t4 (.int p t5) (.int a t6) (.int b t7) h) 4) ∈ news) (h0 : 0 < p) (h1 : p < 1000) (ha : Builtin.Int.intBits a ≤ 1100000) (hb : Builtin.Int.intBits b ≤ 1100000) (hX : Builtin.Int.intBits X ≤ 1100000) (hY : Builtin.Int.intBits Y ≤ 1100000) :
    Sp PR w (hd.heap_39 w.params) hd.view_39 LO mean mg mb 1 8 (call (.ref 78) [.ref x, .int X t8, .int Y t9]) news (fun _ => True) (RBool ((Y * Y - ((X * X + a) * X + b)).fmod p == 0) news) := by
  (try unfold PR LO); k_fill
  unfold Sp
  intro dp un gd cn cs a ccd cl outer A₀ base h₀ L M s Q E B F X N T hk hd hu hpre hret
  try dsimp only at hpre
  refine wpAny_call ?_
  k_dflt cell_enter
  unfold RBool at hret
  k_steps
  refine hret _ _ ?_ ?_ <;> assumption
theorem c_ed_on {news : List (Addr × Obj)} {x d : Addr} {t1 t2 t3 t4 t0 t5 t6 t7 t8 t9 : Tok} {p a b X Y : Int} {h : Value} (m1 : (x, instObj 152 d) ∈ news) (m2 : (d, dictOf (edE w t1 t2 t3 t4 t0 (.int p t5) (.int a t6) (.int b t7) h) 5) ∈ news) (h0 : 0 < p) (h1 : p < 1000) (ha : Builtin.Int.intBits a ≤ 1100000) (hb : Builtin.Int.intBits b ≤ 1100000) (hX : Builtin.Int.intBits X ≤ 1100000) (hY : Builtin.Int.intBits Y ≤ 1100000) :
    Sp PR w (hd.heap_39 w.params) hd.view_39 LO mean mg mb 1 8 (call (.ref 121) [.ref x, .int X t8, .int Y t9]) news (fun _ => True) (RBool ((a * X * X + Y * Y - 1 - b * X * X * Y * Y).fmod p == 0) news) := by
  (try unfold PR LO); k_fill
  unfold Sp
  intro dp un gd cn cs a ccd cl outer A₀ base h₀ L M s Q E B F X N T hk hd hu hpre hret
  try dsimp only at hpre
  refine wpAny_call ?_
  k_dflt cell_enter
  unfold RBool at hret
  k_steps
  refine hret _ _ ?_ ?_ <;> assumption
end Mine

-- Cmp
namespace Mine
theorem int_eq_inst {M : Model} {A : Around} {E : Value → Shared → Prop} {s : Shared} {Q : Fin → Shared → Prop} {x : Addr} {ox : Obj} {k : Int} {t : Tok} (ho : s.heap.get? x = some ox) (hd : ox.data = .plain) (h : Q (.done (.ret .notImplemented)) s) :
    wpAny M A (Builtin.«int.__eq__» ⟨[.int k t, .ref x], []⟩) Q E s := by
  show wpAny M A (Builtin.Int.intBinary "__eq__" (fun x y => ret (.bool (x == y))) false ⟨[.int k t, .ref x], []⟩) Q E s
  unfold Builtin.Int.intBinary
  refine wpAny_bind ?_
  show wpAny M A (pure (Value.int k t, [Value.ref x])) _ E s
  refine wpAny_pure ?_
  dsimp only
  refine wpAny_bind ?_
  show wpAny M A (pure k) _ E s
  refine wpAny_pure ?_
  refine wpAny_bind ?_
  show wpAny M A (do
      match (← load x).data with
      | .prim (.int i _) => pure (some i)
      | _ => pure none) _ E s
  refine wpAny_bind (wpAny_load ho ?_)
  rw [hd]
  refine wpAny_pure ?_
  dsimp only
  refine wpAny_bind (wpAny_rule ?_)
  exact wpAny_pure h
section
variable {prog : Program} {w : World} {A : Around} {E : Value → Shared → Prop} {s : Shared} {h₀ : Heap} {L : Addr} {m : Str → Option Value} {K : Frag} {x y C C' f f' : Addr} {ox oy : Obj} {od od' : Option Obj} {Q : Value → Shared → Prop}
theorem try_declined (X : K.In s.heap) (I : InstAt s.heap x ox C od) (hs : findIn K (.ref C) (Str.ofString "__eq__") = some (some (.ref f))) (hf : isFn K (.ref f) = true) {b : Value} {Q : Option Value → Shared → Prop}
    (h : wpAny (model prog w) A (call (.ref f) [.ref x, b]) (fun v s' => v = .notImplemented ∧ Q none s') E s) : wpAny (model prog w) A (tryCompare (.ref x) (Str.ofString "__eq__") b) Q E s := by
  unfold tryCompare
  refine wpAny_bind (ifBound_K X I hs hf (wpAny_mono h (fun v s' hv => ?_) fun _ _ e => e))
  obtain ⟨rfl, hq⟩ := hv
  exact wpAny_pure hq
theorem eq_inst_int {k : Int} {t : Tok} (hu : A.units < cLine) (F : Fr h₀ L s.heap m) (X₀ : K.In h₀) (I : InstAt s.heap x ox C od) (hn : notFirst K C (.type "int") = true)
    (hs : findIn K (.ref C) (Str.ofString "__eq__") = some (some (.ref f))) (hf : isFn K (.ref f) = true) (hd : ox.data = .plain)
    (h : wpAny (model prog w) A (call (.ref f) [.ref x, .int k t]) (fun v s' => v = .notImplemented ∧ s'.heap.get? x = some ox ∧ Q (.bool false) s') E s) : wpAny (model prog w) A (compareOp .Eq (.ref x) (.int k t)) Q E s := by
  show wpAny (model prog w) A (richCompare .Eq (.ref x) (.int k t)) Q E s
  have X := X₀.keeps F.keep
  unfold richCompare
  simp only [oneThing_ref]
  refine wpAny_holding (wpAny_bind (wpAny_cRoomFor hu ?_))
  have hb : Looks (model prog w) s.heap (typeOf (.int k t)) (.type "int") := Looks.of_pure rfl
  have fin : wpAny (model prog w) A (tryCompare (.ref x) (Str.ofString "__eq__") (.int k t)) (fun r s' => r = none ∧ wpAny (model prog w) A (tryCompare (.int k t) (Str.ofString "__eq__") (.ref x)) (fun r s'' => r = none ∧ Q (.bool false) s'') E s') E s := by
    refine try_declined X I hs hf (wpAny_mono h (fun v s' hv => ⟨hv.1, rfl, ?_⟩) fun _ _ e => e)
    obtain ⟨_, ho, hq⟩ := hv
    refine wpAny_tryCompare_declines (id := "int.__eq__") (typeIs_int s' k t) PySem.F.slot_int_eq_refl ?_
    refine wpAny_call (codeAny_call_builtin PySem.F.slot_int_eq_refl.plain PySem.F.entry_int_eq (PySem.F.slot_int_eq_refl.check _ _ _ _ _ _ _ _ (typeIs_int s' k t) (PySem.F.args_int_eq_2 _ _) ?_))
    exact int_eq_inst ho hd ⟨rfl, rfl, hq⟩
  refine wpAny_bind (I.type.here (wpAny_bind (hb.here ?_)))
  split
  · rename_i q
    have e : subIn K (.type "int") (.ref C) = some false := by
      rcases Bool.or_eq_true_iff.mp hn with e | e
      · exact absurd (beq_iff_eq.mp e) (by simp)
      · exact beq_iff_eq.mp e
    refine wpAny_bind ((looks_subIn X e).here ?_)
    simp only [Bool.false_eq_true, if_false]
    refine wpAny_bind (wpAny_mono fin (fun r s' z => ?_) fun _ _ e => e)
    obtain ⟨rfl, z⟩ := z
    dsimp only
    simp only [Bool.not_false, if_true]
    refine wpAny_bind (wpAny_mono z (fun r s'' z' => ?_) fun _ _ e => e)
    obtain ⟨rfl, hq⟩ := z'
    dsimp only
    exact wpAny_bind (wpAny_rule (wpAny_bind (wpAny_pure (wpAny_pure hq))))
  · rename_i q
    exact absurd (by rfl : (Value.ref C != Value.type "int") = true) q
theorem eq_inst_inst (hu : A.units < cLine) (F : Fr h₀ L s.heap m) (X₀ : K.In h₀) (I : InstAt s.heap x ox C od) (I' : InstAt s.heap y oy C' od') (hn : notFirst K C (.ref C') = true) (hC : C ≠ C') (hxy : x ≠ y)
    (hs : findIn K (.ref C) (Str.ofString "__eq__") = some (some (.ref f))) (hf : isFn K (.ref f) = true) (hs' : findIn K (.ref C') (Str.ofString "__eq__") = some (some (.ref f'))) (hf' : isFn K (.ref f') = true)
    (h : wpAny (model prog w) A (call (.ref f) [.ref x, .ref y]) (fun v s' => v = .notImplemented ∧ K.In s'.heap ∧ InstAt s'.heap y oy C' od' ∧
      wpAny (model prog w) A (call (.ref f') [.ref y, .ref x]) (fun v s'' => v = .notImplemented ∧ InstAt s''.heap x ox C od ∧ InstAt s''.heap y oy C' od' ∧ Q (.bool false) s'') E s') E s) : wpAny (model prog w) A (compareOp .Eq (.ref x) (.ref y)) Q E s := by
  show wpAny (model prog w) A (richCompare .Eq (.ref x) (.ref y)) Q E s
  have X := X₀.keeps F.keep
  unfold richCompare
  simp only [oneThing_ref]
  refine wpAny_holding (wpAny_bind (wpAny_cRoomFor hu ?_))
  have fin : wpAny (model prog w) A (tryCompare (.ref x) (Str.ofString "__eq__") (.ref y)) (fun r s' => r = none ∧ wpAny (model prog w) A (tryCompare (.ref y) (Str.ofString "__eq__") (.ref x)) (fun r s'' => r = none ∧ InstAt s''.heap x ox C od ∧ InstAt s''.heap y oy C' od' ∧ Q (.bool false) s'') E s') E s := by
    refine try_declined X I hs hf (wpAny_mono h (fun v s' hv => ⟨hv.1, rfl, ?_⟩) fun _ _ e => e)
    obtain ⟨_, X', I2, hq⟩ := hv
    exact try_declined X' I2 hs' hf' (wpAny_mono hq (fun v s'' hv => ⟨hv.1, rfl, hv.2⟩) fun _ _ e => e)
  refine wpAny_bind (I.type.here (wpAny_bind (I'.type.here ?_)))
  split
  · rename_i q
    have e : subIn K (.ref C') (.ref C) = some false := by
      rcases Bool.or_eq_true_iff.mp hn with e | e
      · have := beq_iff_eq.mp e; simp only [Value.ref.injEq] at this; exact absurd this.symm hC
      · exact beq_iff_eq.mp e
    refine wpAny_bind ((looks_subIn X e).here ?_)
    simp only [Bool.false_eq_true, if_false]
    refine wpAny_bind (wpAny_mono fin (fun r s' z => ?_) fun _ _ e => e)
    obtain ⟨rfl, z⟩ := z
    dsimp only
    simp only [Bool.not_false, if_true]
    refine wpAny_bind (wpAny_mono z (fun r s'' z' => ?_) fun _ _ e => e)
    obtain ⟨rfl, J, J', hq⟩ := z'
    dsimp only
    refine wpAny_bind (wpAny_rule (wpAny_bind ?_))
    unfold isSame
    dsimp only
    rw [if_neg (by simpa using hxy)]
    refine wpAny_bind (wpAny_load J.at_ (wpAny_bind (wpAny_load J'.at_ ?_)))
    rw [J.cls, J'.cls]
    exact wpAny_pure (wpAny_pure hq)
  · rename_i q
    have : Value.ref C = Value.ref C' := by simpa using q
    simp only [Value.ref.injEq] at this
    exact absurd this hC
end
end Mine

-- L01d
namespace Mine
local macro_rules | `(tactic| k_room) => `(tactic| ktr_room)
local macro_rules | `(tactic| k_units) => `(tactic| ktr_units)
local macro_rules | `(tactic| bits_by_make) => `(tactic| with_reducible assumption)
local macro_rules | `(tactic| k_handed) => `(tactic| with_reducible assumption)
local macro_rules | `(tactic| k_enter) => `(tactic| (
  refine' code_def ?k1 ?k2 ?k3 ?k4 ?k5 ?kA ?kF ?kK ?k6 ?k7 ?k8 ?k9 ?kB ?_ ?c2 ?c3 ?c4 ?c5; (case kA => exact rfl); (case kF => exact rfl); (case kK => first | exact rfl | assumption); (case k1 => k_asm); (case k2 => k_asm); (case k3 => k_asm); (case k4 => k_asm); (case k5 => k_asm); (case k6 => k_is); (case k7 => k_is); (case k8 => k_room)
  (case k9 => first | exact BindsTo.of_eq rfl | exact binds_K (by k_in) rfl (by k_is) rfl rfl rfl); (case c5 => decide); (case kB => exact locs rfl); (case c2 => exact rfl); (case c3 => exact rfl); (case c4 => exact rfl); k_whole; intro g' L' h' FG' F' N' B' X' T'; (try dsimp only); (try k_lift B'); (try k_fold)))
variable {w : World} {mean : ExcName → Option Value} {mg mb : Str → Option Value}
def ceq (p a b p' a' b' : Int) : Bool := p == p' && (a.fmod p == a'.fmod p && b.fmod p == b'.fmod p)
theorem c_fp_eq {news : List (Addr × Obj)} {x1 d1 : Addr} {q1 r1 s1 u1 v1 w1 z1 : Tok} {p1 a1 b1 : Int} {h1 : Value} (m1 : (x1, instObj 81 d1) ∈ news) (n1 : (d1, dictOf (fpE w q1 r1 s1 u1 (.int p1 v1) (.int a1 w1) (.int b1 z1) h1) 4) ∈ news) {x2 d2 : Addr} {q2 r2 s2 u2 v2 w2 z2 : Tok} {p2 a2 b2 : Int} {h2 : Value} (m2 : (x2, instObj 81 d2) ∈ news) (n2 : (d2, dictOf (fpE w q2 r2 s2 u2 (.int p2 v2) (.int a2 w2) (.int b2 z2) h2) 4) ∈ news) (hp : 0 < p1) :
    Sp PR w (hd.heap_39 w.params) hd.view_39 LO mean mg mb 3 40 (compareOp .Eq (.ref x1) (.ref x2)) news (fun _ => True) (RBool (ceq p1 a1 b1 p2 a2 b2) news) := by
  (try unfold PR LO); k_fill
  unfold Sp
  intro dp un gd cn cs a ccd cl outer A₀ base h₀ L M s Q E B F X N T hk hd hu hpre hret
  try dsimp only at hpre
  unfold RBool ceq at hret
  k_steps
  all_goals (refine cb_retB (fun _ => hret) ?_ (by assumption) (by assumption); simp_all)
theorem c_fp_ne {news : List (Addr × Obj)} {x1 d1 : Addr} {q1 r1 s1 u1 v1 w1 z1 : Tok} {p1 a1 b1 : Int} {h1 : Value} (m1 : (x1, instObj 81 d1) ∈ news) (n1 : (d1, dictOf (fpE w q1 r1 s1 u1 (.int p1 v1) (.int a1 w1) (.int b1 z1) h1) 4) ∈ news) {x2 d2 : Addr} {q2 r2 s2 u2 v2 w2 z2 : Tok} {p2 a2 b2 : Int} {h2 : Value} (m2 : (x2, instObj 81 d2) ∈ news) (n2 : (d2, dictOf (fpE w q2 r2 s2 u2 (.int p2 v2) (.int a2 w2) (.int b2 z2) h2) 4) ∈ news) (hp : 0 < p1) :
    Sp PR w (hd.heap_39 w.params) hd.view_39 LO mean mg mb 4 60 (compareOp .NotEq (.ref x1) (.ref x2)) news (fun _ => True) (RBool (!ceq p1 a1 b1 p2 a2 b2) news) := by
  (try unfold PR LO); k_fill
  unfold Sp
  intro dp un gd cn cs a ccd cl outer A₀ base h₀ L M s Q E B F X N T hk hd hu hpre hret
  try dsimp only at hpre
  unfold RBool ceq at hret
  k_steps
  all_goals (refine cb_retB (fun _ => hret) ?_ (by assumption) (by assumption); simp_all)
theorem c_fp_dec {news : List (Addr × Obj)} {x1 d1 : Addr} {q1 r1 s1 u1 v1 w1 z1 : Tok} {p1 a1 b1 : Int} {h1 : Value} (m1 : (x1, instObj 81 d1) ∈ news) (n1 : (d1, dictOf (fpE w q1 r1 s1 u1 (.int p1 v1) (.int a1 w1) (.int b1 z1) h1) 4) ∈ news) {x2 d2 : Addr} {q2 r2 s2 u2 v2 w2 z2 o2 : Tok} {p2 a2 b2 : Int} {h2 : Value} (m2 : (x2, instObj 152 d2) ∈ news) (n2 : (d2, dictOf (edE w q2 r2 s2 u2 o2 (.int p2 v2) (.int a2 w2) (.int b2 z2) h2) 5) ∈ news) :
    Sp PR w (hd.heap_39 w.params) hd.view_39 LO mean mg mb 2 30 (call (.ref 36) [.ref x1, .ref x2]) news (fun _ => True) (RV .notImplemented news) := by
  (try unfold PR LO); k_fill
  unfold Sp
  intro dp un gd cn cs a ccd cl outer A₀ base h₀ L M s Q E B F X N T hk hd hu hpre hret
  try dsimp only at hpre
  refine wpAny_call ?_
  k_dflt cell_enter
  unfold RV at hret
  k_steps
  refine hret _ _ ?_ ?_ <;> assumption
theorem c_fp_decI {news : List (Addr × Obj)} {x1 d1 : Addr} {q1 r1 s1 u1 v1 w1 z1 : Tok} {p1 a1 b1 : Int} {h1 : Value} (m1 : (x1, instObj 81 d1) ∈ news) (n1 : (d1, dictOf (fpE w q1 r1 s1 u1 (.int p1 v1) (.int a1 w1) (.int b1 z1) h1) 4) ∈ news) {k : Int} {t : Tok} :
    Sp PR w (hd.heap_39 w.params) hd.view_39 LO mean mg mb 2 30 (call (.ref 36) [.ref x1, .int k t]) news (fun _ => True) (RV .notImplemented news) := by
  (try unfold PR LO); k_fill
  unfold Sp
  intro dp un gd cn cs a ccd cl outer A₀ base h₀ L M s Q E B F X N T hk hd hu hpre hret
  try dsimp only at hpre
  refine wpAny_call ?_
  k_dflt cell_enter
  unfold RV at hret
  k_steps
  refine hret _ _ ?_ ?_ <;> assumption
theorem c_ed_eq {news : List (Addr × Obj)} {x1 d1 : Addr} {q1 r1 s1 u1 v1 w1 z1 o1 : Tok} {p1 a1 b1 : Int} {h1 : Value} (m1 : (x1, instObj 152 d1) ∈ news) (n1 : (d1, dictOf (edE w q1 r1 s1 u1 o1 (.int p1 v1) (.int a1 w1) (.int b1 z1) h1) 5) ∈ news) {x2 d2 : Addr} {q2 r2 s2 u2 v2 w2 z2 o2 : Tok} {p2 a2 b2 : Int} {h2 : Value} (m2 : (x2, instObj 152 d2) ∈ news) (n2 : (d2, dictOf (edE w q2 r2 s2 u2 o2 (.int p2 v2) (.int a2 w2) (.int b2 z2) h2) 5) ∈ news) (hp : 0 < p1) :
    Sp PR w (hd.heap_39 w.params) hd.view_39 LO mean mg mb 3 40 (compareOp .Eq (.ref x1) (.ref x2)) news (fun _ => True) (RBool (ceq p1 a1 b1 p2 a2 b2) news) := by
  (try unfold PR LO); k_fill
  unfold Sp
  intro dp un gd cn cs a ccd cl outer A₀ base h₀ L M s Q E B F X N T hk hd hu hpre hret
  try dsimp only at hpre
  unfold RBool ceq at hret
  k_steps
  all_goals (refine cb_retB (fun _ => hret) ?_ (by assumption) (by assumption); simp_all)
theorem c_ed_ne {news : List (Addr × Obj)} {x1 d1 : Addr} {q1 r1 s1 u1 v1 w1 z1 o1 : Tok} {p1 a1 b1 : Int} {h1 : Value} (m1 : (x1, instObj 152 d1) ∈ news) (n1 : (d1, dictOf (edE w q1 r1 s1 u1 o1 (.int p1 v1) (.int a1 w1) (.int b1 z1) h1) 5) ∈ news) {x2 d2 : Addr} {q2 r2 s2 u2 v2 w2 z2 o2 : Tok} {p2 a2 b2 : Int} {h2 : Value} (m2 : (x2, instObj 152 d2) ∈ news) (n2 : (d2, dictOf (edE w q2 r2 s2 u2 o2 (.int p2 v2) (.int a2 w2) (.int b2 z2) h2) 5) ∈ news) (hp : 0 < p1) :
    Sp PR w (hd.heap_39 w.params) hd.view_39 LO mean mg mb 4 60 (compareOp .NotEq (.ref x1) (.ref x2)) news (fun _ => True) (RBool (!ceq p1 a1 b1 p2 a2 b2) news) := by
  (try unfold PR LO); k_fill
  unfold Sp
  intro dp un gd cn cs a ccd cl outer A₀ base h₀ L M s Q E B F X N T hk hd hu hpre hret
  try dsimp only at hpre
  unfold RBool ceq at hret
  k_steps
  all_goals (refine cb_retB (fun _ => hret) ?_ (by assumption) (by assumption); simp_all)
theorem c_ed_dec {news : List (Addr × Obj)} {x1 d1 : Addr} {q1 r1 s1 u1 v1 w1 z1 o1 : Tok} {p1 a1 b1 : Int} {h1 : Value} (m1 : (x1, instObj 152 d1) ∈ news) (n1 : (d1, dictOf (edE w q1 r1 s1 u1 o1 (.int p1 v1) (.int a1 w1) (.int b1 z1) h1) 5) ∈ news) {x2 d2 : Addr} {q2 r2 s2 u2 v2 w2 z2 : Tok} {p2 a2 b2 : Int} {h2 : Value} (m2 : (x2, instObj 81 d2) ∈ news) (n2 : (d2, dictOf (fpE w q2 r2 s2 u2 (.int p2 v2) (.int a2 w2) (.int b2 z2) h2) 4) ∈ news) :
    Sp PR w (hd.heap_39 w.params) hd.view_39 LO mean mg mb 2 30 (call (.ref 107) [.ref x1, .ref x2]) news (fun _ => True) (RV .notImplemented news) := by
  (try unfold PR LO); k_fill
  unfold Sp
  intro dp un gd cn cs a ccd cl outer A₀ base h₀ L M s Q E B F X N T hk hd hu hpre hret
  try dsimp only at hpre
  refine wpAny_call ?_
  k_dflt cell_enter
  unfold RV at hret
  k_steps
  refine hret _ _ ?_ ?_ <;> assumption
theorem c_ed_decI {news : List (Addr × Obj)} {x1 d1 : Addr} {q1 r1 s1 u1 v1 w1 z1 o1 : Tok} {p1 a1 b1 : Int} {h1 : Value} (m1 : (x1, instObj 152 d1) ∈ news) (n1 : (d1, dictOf (edE w q1 r1 s1 u1 o1 (.int p1 v1) (.int a1 w1) (.int b1 z1) h1) 5) ∈ news) {k : Int} {t : Tok} :
    Sp PR w (hd.heap_39 w.params) hd.view_39 LO mean mg mb 2 30 (call (.ref 107) [.ref x1, .int k t]) news (fun _ => True) (RV .notImplemented news) := by
  (try unfold PR LO); k_fill
  unfold Sp
  intro dp un gd cn cs a ccd cl outer A₀ base h₀ L M s Q E B F X N T hk hd hu hpre hret
  try dsimp only at hpre
  refine wpAny_call ?_
  k_dflt cell_enter
  unfold RV at hret
  k_steps
  refine hret _ _ ?_ ?_ <;> assumption
theorem c_fp_ed {news : List (Addr × Obj)} {x1 d1 : Addr} {q1 r1 s1 u1 v1 w1 z1 : Tok} {p1 a1 b1 : Int} {h1 : Value} (m1 : (x1, instObj 81 d1) ∈ news) (n1 : (d1, dictOf (fpE w q1 r1 s1 u1 (.int p1 v1) (.int a1 w1) (.int b1 z1) h1) 4) ∈ news) {x2 d2 : Addr} {q2 r2 s2 u2 v2 w2 z2 o2 : Tok} {p2 a2 b2 : Int} {h2 : Value} (m2 : (x2, instObj 152 d2) ∈ news) (n2 : (d2, dictOf (edE w q2 r2 s2 u2 o2 (.int p2 v2) (.int a2 w2) (.int b2 z2) h2) 5) ∈ news) (hx : x1 ≠ x2) :
    Sp PR w (hd.heap_39 w.params) hd.view_39 LO mean mg mb 3 40 (compareOp .Eq (.ref x1) (.ref x2)) news (fun _ => True) (RBool false news) := by
  (try unfold PR LO); k_fill
  unfold Sp
  intro dp un gd cn cs a ccd cl outer A₀ base h₀ L M s Q E B F X N T hk hd hu hpre hret
  try dsimp only at hpre
  unfold RBool at hret
  k_dflt (refine' eq_inst_inst (C := 81) (C' := 152) ?k1 F X (InstAt.of_news N m1 n1) (InstAt.of_news N m2 n2) ?k2 (by decide) hx ?k3 ?k4 ?k5 ?k6 ?_)
  (case k1 => k_units); (case k2 => k_is); (case k3 => k_is); (case k4 => k_is); (case k5 => k_is); (case k6 => k_is)
  refine Sp.use (c_fp_dec m1 n1 m2 n2) B F X N T hk (by omega) (by omega) trivial ?_
  intro h' tk' F' N'
  refine ⟨rfl, X.keeps F'.keep, InstAt.of_news N' m2 n2, ?_⟩
  refine Sp.use (c_ed_dec m2 n2 m1 n1) B F' X N' T hk (by omega) (by omega) trivial ?_
  intro h'' tk'' F'' N''
  exact ⟨rfl, InstAt.of_news N'' m1 n1, InstAt.of_news N'' m2 n2, hret _ _ F'' N''⟩
theorem c_fp_int {news : List (Addr × Obj)} {x1 d1 : Addr} {q1 r1 s1 u1 v1 w1 z1 : Tok} {p1 a1 b1 : Int} {h1 : Value} (m1 : (x1, instObj 81 d1) ∈ news) (n1 : (d1, dictOf (fpE w q1 r1 s1 u1 (.int p1 v1) (.int a1 w1) (.int b1 z1) h1) 4) ∈ news) {k : Int} {t : Tok} :
    Sp PR w (hd.heap_39 w.params) hd.view_39 LO mean mg mb 3 40 (compareOp .Eq (.ref x1) (.int k t)) news (fun _ => True) (RBool false news) := by
  (try unfold PR LO); k_fill
  unfold Sp
  intro dp un gd cn cs a ccd cl outer A₀ base h₀ L M s Q E B F X N T hk hd hu hpre hret
  try dsimp only at hpre
  unfold RBool at hret
  k_dflt (refine' eq_inst_int (C := 81) ?k1 F X (InstAt.of_news N m1 n1) ?k2 ?k3 ?k4 rfl ?_)
  (case k1 => k_units); (case k2 => k_is); (case k3 => k_is); (case k4 => k_is)
  refine Sp.use (c_fp_decI m1 n1) B F X N T hk (by omega) (by omega) trivial ?_
  intro h' tk' F' N'
  exact ⟨rfl, (N' _ m1).1, hret _ _ F' N'⟩
theorem c_ed_fp {news : List (Addr × Obj)} {x1 d1 : Addr} {q1 r1 s1 u1 v1 w1 z1 o1 : Tok} {p1 a1 b1 : Int} {h1 : Value} (m1 : (x1, instObj 152 d1) ∈ news) (n1 : (d1, dictOf (edE w q1 r1 s1 u1 o1 (.int p1 v1) (.int a1 w1) (.int b1 z1) h1) 5) ∈ news) {x2 d2 : Addr} {q2 r2 s2 u2 v2 w2 z2 : Tok} {p2 a2 b2 : Int} {h2 : Value} (m2 : (x2, instObj 81 d2) ∈ news) (n2 : (d2, dictOf (fpE w q2 r2 s2 u2 (.int p2 v2) (.int a2 w2) (.int b2 z2) h2) 4) ∈ news) (hx : x1 ≠ x2) :
    Sp PR w (hd.heap_39 w.params) hd.view_39 LO mean mg mb 3 40 (compareOp .Eq (.ref x1) (.ref x2)) news (fun _ => True) (RBool false news) := by
  (try unfold PR LO); k_fill
  unfold Sp
  intro dp un gd cn cs a ccd cl outer A₀ base h₀ L M s Q E B F X N T hk hd hu hpre hret
  try dsimp only at hpre
  unfold RBool at hret
  k_dflt (refine' eq_inst_inst (C := 152) (C' := 81) ?k1 F X (InstAt.of_news N m1 n1) (InstAt.of_news N m2 n2) ?k2 (by decide) hx ?k3 ?k4 ?k5 ?k6 ?_)
  (case k1 => k_units); (case k2 => k_is); (case k3 => k_is); (case k4 => k_is); (case k5 => k_is); (case k6 => k_is)
  refine Sp.use (c_ed_dec m1 n1 m2 n2) B F X N T hk (by omega) (by omega) trivial ?_
  intro h' tk' F' N'
  refine ⟨rfl, X.keeps F'.keep, InstAt.of_news N' m2 n2, ?_⟩
  refine Sp.use (c_fp_dec m2 n2 m1 n1) B F' X N' T hk (by omega) (by omega) trivial ?_
  intro h'' tk'' F'' N''
  exact ⟨rfl, InstAt.of_news N'' m1 n1, InstAt.of_news N'' m2 n2, hret _ _ F'' N''⟩
theorem c_ed_int {news : List (Addr × Obj)} {x1 d1 : Addr} {q1 r1 s1 u1 v1 w1 z1 o1 : Tok} {p1 a1 b1 : Int} {h1 : Value} (m1 : (x1, instObj 152 d1) ∈ news) (n1 : (d1, dictOf (edE w q1 r1 s1 u1 o1 (.int p1 v1) (.int a1 w1) (.int b1 z1) h1) 5) ∈ news) {k : Int} {t : Tok} :
    Sp PR w (hd.heap_39 w.params) hd.view_39 LO mean mg mb 3 40 (compareOp .Eq (.ref x1) (.int k t)) news (fun _ => True) (RBool false news) := by
  (try unfold PR LO); k_fill
  unfold Sp
  intro dp un gd cn cs a ccd cl outer A₀ base h₀ L M s Q E B F X N T hk hd hu hpre hret
  try dsimp only at hpre
  unfold RBool at hret
  k_dflt (refine' eq_inst_int (C := 152) ?k1 F X (InstAt.of_news N m1 n1) ?k2 ?k3 ?k4 rfl ?_)
  (case k1 => k_units); (case k2 => k_is); (case k3 => k_is); (case k4 => k_is)
  refine Sp.use (c_ed_decI m1 n1) B F X N T hk (by omega) (by omega) trivial ?_
  intro h' tk' F' N'
  exact ⟨rfl, (N' _ m1).1, hret _ _ F' N'⟩
local macro_rules | `(tactic| walk_at "use") => `(tactic| (
  (case k1 => k_asm); (case k2 => k_asm); (case k3 => k_asm); (case k4 => k_asm); (case k5 => k_asm); (case k6 => first | rfl | assumption); (case k7 => ktr_room); (case k8 => ktr_units); (case k9 => first | trivial | k_asm)))
local macro_rules | `(tactic| walk_at "compareOp Eq ref int") => `(tactic| (
  k_here
  k_dflt (refine' Sp.use (c_fp_int ?q1 ?q2) ?k1 ?k2 ?k3 ?k4 ?k5 ?k6 ?k7 ?k8 ?k9 ?_; walk_at "use"; (case q1 => k_mem); (case q2 => k_mem); unfold RBool; intro h9 tk9 F9 N9; (try dsimp only); (try k_sweep); (try k_fold))))
theorem c_fp_neI {news : List (Addr × Obj)} {x1 d1 : Addr} {q1 r1 s1 u1 v1 w1 z1 : Tok} {p1 a1 b1 : Int} {h1 : Value} (m1 : (x1, instObj 81 d1) ∈ news) (n1 : (d1, dictOf (fpE w q1 r1 s1 u1 (.int p1 v1) (.int a1 w1) (.int b1 z1) h1) 4) ∈ news) {k : Int} {t : Tok} :
    Sp PR w (hd.heap_39 w.params) hd.view_39 LO mean mg mb 5 80 (compareOp .NotEq (.ref x1) (.int k t)) news (fun _ => True) (RBool true news) := by
  (try unfold PR LO); k_fill
  unfold Sp
  intro dp un gd cn cs a ccd cl outer A₀ base h₀ L M s Q E B F X N T hk hd hu hpre hret
  try dsimp only at hpre
  unfold RBool at hret
  k_steps
  refine hret _ _ ?_ ?_ <;> assumption
local macro_rules | `(tactic| walk_at "compareOp Eq ref int") => `(tactic| (
  k_here
  k_dflt (refine' Sp.use (c_ed_int ?q1 ?q2) ?k1 ?k2 ?k3 ?k4 ?k5 ?k6 ?k7 ?k8 ?k9 ?_; walk_at "use"; (case q1 => k_mem); (case q2 => k_mem); unfold RBool; intro h9 tk9 F9 N9; (try dsimp only); (try k_sweep); (try k_fold))))
theorem c_ed_neI {news : List (Addr × Obj)} {x1 d1 : Addr} {q1 r1 s1 u1 v1 w1 z1 o1 : Tok} {p1 a1 b1 : Int} {h1 : Value} (m1 : (x1, instObj 152 d1) ∈ news) (n1 : (d1, dictOf (edE w q1 r1 s1 u1 o1 (.int p1 v1) (.int a1 w1) (.int b1 z1) h1) 5) ∈ news) {k : Int} {t : Tok} :
    Sp PR w (hd.heap_39 w.params) hd.view_39 LO mean mg mb 5 80 (compareOp .NotEq (.ref x1) (.int k t)) news (fun _ => True) (RBool true news) := by
  (try unfold PR LO); k_fill
  unfold Sp
  intro dp un gd cn cs a ccd cl outer A₀ base h₀ L M s Q E B F X N T hk hd hu hpre hret
  try dsimp only at hpre
  unfold RBool at hret
  k_steps
  refine hret _ _ ?_ ?_ <;> assumption
end Mine

-- L01e
namespace Mine
theorem fmod_shift {A B p : Int} (k : Int) (h : A = B + p * k) : A.fmod p = B.fmod p := by
  subst h; exact Int.add_mul_fmod_self_left _ _ _
theorem on_shift_fp {x y a b p q sh : Int} (hq : sh = q * p) : ((y - sh) * (y - sh) - (((x + sh) * (x + sh) + a) * (x + sh) + b)).fmod p = (y * y - x * x * x - a * x - b).fmod p := by
  refine fmod_shift (-2 * y * q + q * q * p - 3 * x * x * q - 3 * x * q * q * p - q * q * q * p * p - a * q) ?_
  subst hq; grind
theorem on_shift_ed {x y a b p q sh : Int} (hq : sh = q * p) : (a * (x - sh) * (x - sh) + (y + sh) * (y + sh) - 1 - b * (x - sh) * (x - sh) * (y + sh) * (y + sh)).fmod p = (a * x * x + y * y - 1 - b * x * x * y * y).fmod p := by
  refine fmod_shift (a * (-2 * x * q + q * q * p) + (2 * y * q + q * q * p) - b * ((-2 * x * q + q * q * p) * (y + q * p) * (y + q * p) + x * x * (2 * y * q + q * q * p))) ?_
  subst hq; grind
theorem on_fp0 {x y a b : Int} : y * y - ((x * x + a) * x + b) = y * y - x * x * x - a * x - b := by grind
def Row3 (led : List (Addr × Obj)) (v : Value) : Prop := ∃ x r0 r1 r2 t0 t1 t2, v = .ref x ∧ (x, ({ cls := .type "tuple", data := .seq #[.int r0 t0, .int r1 t1, .int r2 t2] 0 } : Obj)) ∈ led ∧ -1000 ≤ r0 ∧ r0 ≤ 1000 ∧ Builtin.Int.intBits r1 ≤ 1100000 ∧ Builtin.Int.intBits r2 ≤ 1100000
theorem Row3.of {h₀ h : Heap} {L : Addr} {led : List (Addr × Obj)} {vs : List Value} {v : Value} {i : Nat} (_N : News h₀ L h led) (hv : vs[i]? = some v) (H : ∀ w ∈ vs, Row3 led w) : Row3 led v := H v (List.mem_of_getElem? hv)
theorem fmod_sub_eq {r a p : Int} (hp : 0 < p) : ((r - a).fmod p == 0) = (a.fmod p == r.fmod p) := by
  rw [Bool.eq_iff_iff, beq_iff_eq, beq_iff_eq, Int.fmod_eq_emod_of_nonneg _ (by omega), Int.fmod_eq_emod_of_nonneg _ (by omega), Int.fmod_eq_emod_of_nonneg _ (by omega)]
  rw [eq_comm (a := a % p)]
  exact (Int.emod_eq_emod_iff_emod_sub_eq_zero).symm
theorem ceq1 {p a b r0 r1 r2 : Int} (h : ¬ r0 = p) : (r0 == p) = ceq p a b r0 r1 r2 := by
  unfold ceq
  have h1 : (r0 == p) = false := by simpa using h
  have h2 : (p == r0) = false := by simpa using fun e => h e.symm
  rw [h1, h2]; rfl
theorem ceq2 {p a b r0 r1 r2 : Int} (hp : 0 < p) (h0 : r0 = p) (h : ¬ (r1 - a).fmod p = 0) : ((r1 - a).fmod p == 0) = ceq p a b r0 r1 r2 := by
  unfold ceq
  have h1 : ((r1 - a).fmod p == 0) = false := by simpa using h
  rw [← fmod_sub_eq hp, h1]; simp
theorem ceq3 {p a b r0 r1 r2 : Int} (hp : 0 < p) (h0 : r0 = p) (h : (r1 - a).fmod p = 0) : ((r2 - b).fmod p == 0) = ceq p a b r0 r1 r2 := by
  unfold ceq
  rw [← fmod_sub_eq hp, ← fmod_sub_eq hp, h, h0]; simp
theorem num_bits {ns : List Int} {k : Int} (h : PyData.layable0 (.list (ns.map .int)) = true) (h0 : 0 ≤ k) (h1 : k ≤ 100) : Builtin.Int.intBits (num ns k) ≤ 1048576 := by
  unfold num; split
  · exact bits_getD h
  · exact Nat.le_trans (intBits_le_64 (by split <;> omega) (by split <;> omega)) (by decide)
local macro_rules | `(tactic| bits_by_make) => `(tactic| (refine num_bits ?_ ?_ ?_; (with_reducible assumption); omega; omega))
local macro_rules | `(tactic| k_in) => `(tactic| first | (with_reducible assumption) | exact Frag.In.keeps (by with_reducible assumption) (Fr.keep (by with_reducible assumption)))
local macro_rules | `(tactic| k_room) => `(tactic| ktr_room)
local macro_rules | `(tactic| k_units) => `(tactic| ktr_units)
local macro_rules | `(tactic| bits_by_make) => `(tactic| with_reducible assumption)
local macro_rules | `(tactic| k_handed) => `(tactic| with_reducible assumption)
local macro_rules | `(tactic| walk_at "ps") => `(tactic| first | exact List.forall_mem_nil _ | (refine List.forall_mem_cons.mpr ⟨rfl, ?_⟩; walk_at "ps"))
local macro_rules | `(tactic| walk_at "bits") => `(tactic| exact Nat.le_trans (by bits_by_make) (by decide))
local macro_rules | `(tactic| walk_at "use") => `(tactic| (
  (case k1 => k_asm); (case k2 => k_asm); (case k3 => k_asm); (case k4 => k_asm); (case k5 => k_asm); (case k6 => first | rfl | assumption); (case k7 => ktr_room); (case k8 => ktr_units); (case k9 => first | trivial | k_asm)))
local macro_rules | `(tactic| walk_at "call ref") => `(tactic| (
  k_here
  (with_reducible show wpAny _ _ (PySem.call (Value.ref 163) _) _ _ _)
  k_dflt (refine' Sp.use (c_number ?q1 ?q2 ?q3 ?q4) ?k1 ?k2 ?k3 ?k4 ?k5 ?k6 ?k7 ?k8 ?k9 ?_; walk_at "use"; (case q1 => k_asm); (case q2 => omega); (case q3 => omega); (case q4 => omega)); unfold RInt; intro t9 h9 tk9 F9 N9; (try dsimp only); (try k_sweep); (try k_fold)))
local macro_rules | `(tactic| walk_at "call ref") => `(tactic| (
  k_here
  (with_reducible show wpAny _ _ (PySem.call (Value.ref 170) _) _ _ _)
  k_dflt (refine' Sp.use (c_rest ?q1 ?q2 ?q3) ?k1 ?k2 ?k3 ?k4 ?k5 ?k6 ?k7 ?k8 ?k9 ?_; walk_at "use"; (case q1 => omega); (case q2 => omega); (case q3 => walk_at "bits")); unfold RInt; intro t9 h9 tk9 F9 N9; (try dsimp only); (try k_sweep); (try k_fold)))
local macro_rules | `(tactic| walk_at "call ref") => `(tactic| (
  k_here
  (with_reducible show wpAny _ _ (PySem.call (Value.ref 81) _) _ _ _)
  k_dflt (refine' Sp.use c_mkFp3 ?k1 ?k2 ?k3 ?k4 ?k5 ?k6 ?k7 ?k8 ?k9 ?_; walk_at "use"); unfold RFp; intro x9 d9 t1 t2 t3 t4 h9 tk9 F9 N9 l1 l2; (try k_lt l1); (try k_lt2 l2); (try dsimp only); (try k_sweep); (try k_fold)))
local macro_rules | `(tactic| walk_at "call ref") => `(tactic| (
  k_here
  (with_reducible show wpAny _ _ (PySem.call (Value.ref 81) _) _ _ _)
  k_dflt (refine' Sp.use c_mkFp4 ?k1 ?k2 ?k3 ?k4 ?k5 ?k6 ?k7 ?k8 ?k9 ?_; walk_at "use"); unfold RFp; intro x9 d9 t1 t2 t3 t4 h9 tk9 F9 N9 l1 l2; (try k_lt l1); (try k_lt2 l2); (try dsimp only); (try k_sweep); (try k_fold)))
local macro_rules | `(tactic| walk_at "call ref") => `(tactic| (
  k_here
  (with_reducible show wpAny _ _ (PySem.call (Value.ref 152) _) _ _ _)
  k_dflt (refine' Sp.use c_mkEd3 ?k1 ?k2 ?k3 ?k4 ?k5 ?k6 ?k7 ?k8 ?k9 ?_; walk_at "use"); unfold REd; intro x9 d9 t1 t2 t3 t4 t5 h9 tk9 F9 N9 l1 l2; (try k_lt l1); (try k_lt2 l2); (try dsimp only); (try k_sweep); (try k_fold)))
local macro_rules | `(tactic| walk_at "call ref") => `(tactic| (
  k_here
  (with_reducible show wpAny _ _ (PySem.call (Value.ref 152) _) _ _ _)
  k_dflt (refine' Sp.use c_mkEd4 ?k1 ?k2 ?k3 ?k4 ?k5 ?k6 ?k7 ?k8 ?k9 ?_; walk_at "use"); unfold REd; intro x9 d9 t1 t2 t3 t4 t5 h9 tk9 F9 N9 l1 l2; (try k_lt l1); (try k_lt2 l2); (try dsimp only); (try k_sweep); (try k_fold)))
local macro_rules | `(tactic| walk_at "call ref") => `(tactic| (
  k_here
  (with_reducible show wpAny _ _ (PySem.call (Value.ref 50) _) _ _ _)
  k_dflt (refine' Sp.use (c_fp_p ?q1 ?q2 ?q3) ?k1 ?k2 ?k3 ?k4 ?k5 ?k6 ?k7 ?k8 ?k9 ?_; walk_at "use"; (case q2 => k_dflt k_mem); (case q3 => k_dflt k_mem); (case q1 => k_dflt (exact ⟨rfl, rfl, rfl, rfl⟩))); unfold RV; intro h9 tk9 F9 N9; (try dsimp only); (try k_sweep); (try k_fold)))
local macro_rules | `(tactic| walk_at "call ref") => `(tactic| (
  k_here
  (with_reducible show wpAny _ _ (PySem.call (Value.ref 57) _) _ _ _)
  k_dflt (refine' Sp.use (c_fp_a ?q1 ?q2 ?q3) ?k1 ?k2 ?k3 ?k4 ?k5 ?k6 ?k7 ?k8 ?k9 ?_; walk_at "use"; (case q2 => k_dflt k_mem); (case q3 => k_dflt k_mem); (case q1 => k_dflt (exact ⟨rfl, rfl, rfl, rfl⟩))); unfold RV; intro h9 tk9 F9 N9; (try dsimp only); (try k_sweep); (try k_fold)))
local macro_rules | `(tactic| walk_at "call ref") => `(tactic| (
  k_here
  (with_reducible show wpAny _ _ (PySem.call (Value.ref 64) _) _ _ _)
  k_dflt (refine' Sp.use (c_fp_b ?q1 ?q2 ?q3) ?k1 ?k2 ?k3 ?k4 ?k5 ?k6 ?k7 ?k8 ?k9 ?_; walk_at "use"; (case q2 => k_dflt k_mem); (case q3 => k_dflt k_mem); (case q1 => k_dflt (exact ⟨rfl, rfl, rfl, rfl⟩))); unfold RV; intro h9 tk9 F9 N9; (try dsimp only); (try k_sweep); (try k_fold)))
local macro_rules | `(tactic| walk_at "call ref") => `(tactic| (
  k_here
  (with_reducible show wpAny _ _ (PySem.call (Value.ref 71) _) _ _ _)
  k_dflt (refine' Sp.use (c_fp_h ?q1 ?q2 ?q3) ?k1 ?k2 ?k3 ?k4 ?k5 ?k6 ?k7 ?k8 ?k9 ?_; walk_at "use"; (case q2 => k_dflt k_mem); (case q3 => k_dflt k_mem); (case q1 => k_dflt (exact ⟨rfl, rfl, rfl, rfl⟩))); unfold RV; intro h9 tk9 F9 N9; (try dsimp only); (try k_sweep); (try k_fold)))
local macro_rules | `(tactic| walk_at "call ref") => `(tactic| (
  k_here
  (with_reducible show wpAny _ _ (PySem.call (Value.ref 128) _) _ _ _)
  k_dflt (refine' Sp.use (c_ed_p ?q1 ?q2 ?q3) ?k1 ?k2 ?k3 ?k4 ?k5 ?k6 ?k7 ?k8 ?k9 ?_; walk_at "use"; (case q2 => k_dflt k_mem); (case q3 => k_dflt k_mem); (case q1 => k_dflt (exact ⟨rfl, rfl, rfl, rfl⟩))); unfold RV; intro h9 tk9 F9 N9; (try dsimp only); (try k_sweep); (try k_fold)))
local macro_rules | `(tactic| walk_at "call ref") => `(tactic| (
  k_here
  (with_reducible show wpAny _ _ (PySem.call (Value.ref 135) _) _ _ _)
  k_dflt (refine' Sp.use (c_ed_a ?q1 ?q2 ?q3) ?k1 ?k2 ?k3 ?k4 ?k5 ?k6 ?k7 ?k8 ?k9 ?_; walk_at "use"; (case q2 => k_dflt k_mem); (case q3 => k_dflt k_mem); (case q1 => k_dflt (exact ⟨rfl, rfl, rfl, rfl⟩))); unfold RV; intro h9 tk9 F9 N9; (try dsimp only); (try k_sweep); (try k_fold)))
local macro_rules | `(tactic| walk_at "call ref") => `(tactic| (
  k_here
  (with_reducible show wpAny _ _ (PySem.call (Value.ref 142) _) _ _ _)
  k_dflt (refine' Sp.use (c_ed_d ?q1 ?q2 ?q3) ?k1 ?k2 ?k3 ?k4 ?k5 ?k6 ?k7 ?k8 ?k9 ?_; walk_at "use"; (case q2 => k_dflt k_mem); (case q3 => k_dflt k_mem); (case q1 => k_dflt (exact ⟨rfl, rfl, rfl, rfl⟩))); unfold RV; intro h9 tk9 F9 N9; (try dsimp only); (try k_sweep); (try k_fold)))
local macro_rules | `(tactic| walk_at "call ref") => `(tactic| (
  k_here
  (with_reducible show wpAny _ _ (PySem.call (Value.ref 149) _) _ _ _)
  k_dflt (refine' Sp.use (c_ed_h ?q1 ?q2 ?q3) ?k1 ?k2 ?k3 ?k4 ?k5 ?k6 ?k7 ?k8 ?k9 ?_; walk_at "use"; (case q2 => k_dflt k_mem); (case q3 => k_dflt k_mem); (case q1 => k_dflt (exact ⟨rfl, rfl, rfl, rfl⟩))); unfold RV; intro h9 tk9 F9 N9; (try dsimp only); (try k_sweep); (try k_fold)))
local macro_rules | `(tactic| walk_at "call ref") => `(tactic| (
  k_here
  (with_reducible show wpAny _ _ (PySem.call (Value.ref 78) _) _ _ _)
  k_dflt (refine' Sp.use (c_fp_on ?q1 ?q2 ?q3 ?q4 ?q5 ?q6 ?q7 ?q8) ?k1 ?k2 ?k3 ?k4 ?k5 ?k6 ?k7 ?k8 ?k9 ?_; walk_at "use"; (case q1 => k_dflt k_mem); (case q2 => k_dflt k_mem); (case q3 => omega); (case q4 => omega); (case q5 => walk_at "bits"); (case q6 => walk_at "bits"); (case q7 => walk_at "bits"); (case q8 => walk_at "bits")); unfold RBool; intro h9 tk9 F9 N9; (try dsimp only); (try k_sweep); (try k_fold)))
local macro_rules | `(tactic| walk_at "call ref") => `(tactic| (
  k_here
  (with_reducible show wpAny _ _ (PySem.call (Value.ref 121) _) _ _ _)
  k_dflt (refine' Sp.use (c_ed_on ?q1 ?q2 ?q3 ?q4 ?q5 ?q6 ?q7 ?q8) ?k1 ?k2 ?k3 ?k4 ?k5 ?k6 ?k7 ?k8 ?k9 ?_; walk_at "use"; (case q1 => k_dflt k_mem); (case q2 => k_dflt k_mem); (case q3 => omega); (case q4 => omega); (case q5 => walk_at "bits"); (case q6 => walk_at "bits"); (case q7 => walk_at "bits"); (case q8 => walk_at "bits")); unfold RBool; intro h9 tk9 F9 N9; (try dsimp only); (try k_sweep); (try k_fold)))
local macro_rules | `(tactic| walk_at "compareOp Eq ref ref") => `(tactic| (
  k_here
  k_dflt (refine' Sp.use (c_fp_eq ?q1 ?q2 ?q3 ?q4 ?q5) ?k1 ?k2 ?k3 ?k4 ?k5 ?k6 ?k7 ?k8 ?k9 ?_; walk_at "use"; (case q1 => k_dflt k_mem); (case q2 => k_dflt k_mem); (case q3 => k_dflt k_mem); (case q4 => k_dflt k_mem); (case q5 => omega)); unfold RBool; intro h9 tk9 F9 N9; (try dsimp only); (try k_sweep); (try k_fold)))
local macro_rules | `(tactic| walk_at "compareOp Eq ref ref") => `(tactic| (
  k_here
  k_dflt (refine' Sp.use (c_fp_ed ?q1 ?q2 ?q3 ?q4 ?q5) ?k1 ?k2 ?k3 ?k4 ?k5 ?k6 ?k7 ?k8 ?k9 ?_; walk_at "use"; (case q1 => k_dflt k_mem); (case q2 => k_dflt k_mem); (case q3 => k_dflt k_mem); (case q4 => k_dflt k_mem); (case q5 => k_ne)); unfold RBool; intro h9 tk9 F9 N9; (try dsimp only); (try k_sweep); (try k_fold)))
local macro_rules | `(tactic| walk_at "compareOp NotEq ref ref") => `(tactic| (
  k_here
  k_dflt (refine' Sp.use (c_fp_ne ?q1 ?q2 ?q3 ?q4 ?q5) ?k1 ?k2 ?k3 ?k4 ?k5 ?k6 ?k7 ?k8 ?k9 ?_; walk_at "use"; (case q1 => k_dflt k_mem); (case q2 => k_dflt k_mem); (case q3 => k_dflt k_mem); (case q4 => k_dflt k_mem); (case q5 => omega)); unfold RBool; intro h9 tk9 F9 N9; (try dsimp only); (try k_sweep); (try k_fold)))
local macro_rules | `(tactic| walk_at "compareOp NotEq ref int") => `(tactic| (
  k_here
  k_dflt (refine' Sp.use (c_fp_neI ?q1 ?q2) ?k1 ?k2 ?k3 ?k4 ?k5 ?k6 ?k7 ?k8 ?k9 ?_; walk_at "use"; (case q1 => k_dflt k_mem); (case q2 => k_dflt k_mem)); unfold RBool; intro h9 tk9 F9 N9; (try dsimp only); (try k_sweep); (try k_fold)))
local macro_rules | `(tactic| walk_at "compareOp Eq ref ref") => `(tactic| (
  k_here
  k_dflt (refine' Sp.use (c_ed_eq ?q1 ?q2 ?q3 ?q4 ?q5) ?k1 ?k2 ?k3 ?k4 ?k5 ?k6 ?k7 ?k8 ?k9 ?_; walk_at "use"; (case q1 => k_dflt k_mem); (case q2 => k_dflt k_mem); (case q3 => k_dflt k_mem); (case q4 => k_dflt k_mem); (case q5 => omega)); unfold RBool; intro h9 tk9 F9 N9; (try dsimp only); (try k_sweep); (try k_fold)))
local macro_rules | `(tactic| walk_at "compareOp Eq ref ref") => `(tactic| (
  k_here
  k_dflt (refine' Sp.use (c_ed_fp ?q1 ?q2 ?q3 ?q4 ?q5) ?k1 ?k2 ?k3 ?k4 ?k5 ?k6 ?k7 ?k8 ?k9 ?_; walk_at "use"; (case q1 => k_dflt k_mem); (case q2 => k_dflt k_mem); (case q3 => k_dflt k_mem); (case q4 => k_dflt k_mem); (case q5 => k_ne)); unfold RBool; intro h9 tk9 F9 N9; (try dsimp only); (try k_sweep); (try k_fold)))
local macro_rules | `(tactic| walk_at "compareOp NotEq ref ref") => `(tactic| (
  k_here
  k_dflt (refine' Sp.use (c_ed_ne ?q1 ?q2 ?q3 ?q4 ?q5) ?k1 ?k2 ?k3 ?k4 ?k5 ?k6 ?k7 ?k8 ?k9 ?_; walk_at "use"; (case q1 => k_dflt k_mem); (case q2 => k_dflt k_mem); (case q3 => k_dflt k_mem); (case q4 => k_dflt k_mem); (case q5 => omega)); unfold RBool; intro h9 tk9 F9 N9; (try dsimp only); (try k_sweep); (try k_fold)))
local macro_rules | `(tactic| walk_at "compareOp NotEq ref int") => `(tactic| (
  k_here
  k_dflt (refine' Sp.use (c_ed_neI ?q1 ?q2) ?k1 ?k2 ?k3 ?k4 ?k5 ?k6 ?k7 ?k8 ?k9 ?_; walk_at "use"; (case q1 => k_dflt k_mem); (case q2 => k_dflt k_mem)); unfold RBool; intro h9 tk9 F9 N9; (try dsimp only); (try k_sweep); (try k_fold)))
local macro_rules | `(tactic| walk_at "pyIter ref") => `(tactic| (k_here; refine Stop.of ?_))
local macro_rules | `(tactic| k_mem) => `(tactic| with_reducible_and_instances assumption)
local macro_rules | `(tactic| walk_at "subscriptTail") => `(tactic| (
  k_here; (with_reducible show wpAny _ _ (subscriptTail _ _ (Value.ref _) (Value.int _ _)) _ _ _)
  k_dflt (refine' item_tupleT ?t ?a ?b ?c ?d ?_; (case t => exact News.isTup (by k_asm) (by k_mem)); (case a => decide); (case b => decide); (case c => rfl); (case d => rfl); k_whole)))
local macro_rules | `(tactic| walk_at "go") => `(tactic| repeat' (first | (k_unfold; (try dsimp only)) | walk1 | (dsimp only; walk1) | fail "no step"))
local macro_rules | `(tactic| walk_at "LpPost") => `(tactic| dsimp only [LpPost])
local macro_rules | `(tactic| walk_at "same") => `(tactic| (
  intro z h1 h3
  first | rfl | ((simp only [List.contains_cons, List.contains_nil, Bool.or_false, Bool.or_eq_false_iff, beq_eq_false_iff_ne, ne_eq] at h3); (simp [h1, h3]; done))))
local macro_rules | `(tactic| walk_at "LpEnd") => `(tactic| (
  refine lp_end0 (by k_asm) (by k_asm) ?e1 ?e2 (by k_asm) ?e3
  (case e1 => (intro p hp; kst_mem)); (case e2 => k_mem); (case e3 => walk_at "same")))
theorem holds : PySem.Challenge.rw_xq0002_01.Holds := hd (by
  k_go0; (all_goals try k_fold)
  rename List Int => ns
  rename_i w s₀ s₁ mg mb G Y fa o pm doc kV ho hg KX X V GL T B TE TW w9 w8 M w7 w6 hcd hs hlay0 hL1 hr1 hl2 w4 w3 w2 w1 w0 hL ra wl1 r0 hI hr hcond1 hcond2 K0 hD h1 F N0
  clear V GL TE TW hD ra wl1 r0 hr hcond2 hr1 hl2 hlay0 hcd X B
  try clear M
  walk_at "go"
  have hP : ∃ p : Int, (3 + (if num ns 0 < 0 then -num ns 0 else num ns 0).fmod 99) = p ∧ 3 ≤ p ∧ p ≤ 101 := by
    refine ⟨_, rfl, ?_, ?_⟩
    · have := Int.fmod_nonneg_of_pos (if num ns 0 < 0 then -num ns 0 else num ns 0) (show (0:Int) < 99 by decide); omega
    · have := Int.fmod_lt_of_pos (if num ns 0 < 0 then -num ns 0 else num ns 0) (show (0:Int) < 99 by decide); omega
  obtain ⟨p, hP, hp3, hp101⟩ := hP
  simp only [hP] at *
  clear hP
  refine Stop.to ?_
  k_dflt (refine' lp_range0 4 [Str.ofString "x", Str.ofString "y", Str.ofString "due", Str.ofString "other", Str.ofString "shift"] rfl ?hr ?hs ?hn ?hF ?hN ?_ ?_)
  (case hr => assumption)
  (case hs => decide)
  (case hn => rfl)
  (case hF => k_asm)
  (case hN => k_asm)
  · intro I i t u h tk it hi hne F1 N1
    dsimp only [envOf] at F1 N1
    walk_at "go"
    all_goals (
      refine Stop.to ?_
      k_dflt (refine' lp_listL [] rfl ?hm ?hF ?hN ?_ ?_)
      (case hF => k_asm)
      (case hN => k_asm)
      (case hm => k_dflt k_mem)
      · intro I' i' v u' h' tk' it' hv hne' F2 N2
        dsimp only [envOf] at F2 N2
        have hv' : ∃ sh ts, v = .int sh ts ∧ (∃ q, sh = q * p) ∧ -800 ≤ sh ∧ sh ≤ 800 := by
          rcases i' with _ | _ | _ | i'
          · simp only [List.getElem?_cons_zero, Option.some.injEq] at hv; exact ⟨_, _, hv.symm, ⟨0, by omega⟩, by omega, by omega⟩
          · simp only [List.getElem?_cons_zero, List.getElem?_cons_succ, Option.some.injEq] at hv; exact ⟨_, _, hv.symm, ⟨1, by omega⟩, by omega, by omega⟩
          · simp only [List.getElem?_cons_zero, List.getElem?_cons_succ, Option.some.injEq] at hv; exact ⟨_, _, hv.symm, ⟨-7, by omega⟩, by omega, by omega⟩
          · simp at hv
        obtain ⟨sh, ts, rfl, ⟨q, hq⟩, hsh1, hsh2⟩ := hv'
        clear hv
        walk_at "go"
        · exfalso
          rename ((_ != _) = true) => hz
          rw [on_shift_fp hq] at hz
          exact absurd hz (by rw [bne_self_eq_false]; decide)
        · exfalso
          rename ((_ != _) = true) => hz
          rw [on_shift_ed hq] at hz
          exact absurd hz (by rw [bne_self_eq_false]; decide)
      · intro u' h' tk' F2 N2
        dsimp only [envOf] at F2 N2
        walk_at "go")
  · intro u h tk F1 N1
    dsimp only [envOf] at F1 N1
    walk_at "go"
    refine Stop.to ?_
    k_dflt (refine' lp_range0 ((if 12 < p then 12 else p) - 0).toNat [Str.ofString "y"] rfl ?hr ?hs ?hn ?hF ?hN ?_ ?_)
    (case hr => assumption)
    (case hs => exact small_one (by omega) (by omega) (by omega) (by omega))
    (case hn => exact rangeSize_nat _ _)
    (case hF => k_asm)
    (case hN => k_asm)
    · intro I i t u h tk it hi hne F1 N1
      dsimp only [envOf] at F1 N1
      walk_at "go"
      refine Stop.to ?_
      k_dflt (refine' lp_range0 ((if 12 < p then 12 else p) - 0).toNat [] rfl ?hr ?hs ?hn ?hF ?hN ?_ ?_)
      (case hr => assumption)
      (case hs => exact small_one (by omega) (by omega) (by omega) (by omega))
      (case hn => exact rangeSize_nat _ _)
      (case hF => k_asm)
      (case hN => k_asm)
      · intro I' i' t' u' h' tk' it' hi' hne' F2 N2
        dsimp only [envOf] at F2 N2
        have hi2 : (i : Int) < 12 := by omega
        have hi3 : (i' : Int) < 12 := by omega
        walk_at "go"
        · exfalso
          rename ((_ != _) = true) => hz
          rw [on_fp0] at hz
          exact absurd hz (by rw [bne_self_eq_false]; decide)
      · intro u' h' tk' F2 N2
        dsimp only [envOf] at F2 N2
        walk_at "go"
    · intro u h tk F1 N1
      dsimp only [envOf] at F1 N1
      walk_at "go"
      refine Stop.to ?_
      k_dflt (refine' lp_listL [Str.ofString "due", Str.ofString "one", Str.ofString "two"] rfl ?hm ?hF ?hN ?_ ?_)
      (case hF => k_asm)
      (case hN => k_asm)
      (case hm => k_dflt k_mem)
      · intro I i v u h tk it hv hne F1 N1
        dsimp only [envOf] at F1 N1
        have hb11 := num_bits hL1 (k := 11) (by decide) (by decide)
        have hv' := Row3.of N1 hv (by
          repeat' (refine List.forall_mem_cons.mpr ⟨?_, ?_⟩)
          all_goals first | exact List.forall_mem_nil _ | skip
          all_goals (
            refine' ⟨_, _, _, _, _, _, _, rfl, ?za, ?zb, ?zc, ?zd, ?ze⟩
            (case za => k_dflt k_mem)
            (case zb => omega)
            (case zc => omega)
            (case zd => walk_at "bits")
            (case ze => walk_at "bits")))
        obtain ⟨x, r0, r1, r2, t0, t1, t2, rfl, hm, hr0, hr0', hb1, hb2⟩ := hv'
        clear hv
        walk1
        k_dflt (refine' cut_bool (ceq p (num ns 1) (num ns 2) r0 r1 r2) (Str.ofString "due") ?zf ?zn ?_ ?_)
        (case zf => exact F1)
        (case zn => exact N1)
        · walk_at "go"
          all_goals (
            refine cut_end ?_ (by k_asm) (by k_asm) (fun _ h => h)
            first | exact ceq1 (by assumption) | exact ceq2 (by omega) (by assumption) (by assumption) | exact ceq3 (by omega) (by assumption) (by assumption))
        · intro h' tk' F2 N2
          dsimp only [envOf] at F2 N2
          walk_at "go"
          all_goals (exfalso; first
            | (rename ((_ != _) = true) => hz; rw [bne_self_eq_false] at hz; exact absurd hz (by decide))
            | (rename ((_ == _) = true) => hz; revert hz; generalize ceq _ _ _ _ _ _ = C; cases C <;> decide)
            | omega)
      · intro u h tk F1 N1
        dsimp only [envOf] at F1 N1
        walk_at "go"
        all_goals wrow_close)
end Mine

theorem PySem.Challenge.cw_xq0002_01_holds : PySem.Challenge.rw_xq0002_01.Holds := by
  exact Mine.holds
