import PyProof.Rows.All
import Wide.All
import OpenK.AllK
import Wide.FinOn
import PySem.Challenge.RW_xq0002_05
open PySem PySem.W PyProof.Rows PySem.Calls
set_option Elab.async false
set_option maxRecDepth 100000
set_option maxHeartbeats 8000000
set_option rowWalk.seconds 0
set_option compiler.extract_closed false
namespace Mine
section
/-- a goal set aside for the hand -/
def Stop (P : Prop) : Prop := P
theorem Stop.of {P : Prop} (h : Stop P) : P := h
theorem Stop.to {P : Prop} (h : P) : Stop P := h
/-- a contract: from every state in which the ledger is `news` the tree `t` comes back by `R` -/
def Sp {α : Type} (prog : Program) (w : World) (K : Frag) (p : Program) (loose : List Str) (mean : ExcName → Option Value) (mg mb : Str → Option Value) (D U : Nat) (t : Sem α) (news : List (Addr × Obj)) (Pre : Heap → Prop)
    (R : Heap → Addr → (Str → Option Value) → Shared → (α → Shared → Prop) → Prop) : Prop :=
  ∀ (dp un : Nat) (gd : Option (List Code)) (cn : Str) (cs : Scope) (a : Addr) (ccd : Value) (cl : List (Str × Addr)) (outer : List Env) (A₀ : Around) (base h₀ : Heap) (L : Addr) (m : Str → Option Value) (s : Shared) (Q : α → Shared → Prop) (E : Value → Shared → Prop),
    Below A₀ base outer h₀ → Fr h₀ L s.heap m → K.In h₀ → News h₀ L s.heap news → Top p loose mean mg mb h₀ → cs.kind = .function → dp + D < recursionLimit → un + U < cLine → Pre base → R h₀ L m s Q →
    wpAny (model prog w) (ktrTop dp un gd cn cs L a ccd cl outer) t Q E s

theorem room1 {a D n : Nat} (h : a + D < n) : a < n := Nat.lt_of_le_of_lt (Nat.le_add_right _ _) h
theorem room2 {a c D n : Nat} (h : a + D < n) (e : Nat.ble c D = true) : a + c < n := Nat.lt_of_le_of_lt (Nat.add_le_add_left (Nat.le_of_ble_eq_true e) _) h
theorem room3 {a b c D n : Nat} (h : a + D < n) (e : Nat.ble (b + c) D = true) : a + b + c < n := Nat.lt_of_le_of_lt (Nat.le_of_eq (Nat.add_assoc _ _ _)) (room2 h e)
theorem b64a {x q : Int} (h : 0 ≤ x ∧ x < q) (hq : q ≤ 101) : Builtin.Int.intBits x ≤ 64 := intBits_le_64 (by omega) (by omega)
theorem b64b {x q : Int} (h1 : 0 ≤ x) (h2 : x < q) (hq : q ≤ 101) : Builtin.Int.intBits x ≤ 64 := intBits_le_64 (by omega) (by omega)
theorem b64c {x : Int} (h : -101 ≤ x ∧ x ≤ 101) : Builtin.Int.intBits x ≤ 64 := intBits_le_64 (by omega) (by omega)
theorem b64d {x : Int} (h1 : 0 ≤ x) (h : x ≤ 101) : Builtin.Int.intBits x ≤ 64 := intBits_le_64 (by omega) (by omega)
theorem b64e {q : Int} (h1 : 5 ≤ q) (h : q ≤ 101) : Builtin.Int.intBits q ≤ 64 := intBits_le_64 (by omega) (by omega)
/-- a statement's start: the tokens' number, the frame's function and the ledger by names of their own -/
theorem stm9 {α : Type} {M : Model} {A : Around} {t : Sem α} {Q : α → Shared → Prop} {E : Value → Shared → Prop} {h h₀ : Heap} {L : Addr} {m : Str → Option Value} {l : List (Addr × Obj)} {g d o} {tk : Nat} (F : Fr h₀ L h m) (N : News h₀ L h l) (k : ∀ tk', let m1 := m; let l1 := l; Fr h₀ L h m1 → News h₀ L h l1 → wpAny M A t Q E ⟨h, g, d, tk', o⟩) : wpAny M A t Q E ⟨h, g, d, tk, o⟩ := k tk F N
theorem stm8 {α : Type} {M : Model} {A : Around} {t : Sem α} {Q : α → Shared → Prop} {E : Value → Shared → Prop} {h h₀ : Heap} {L : Addr} {m : Str → Option Value} {g d o} {tk : Nat} (F : Fr h₀ L h m) (k : ∀ tk', let m1 := m; Fr h₀ L h m1 → wpAny M A t Q E ⟨h, g, d, tk', o⟩) : wpAny M A t Q E ⟨h, g, d, tk, o⟩ := k tk F
def RInt (v : Int) (news : List (Addr × Obj)) (h₀ : Heap) (L : Addr) (m : Str → Option Value) (s : Shared) (Q : Value → Shared → Prop) : Prop :=
  ∀ t h' tk', Fr h₀ L h' m → News h₀ L h' news → Q (.int v t) { s with heap := h', toks := tk' }
def RBool (v : Bool) (news : List (Addr × Obj)) (h₀ : Heap) (L : Addr) (m : Str → Option Value) (s : Shared) (Q : Value → Shared → Prop) : Prop :=
  ∀ h' tk', Fr h₀ L h' m → News h₀ L h' news → Q (.bool v) { s with heap := h', toks := tk' }

theorem Sp.use {α : Type} {prog : Program} {w : World} {K : Frag} {p : Program} {loose : List Str} {mean : ExcName → Option Value} {mg mb : Str → Option Value} {D U : Nat} {t : Sem α} {news : List (Addr × Obj)} {Pre : Heap → Prop}
    {R : Heap → Addr → (Str → Option Value) → Shared → (α → Shared → Prop) → Prop} (h : Sp prog w K p loose mean mg mb D U t news Pre R)
    {dp un : Nat} {gd : Option (List Code)} {cn : Str} {cs : Scope} {a : Addr} {ccd : Value} {cl : List (Str × Addr)} {outer : List Env} {A₀ : Around} {base h₀ : Heap} {L : Addr} {m : Str → Option Value} {s : Shared} {Q : α → Shared → Prop} {E : Value → Shared → Prop}
    (B : Below A₀ base outer h₀) (F : Fr h₀ L s.heap m) (X : K.In h₀) (N : News h₀ L s.heap news) (T : Top p loose mean mg mb h₀) (hk : cs.kind = .function) (hd : dp + D < recursionLimit) (hu : un + U < cLine) (hp : Pre base) (hr : R h₀ L m s Q) :
    wpAny (model prog w) (ktrTop dp un gd cn cs L a ccd cl outer) t Q E s := h _ _ _ _ _ _ _ _ _ _ _ _ _ _ _ _ _ B F X N T hk hd hu hp hr

section
variable {prog : Program} {w : World} {A : Around} {E : Value → Shared → Prop} {s : Shared} {env : Env} {h₀ : Heap} {x : Str} {body : List Stmt} {Q : Flow → Shared → Prop}

/-- the end of a turn: the state's datum is some `c` again -/
def LpEnd {σ : Type} (Led : σ → List (Addr × Obj)) (Ps : σ → List (Str × Value)) (Inv : σ → Prop) (stored : List Str) (x : Str) (m₀ : Str → Option Value) (h₀ : Heap) (L I : Addr) (it : Obj) (s₁ s₂ : Shared) : Prop :=
  ∃ c h' tk m' news', s₂ = { s₁ with heap := h', toks := tk } ∧ Fr h₀ L h' m' ∧ News h₀ L h' news' ∧ (∀ p ∈ Led c, p ∈ news') ∧ (I, it) ∈ news' ∧ (∀ p ∈ Led c, p.1 ≠ I) ∧ (∀ p ∈ Ps c, m' p.1 = some p.2) ∧
    (∀ z, z ≠ x → stored.contains z = false → m' z = m₀ z) ∧ Inv c
def LpPost {σ : Type} (Led : σ → List (Addr × Obj)) (Ps : σ → List (Str × Value)) (Inv : σ → Prop) (stored : List Str) (x : Str) (m₀ : Str → Option Value) (h₀ : Heap) (L I : Addr) (it : Obj) (s₁ : Shared) (Q : Flow → Shared → Prop) (f : Flow) (s₂ : Shared) : Prop :=
  match f with
  | .ret v => Q (.ret v) s₂
  | .brk => Q .next s₂
  | _ => LpEnd Led Ps Inv stored x m₀ h₀ L I it s₁ s₂
theorem lp_end {σ : Type} {Led : σ → List (Addr × Obj)} {Ps : σ → List (Str × Value)} {Inv : σ → Prop} {stored : List Str} {m₀ m' : Str → Option Value} {L I : Addr} {it : Obj} {s₁ : Shared} {h' : Heap} {tk : Nat} {news' : List (Addr × Obj)} (c : σ)
    (F : Fr h₀ L h' m') (N : News h₀ L h' news') (hin : ∀ p ∈ Led c, p ∈ news') (hI : (I, it) ∈ news') (hne : ∀ p ∈ Led c, p.1 ≠ I) (hps : ∀ p ∈ Ps c, m' p.1 = some p.2) (hs : ∀ z, z ≠ x → stored.contains z = false → m' z = m₀ z) (hi : Inv c) :
    LpEnd Led Ps Inv stored x m₀ h₀ L I it s₁ { s₁ with heap := h', toks := tk } := ⟨c, h', tk, m', news', rfl, F, N, hin, hI, hne, hps, hs, hi⟩

theorem lp_core {σ : Type} {I : Addr} {fp : List Addr} {n : Nat} {P : Nat → Value → Prop} {St : Nat → Heap → Prop} {m₀ : Str → Option Value} (Led : σ → List (Addr × Obj)) (Ps : σ → List (Str × Value)) (Inv : Nat → σ → Prop) (stored : List Str) (c₀ : σ) (lo : Addr → Obj)
    (W : Walks prog w A I fp [I] n P St) (live : ∀ i h, St i h → ∃ o, h.get? I = some o) (hLf : env.locals ∉ fp) (hI : h₀.get? I = none) (hst : St 0 s.heap) (hne : ∀ p ∈ Led c₀, p.1 ≠ I)
    (hown : ∀ i c, Inv i c → ∀ b ∈ fp, b ≠ I → h₀.get? b = none → (b, lo b) ∈ Led c)
    (F : Fr h₀ env.locals s.heap m₀) (N : News h₀ env.locals s.heap (Led c₀)) (hps : ∀ p ∈ Ps c₀, m₀ p.1 = some p.2) (h0 : Inv 0 c₀)
    (turn : ∀ i v c (u : Str → Option Value) h tk it, i < n → P i v → Inv i c → (∀ p ∈ Led c, p.1 ≠ I) →
      Fr h₀ env.locals h (fun y => if y = x then some v else kstB (fun z => if stored.contains z then u z else m₀ z) (Ps c) y) → News h₀ env.locals h ((I, it) :: Led c) →
      wpAny (model prog w) A (execs body env) (LpPost Led Ps (Inv (i + 1)) stored x m₀ h₀ env.locals I it { s with heap := h, toks := tk } Q) E { s with heap := h, toks := tk })
    (done : ∀ c (u : Str → Option Value) h tk, Inv n c → (∀ p ∈ Led c, p.1 ≠ I) → Fr h₀ env.locals h (fun y => if y = x then u y else kstB (fun z => if stored.contains z then u z else m₀ z) (Ps c) y) → News h₀ env.locals h (Led c) → Q .next { s with heap := h, toks := tk }) :
    LoopAtV prog w A h₀ env x body Q E (.ref I) s := by
  refine ⟨I, fp, [I], n, P, St, m₀, Led c₀, fun i m nx => ∃ c, nx = Led c ∧ (∀ p ∈ Ps c, m p.1 = some p.2) ∧ (∀ z, z ≠ x → stored.contains z = false → m z = m₀ z) ∧ Inv i c, rfl, W, hLf, ?_, ?_, hst, F, N, ⟨c₀, rfl, hps, fun _ _ _ => rfl, h0⟩, ?_, ?_⟩
  · intro b hb; rw [List.mem_singleton.mp hb]; exact hI
  · intro p hp hq; exact hne p hp (List.mem_singleton.mp hq)
  · rintro i v m₁ news₁ s₁ own ⟨hh', tk', rfl⟩ hin hP ⟨c, rfl, hps', hsm, hinv⟩ hoff hof hown1 hown2 hst' F₁ N₁
    obtain ⟨it, hit⟩ := live _ _ hst'
    have hIo : (I, it) ∈ own := hown2 I (W.sub I (List.mem_singleton.mpr rfl)) hI it hit
    have N₂ : News h₀ env.locals hh' ((I, it) :: Led c) := fun p hp => (List.mem_cons.mp hp).elim (fun e => e ▸ N₁ _ (List.mem_append.mpr (.inl hIo))) fun h => N₁ p (List.mem_append.mpr (.inr h))
    have hne' : ∀ p ∈ Led c, p.1 ≠ I := fun p hp e => hoff p hp (e ▸ List.mem_singleton.mpr rfl)
    refine wpAny_mono (turn i v c m₁ hh' tk' it hin hP hinv hne' (kst_fr hps' (fun z h1 _ h3 => hsm z h1 h3) F₁) N₂) (fun f s₂ p => ?_) fun _ _ e => e
    have fin : LpEnd Led Ps (Inv (i + 1)) stored x m₀ h₀ env.locals I it { s with heap := hh', toks := tk' } s₂ → LoopStepU h₀ env.locals [I] own (fun m nx => ∃ c, nx = Led c ∧ (∀ p ∈ Ps c, m p.1 = some p.2) ∧ (∀ z, z ≠ x → stored.contains z = false → m z = m₀ z) ∧ Inv (i + 1) c) { s with heap := hh', toks := tk' } .next s₂ := by
      rintro ⟨c', h', tk, m', news', e, F', N', hn, hI', hne'', hp', hs', hi'⟩
      refine ⟨rfl, h', tk, m', Led c', e, F', fun p hp => ?_, fun p hp hq => hne'' p hp (List.mem_singleton.mp hq), c', rfl, hp', hs', hi'⟩
      rcases List.mem_append.mp hp with h | h
      · have hg := hown1 p h
        by_cases e1 : p.1 = I
        · have : p = (I, it) := by
            obtain ⟨p1, p2⟩ := p
            simp only at e1 hg; subst e1
            have e2 : some p2 = some it := hg.symm.trans hit
            rw [Option.some.inj e2]
          exact this ▸ N' _ hI'
        · have h3 : h₀.get? p.1 = none := (N₁ p (List.mem_append.mpr (.inl h))).2.2
          have h4 := hown _ _ hinv p.1 (hof p h) e1 h3
          have h5 := hown _ _ hi' p.1 (hof p h) e1 h3
          have h6 := (N₂ _ (List.mem_cons_of_mem _ h4)).1
          have : p = (p.1, lo p.1) := by
            obtain ⟨p1, p2⟩ := p
            have e2 : some p2 = some (lo p1) := hg.symm.trans h6
            rw [Option.some.inj e2]
          exact this ▸ N' _ (hn _ h5)
      · exact N' p (hn p h)
    cases f with
    | ret v => exact .ret p
    | brk => exact .brk p
    | next => exact .next (fin p)
    | cont => exact .cont (fin p)
  · rintro h' tk m' news' F' N' hoff ⟨c, rfl, hp', hs', hi'⟩
    exact done c m' h' tk hi' (fun p hp e => hoff p hp (e ▸ List.mem_singleton.mpr rfl)) (kst_frOut hp' (fun z h1 _ h3 => hs' z h1 h3) F') N'

/-- a loop over a range by ones -/
theorem lp_range {σ : Type} {r : Addr} {a₀ b₀ : Int} {t₀ u₀ v₀ : Tok} {m₀ : Str → Option Value} (n : Nat) (Led : σ → List (Addr × Obj)) (Ps : σ → List (Str × Value)) (Inv : Nat → σ → Prop) (stored : List Str) (c₀ : σ)
    (hh : A.handled = none) (hr : IsRange s.heap r a₀ b₀ 1 t₀ u₀ v₀) (hsmall : Builtin.Range.small a₀ b₀ 1 = true) (hn : Builtin.Range.rangeSize a₀ b₀ 1 = (n : Int))
    (F : Fr h₀ env.locals s.heap m₀) (N : News h₀ env.locals s.heap (Led c₀)) (hps : ∀ p ∈ Ps c₀, m₀ p.1 = some p.2) (h0 : Inv 0 c₀)
    (turn : ∀ I (i : Nat) t c (u : Str → Option Value) h tk it, i < n → Inv i c → (∀ p ∈ Led c, p.1 ≠ I) →
      Fr h₀ env.locals h (fun y => if y = x then some (.int (a₀ + (i : Int)) t) else kstB (fun z => if stored.contains z then u z else m₀ z) (Ps c) y) → News h₀ env.locals h ((I, it) :: Led c) →
      wpAny (model prog w) A (execs body env) (LpPost Led Ps (Inv (i + 1)) stored x m₀ h₀ env.locals I it { s with heap := h, toks := tk } Q) E { s with heap := h, toks := tk })
    (done : ∀ c (u : Str → Option Value) h tk, Inv n c → Fr h₀ env.locals h (fun y => if y = x then u y else kstB (fun z => if stored.contains z then u z else m₀ z) (Ps c) y) → News h₀ env.locals h (Led c) → Q .next { s with heap := h, toks := tk }) :
    wpAny (model prog w) A (pyIter (.ref r)) (fun it s₂ => LoopAtV prog w A h₀ env x body Q E it s₂) E s := by
  refine wpAny_pyIter_range hr hsmall ?_
  have W : Walks prog w A s.heap.objs.size [s.heap.objs.size] [s.heap.objs.size] n (fun i v => ∃ t, v = .int (a₀ + i * 1) t)
      (fun i h => IsRangeIter h s.heap.objs.size (a₀ + (i : Nat) * 1) ((n : Int) - (i : Nat)) 1) := Walks.range hh _ a₀ 1 n
  refine lp_core Led Ps Inv stored c₀ (fun _ => { cls := .type "list", data := .seq #[] }) W (fun i h st => ⟨_, st⟩) ?_ ?_ ?_ ?_ ?_ (F.push _) (fun p hp => ⟨Heap.get?_push_of_some _ (N p hp).1, (N p hp).2⟩) hps h0 ?_ ?_
  · intro hm; exact absurd F.ns.lt ((List.mem_singleton.mp hm) ▸ Nat.lt_irrefl _)
  · exact next_is_new F
  · show IsRangeIter _ _ _ _ _; rw [hn]; simpa using Heap.get?_push_size _ rfl
  · intro p hp e; exact absurd (Heap.lt_size (N p hp).1) (e ▸ Nat.lt_irrefl _)
  · intro i c _ b hb hne; exact absurd (List.mem_singleton.mp hb) hne
  · rintro i v c u h tk it hi ⟨t, rfl⟩ hinv hne F₁ N₁
    have e1 : a₀ + (i : Int) * 1 = a₀ + (i : Int) := by omega
    rw [e1] at F₁
    exact turn _ i t c u h tk it hi hinv hne F₁ N₁
  · intro c u h tk hinv _ F₁ N₁
    exact done c u h tk hinv F₁ N₁

/-- a loop over a list: of the base (`hl0`) or of the ledger, where it stays as it is (`hlL`) -/
theorem lp_list {σ : Type} {l : Addr} {lo : Obj} {m₀ : Str → Option Value} (vs : List Value) (Led : σ → List (Addr × Obj)) (Ps : σ → List (Str × Value)) (Inv : Nat → σ → Prop) (stored : List Str) (c₀ : σ)
    (hh : A.handled = none) (hl : s.heap.IsList l vs.toArray) (hlL : h₀.get? l = none → ∀ i c, Inv i c → (l, lo) ∈ Led c) (hl0 : l ≠ env.locals)
    (F : Fr h₀ env.locals s.heap m₀) (N : News h₀ env.locals s.heap (Led c₀)) (hps : ∀ p ∈ Ps c₀, m₀ p.1 = some p.2) (h0 : Inv 0 c₀)
    (turn : ∀ I (i : Nat) v c (u : Str → Option Value) h tk it, vs[i]? = some v → Inv i c → (∀ p ∈ Led c, p.1 ≠ I) →
      Fr h₀ env.locals h (fun y => if y = x then some v else kstB (fun z => if stored.contains z then u z else m₀ z) (Ps c) y) → News h₀ env.locals h ((I, it) :: Led c) →
      wpAny (model prog w) A (execs body env) (LpPost Led Ps (Inv (i + 1)) stored x m₀ h₀ env.locals I it { s with heap := h, toks := tk } Q) E { s with heap := h, toks := tk })
    (done : ∀ c (u : Str → Option Value) h tk, Inv vs.length c → Fr h₀ env.locals h (fun y => if y = x then u y else kstB (fun z => if stored.contains z then u z else m₀ z) (Ps c) y) → News h₀ env.locals h (Led c) → Q .next { s with heap := h, toks := tk }) :
    wpAny (model prog w) A (pyIter (.ref l)) (fun it s₂ => LoopAtV prog w A h₀ env x body Q E it s₂) E s := by
  obtain ⟨ol, hol, hol'⟩ := id hl
  have hne : l ≠ s.heap.objs.size := Nat.ne_of_lt (Heap.lt_size hol)
  refine wpAny_pyIter_list hl ?_
  have W := Walks.list (prog := prog) (w := w) hh s.heap.objs.size l hne vs.toArray
  have hlen : vs.toArray.size = vs.length := by simp
  rw [hlen] at W
  refine lp_core Led Ps Inv stored c₀ (fun _ => lo) W (fun i h st => ?_) ?_ ?_ ?_ ?_ ?_ (F.push _) (fun p hp => ⟨Heap.get?_push_of_some _ (N p hp).1, (N p hp).2⟩) hps h0 ?_ ?_
  · obtain ⟨⟨o, ho, _⟩, _⟩ := st; exact ⟨o, ho⟩
  · intro hm
    rcases List.mem_cons.mp hm with e | hm
    · exact absurd F.ns.lt (e ▸ Nat.lt_irrefl _)
    · exact hl0 (List.mem_singleton.mp hm).symm
  · exact next_is_new F
  · exact ⟨⟨_, Heap.get?_push_size _ rfl, rfl, rfl⟩, hl.at fun o e => Heap.get?_push_of_some _ e⟩
  · intro p hp e; exact absurd (Heap.lt_size (N p hp).1) (e ▸ Nat.lt_irrefl _)
  · intro i c hc b hb hne h0
    rcases List.mem_cons.mp hb with e | hb
    · exact absurd e hne
    · rw [List.mem_singleton.mp hb] at h0 ⊢
      exact hlL h0 i c hc
  · rintro i v c u h tk it hi hP hinv hne F₁ N₁
    exact turn _ i v c u h tk it (by simpa using hP) hinv hne F₁ N₁
  · intro c u h tk hinv _ F₁ N₁
    exact done c u h tk hinv F₁ N₁

/-- the loops whose turns keep nothing -/
theorem lp_range0 {r : Addr} {a₀ b₀ : Int} {t₀ u₀ v₀ : Tok} {m₀ : Str → Option Value} {led : List (Addr × Obj)} (n : Nat) (stored : List Str)
    (hh : A.handled = none) (hr : IsRange s.heap r a₀ b₀ 1 t₀ u₀ v₀) (hsmall : Builtin.Range.small a₀ b₀ 1 = true) (hn : Builtin.Range.rangeSize a₀ b₀ 1 = (n : Int))
    (F : Fr h₀ env.locals s.heap m₀) (N : News h₀ env.locals s.heap led)
    (turn : ∀ I (i : Nat) t (u : Str → Option Value) h tk it, i < n → (∀ p ∈ led, p.1 ≠ I) →
      Fr h₀ env.locals h (fun y => if y = x then some (.int (a₀ + (i : Int)) t) else if stored.contains y then u y else m₀ y) → News h₀ env.locals h ((I, it) :: led) →
      wpAny (model prog w) A (execs body env) (LpPost (σ := Unit) (fun _ => led) (fun _ => []) (fun _ => True) stored x m₀ h₀ env.locals I it { s with heap := h, toks := tk } Q) E { s with heap := h, toks := tk })
    (done : ∀ (u : Str → Option Value) h tk, Fr h₀ env.locals h (fun y => if y = x then u y else if stored.contains y then u y else m₀ y) → News h₀ env.locals h led → Q .next { s with heap := h, toks := tk }) :
    wpAny (model prog w) A (pyIter (.ref r)) (fun it s₂ => LoopAtV prog w A h₀ env x body Q E it s₂) E s :=
  lp_range (σ := Unit) n (fun _ => led) (fun _ => []) (fun _ _ => True) stored () hh hr hsmall hn F N (List.forall_mem_nil _) trivial
    (fun I i t _ u h tk it hi _ hne F N => turn I i t u h tk it hi hne F N) (fun _ u h tk _ F N => done u h tk F N)
theorem lp_rangeP {r : Addr} {a₀ b₀ : Int} {t₀ u₀ v₀ : Tok} {m₀ : Str → Option Value} {led : List (Addr × Obj)} (n : Nat) (stored : List Str) (Inv : Nat → Prop)
    (hh : A.handled = none) (hr : IsRange s.heap r a₀ b₀ 1 t₀ u₀ v₀) (hsmall : Builtin.Range.small a₀ b₀ 1 = true) (hn : Builtin.Range.rangeSize a₀ b₀ 1 = (n : Int))
    (F : Fr h₀ env.locals s.heap m₀) (N : News h₀ env.locals s.heap led) (h0 : Inv 0)
    (turn : ∀ I (i : Nat) t (u : Str → Option Value) h tk it, i < n → Inv i → (∀ p ∈ led, p.1 ≠ I) →
      Fr h₀ env.locals h (fun y => if y = x then some (.int (a₀ + (i : Int)) t) else if stored.contains y then u y else m₀ y) → News h₀ env.locals h ((I, it) :: led) →
      wpAny (model prog w) A (execs body env) (LpPost (σ := Unit) (fun _ => led) (fun _ => []) (fun _ => Inv (i + 1)) stored x m₀ h₀ env.locals I it { s with heap := h, toks := tk } Q) E { s with heap := h, toks := tk })
    (done : ∀ (u : Str → Option Value) h tk, Inv n → Fr h₀ env.locals h (fun y => if y = x then u y else if stored.contains y then u y else m₀ y) → News h₀ env.locals h led → Q .next { s with heap := h, toks := tk }) :
    wpAny (model prog w) A (pyIter (.ref r)) (fun it s₂ => LoopAtV prog w A h₀ env x body Q E it s₂) E s :=
  lp_range (σ := Unit) n (fun _ => led) (fun _ => []) (fun i _ => Inv i) stored () hh hr hsmall hn F N (List.forall_mem_nil _) h0
    (fun I i t _ u h tk it hi hI hne F N => turn I i t u h tk it hi hI hne F N) (fun _ u h tk hI F N => done u h tk hI F N)
theorem lp_list0 {l : Addr} {lo : Obj} {m₀ : Str → Option Value} {led : List (Addr × Obj)} {vs : List Value} (stored : List Str)
    (hh : A.handled = none) (hl : s.heap.IsList l vs.toArray) (hlL : h₀.get? l = none → (l, lo) ∈ led) (hl0 : l ≠ env.locals)
    (F : Fr h₀ env.locals s.heap m₀) (N : News h₀ env.locals s.heap led)
    (turn : ∀ I (i : Nat) v (u : Str → Option Value) h tk it, vs[i]? = some v → (∀ p ∈ led, p.1 ≠ I) →
      Fr h₀ env.locals h (fun y => if y = x then some v else if stored.contains y then u y else m₀ y) → News h₀ env.locals h ((I, it) :: led) →
      wpAny (model prog w) A (execs body env) (LpPost (σ := Unit) (fun _ => led) (fun _ => []) (fun _ => True) stored x m₀ h₀ env.locals I it { s with heap := h, toks := tk } Q) E { s with heap := h, toks := tk })
    (done : ∀ (u : Str → Option Value) h tk, Fr h₀ env.locals h (fun y => if y = x then u y else if stored.contains y then u y else m₀ y) → News h₀ env.locals h led → Q .next { s with heap := h, toks := tk }) :
    wpAny (model prog w) A (pyIter (.ref l)) (fun it s₂ => LoopAtV prog w A h₀ env x body Q E it s₂) E s :=
  lp_list (σ := Unit) (lo := lo) vs (fun _ => led) (fun _ => []) (fun _ _ => True) stored () hh hl (fun h _ _ _ => hlL h) hl0 F N (List.forall_mem_nil _) trivial
    (fun I i v _ u h tk it hi _ hne F N => turn I i v u h tk it hi hne F N) (fun _ u h tk _ F N => done u h tk F N)
/-- a loop over a list of the ledger, by what holds of the turn's number -/
theorem lp_listP {l : Addr} {k : Nat} {m₀ : Str → Option Value} {led : List (Addr × Obj)} {vs : List Value} (stored : List Str) (Inv : Nat → Prop)
    (hh : A.handled = none) (hm : (l, listOf vs.toArray k) ∈ led)
    (F : Fr h₀ env.locals s.heap m₀) (N : News h₀ env.locals s.heap led) (h0 : Inv 0)
    (turn : ∀ I (i : Nat) v (u : Str → Option Value) h tk it, vs[i]? = some v → Inv i → (∀ p ∈ led, p.1 ≠ I) →
      Fr h₀ env.locals h (fun y => if y = x then some v else if stored.contains y then u y else m₀ y) → News h₀ env.locals h ((I, it) :: led) →
      wpAny (model prog w) A (execs body env) (LpPost (σ := Unit) (fun _ => led) (fun _ => []) (fun _ => Inv (i + 1)) stored x m₀ h₀ env.locals I it { s with heap := h, toks := tk } Q) E { s with heap := h, toks := tk })
    (done : ∀ (u : Str → Option Value) h tk, Inv vs.length → Fr h₀ env.locals h (fun y => if y = x then u y else if stored.contains y then u y else m₀ y) → News h₀ env.locals h led → Q .next { s with heap := h, toks := tk }) :
    wpAny (model prog w) A (pyIter (.ref l)) (fun it s₂ => LoopAtV prog w A h₀ env x body Q E it s₂) E s :=
  lp_list (σ := Unit) (lo := listOf vs.toArray k) vs (fun _ => led) (fun _ => []) (fun i _ => Inv i) stored () hh ⟨_, (N _ hm).1, rfl, k, rfl⟩ (fun _ _ _ _ => hm) (N _ hm).2.1 F N (List.forall_mem_nil _) h0
    (fun I i v _ u h tk it hi hI hne F N => turn I i v u h tk it hi hI hne F N) (fun _ u h tk hI F N => done u h tk hI F N)
/-- a loop over a list of the ledger -/
theorem lp_listL {l : Addr} {k : Nat} {m₀ : Str → Option Value} {led : List (Addr × Obj)} {vs : List Value} (stored : List Str)
    (hh : A.handled = none) (hm : (l, listOf vs.toArray k) ∈ led)
    (F : Fr h₀ env.locals s.heap m₀) (N : News h₀ env.locals s.heap led)
    (turn : ∀ I (i : Nat) v (u : Str → Option Value) h tk it, vs[i]? = some v → (∀ p ∈ led, p.1 ≠ I) →
      Fr h₀ env.locals h (fun y => if y = x then some v else if stored.contains y then u y else m₀ y) → News h₀ env.locals h ((I, it) :: led) →
      wpAny (model prog w) A (execs body env) (LpPost (σ := Unit) (fun _ => led) (fun _ => []) (fun _ => True) stored x m₀ h₀ env.locals I it { s with heap := h, toks := tk } Q) E { s with heap := h, toks := tk })
    (done : ∀ (u : Str → Option Value) h tk, Fr h₀ env.locals h (fun y => if y = x then u y else if stored.contains y then u y else m₀ y) → News h₀ env.locals h led → Q .next { s with heap := h, toks := tk }) :
    wpAny (model prog w) A (pyIter (.ref l)) (fun it s₂ => LoopAtV prog w A h₀ env x body Q E it s₂) E s :=
  lp_list0 (lo := listOf vs.toArray k) stored hh ⟨_, (N _ hm).1, rfl, k, rfl⟩ (fun _ => hm) (N _ hm).2.1 F N turn done
theorem lp_endP {led : List (Addr × Obj)} {stored : List Str} {m₀ m' : Str → Option Value} {L I : Addr} {it : Obj} {s₁ : Shared} {h' : Heap} {tk : Nat} {news' : List (Addr × Obj)} {P : Prop}
    (F : Fr h₀ L h' m') (N : News h₀ L h' news') (hin : ∀ p ∈ led, p ∈ news') (hI : (I, it) ∈ news') (hne : ∀ p ∈ led, p.1 ≠ I) (hs : ∀ z, z ≠ x → stored.contains z = false → m' z = m₀ z) (hP : P) :
    LpEnd (σ := Unit) (fun _ => led) (fun _ => []) (fun _ => P) stored x m₀ h₀ L I it s₁ { s₁ with heap := h', toks := tk } :=
  lp_end () F N hin hI hne (List.forall_mem_nil _) hs hP
theorem lp_end0 {led : List (Addr × Obj)} {stored : List Str} {m₀ m' : Str → Option Value} {L I : Addr} {it : Obj} {s₁ : Shared} {h' : Heap} {tk : Nat} {news' : List (Addr × Obj)}
    (F : Fr h₀ L h' m') (N : News h₀ L h' news') (hin : ∀ p ∈ led, p ∈ news') (hI : (I, it) ∈ news') (hne : ∀ p ∈ led, p.1 ≠ I) (hs : ∀ z, z ≠ x → stored.contains z = false → m' z = m₀ z) :
    LpEnd (σ := Unit) (fun _ => led) (fun _ => []) (fun _ => True) stored x m₀ h₀ L I it s₁ { s₁ with heap := h', toks := tk } :=
  lp_end () F N hin hI hne (List.forall_mem_nil _) hs trivial

/-- a statement's ways meet: it stores the one bool `D` -/
def CutEnd (D : Bool) (y : Str) (m : Str → Option Value) (led : List (Addr × Obj)) (h₀ : Heap) (L : Addr) (s : Shared) (f : Flow) (s' : Shared) : Prop :=
  f = .next ∧ ∃ h' tk', s' = { s with heap := h', toks := tk' } ∧ Fr h₀ L h' (fun z => if z = y then some (.bool D) else m z) ∧ News h₀ L h' led
theorem cut_end {D D' : Bool} {y : Str} {m : Str → Option Value} {led led' : List (Addr × Obj)} {L : Addr} {h' : Heap} {tk' : Nat} (e : D' = D) (F : Fr h₀ L h' (fun z => if z = y then some (.bool D') else m z)) (N : News h₀ L h' led') (hs : ∀ p ∈ led, p ∈ led') :
    CutEnd D y m led h₀ L s .next { s with heap := h', toks := tk' } := ⟨rfl, h', tk', rfl, e ▸ F, fun p hp => N p (hs p hp)⟩
theorem cut_bool {M : Model} {st : Stmt} {m : Str → Option Value} {led : List (Addr × Obj)} (D : Bool) (y : Str) (_F : Fr h₀ env.locals s.heap m) (_N : News h₀ env.locals s.heap led)
    (hw : wpAny M A (exec st env) (CutEnd D y m led h₀ env.locals s) E s)
    (hc : ∀ h' tk', Fr h₀ env.locals h' (fun z => if z = y then some (.bool D) else m z) → News h₀ env.locals h' led → Q .next { s with heap := h', toks := tk' }) : wpAny M A (exec st env) Q E s :=
  wpAny_mono hw (fun f s' h => by obtain ⟨rfl, h', tk', rfl, F', N'⟩ := h; exact hc h' tk' F' N') fun _ _ e => e

/-- a statement cut off: it stores one value of which `R` holds -/
def CutV (R : Value → Prop) (y : Str) (m : Str → Option Value) (led : List (Addr × Obj)) (h₀ : Heap) (L : Addr) (s : Shared) (f : Flow) (s' : Shared) : Prop :=
  f = .next ∧ ∃ v h' tk', R v ∧ s' = { s with heap := h', toks := tk' } ∧ Fr h₀ L h' (fun z => if z = y then some v else m z) ∧ News h₀ L h' led
theorem cutV_end {R : Value → Prop} {v : Value} {y : Str} {m : Str → Option Value} {led led' : List (Addr × Obj)} {L : Addr} {h' : Heap} {tk' : Nat} (F : Fr h₀ L h' (fun z => if z = y then some v else m z)) (N : News h₀ L h' led') (hs : ∀ p ∈ led, p ∈ led') (hR : R v) :
    CutV R y m led h₀ L s .next { s with heap := h', toks := tk' } := ⟨rfl, v, h', tk', hR, rfl, F, fun p hp => N p (hs p hp)⟩
theorem cut_val {M : Model} {st : Stmt} {m : Str → Option Value} {led : List (Addr × Obj)} (R : Value → Prop) (y : Str) (_F : Fr h₀ env.locals s.heap m) (_N : News h₀ env.locals s.heap led)
    (hw : wpAny M A (exec st env) (CutV R y m led h₀ env.locals s) E s)
    (hc : ∀ v h' tk', R v → Fr h₀ env.locals h' (fun z => if z = y then some v else m z) → News h₀ env.locals h' led → Q .next { s with heap := h', toks := tk' }) : wpAny M A (exec st env) Q E s :=
  wpAny_mono hw (fun f s' h => by obtain ⟨rfl, v, h', tk', hR, rfl, F', N'⟩ := h; exact hc v h' tk' hR F' N') fun _ _ e => e
end
end
def quick0 : PySem.Str := PySem.Str.ofString "a"
theorem quick0_e : quick0 = quick0 := rfl
name_quick tw14155712436588014187 for quick0 by quick0_e
name_quick tw8075568018651887793 for quick0 by quick0_e
name_quick tw5752458178927563391 for quick0 by quick0_e
name_quick tw1226404381060279719 for quick0 by quick0_e
name_quick tw14979626087600564940 for quick0 by quick0_e
name_quick tw14682916456496288721 for quick0 by quick0_e
name_quick tw14127181297215883289 for quick0 by quick0_e
name_quick tw16152363201903940716 for quick0 by quick0_e
name_quick tw15750371108467400348 for quick0 by quick0_e
name_quick tw13261706936674628187 for quick0 by quick0_e
name_quick tw7026888358361353362 for quick0 by quick0_e
name_quick tw16867292956441546959 for quick0 by quick0_e
name_quick tw378412475510648054 for quick0 by quick0_e
name_quick tw4392076818467891588 for quick0 by quick0_e
name_quick tw11398097091735476289 for quick0 by quick0_e
name_quick tw15542503528162795033 for quick0 by quick0_e
name_quick tw3118938333895590913 for quick0 by quick0_e
name_quick tw12182807814244774211 for quick0 by quick0_e
name_quick tw16417370028952169744 for quick0 by quick0_e
name_quick tw16590896929057906003 for quick0 by quick0_e
name_quick tw8305217245672040833 for quick0 by quick0_e
name_quick tw6363645014702824404 for quick0 by quick0_e
name_quick tw11863081143760314161 for quick0 by quick0_e
name_quick tw7397068168572129948 for quick0 by quick0_e
name_quick tw8796240567053077481 for quick0 by quick0_e
name_quick tw12393455550290869266 for quick0 by quick0_e
name_quick tw6434265647005701932 for quick0 by quick0_e
name_quick tw11161088081135249708 for quick0 by quick0_e
name_quick tw1041845030581493396 for quick0 by quick0_e
name_quick tw1638017585896720355 for quick0 by quick0_e
name_quick tw11462045893675790159 for quick0 by quick0_e
name_quick tw5248340912204065574 for quick0 by quick0_e
name_quick tw5345256250457102556 for quick0 by quick0_e
name_quick tw117213463901210413 for quick0 by quick0_e
name_quick tw2660918139993853925 for quick0 by quick0_e
name_quick tw15894407043143930727 for quick0 by quick0_e
name_quick tw2670528217467546775 for quick0 by quick0_e
name_quick tw16406328271908756883 for quick0 by quick0_e
name_quick tw8017206721242287953 for quick0 by quick0_e
name_quick tw15823609455315575823 for quick0 by quick0_e
name_quick tw4658958612460137192 for quick0 by quick0_e
name_quick tw9501820088010722379 for quick0 by quick0_e
name_quick tw17434858337260393937 for quick0 by quick0_e
name_quick tw14386061602966655976 for quick0 by quick0_e
name_quick tw2664551874359636763 for quick0 by quick0_e
name_quick tw8459811325457737761 for quick0 by quick0_e
name_quick tw12821735335276811757 for quick0 by quick0_e
name_quick tw14112274594779413971 for quick0 by quick0_e
name_quick tw16349216596472256690 for quick0 by quick0_e
name_quick tw10057510723706494237 for quick0 by quick0_e
name_quick tw3362959441861295915 for quick0 by quick0_e
name_quick tw17552769576498331613 for quick0 by quick0_e
name_quick tw18416463498863911781 for quick0 by quick0_e
name_quick tw17532440430192770315 for quick0 by quick0_e
name_quick tw6662432510661729299 for quick0 by quick0_e
name_quick tw16437185098154296904 for quick0 by quick0_e
name_quick tw325292655437039998 for quick0 by quick0_e
name_quick tw14778209649434054790 for quick0 by quick0_e
name_quick tw14214133299417103183 for quick0 by quick0_e
name_quick tw607167704815816724 for quick0 by quick0_e
name_quick tw17517737089405305841 for quick0 by quick0_e
name_quick tw1204117194425446250 for quick0 by quick0_e
name_quick tw3619232141914619222 for quick0 by quick0_e
name_quick tw7392212959928792091 for quick0 by quick0_e
name_quick tw6144853644547557980 for quick0 by quick0_e
name_quick tw11790162104776037713 for quick0 by quick0_e
name_quick tw1617757218408452269 for quick0 by quick0_e
name_quick tw2354101950205528012 for quick0 by quick0_e
name_quick tw9458956999447867950 for quick0 by quick0_e
name_quick tw17111948838632640456 for quick0 by quick0_e
name_quick tw12233582284571471492 for quick0 by quick0_e
name_quick tw2948108419219029167 for quick0 by quick0_e
name_quick tw15560853006256673968 for quick0 by quick0_e
name_quick tw6213141578215901147 for quick0 by quick0_e
name_quick tw14223099787259518943 for quick0 by quick0_e
name_quick tw13759679279233594173 for quick0 by quick0_e
name_quick tw13912434898499826684 for quick0 by quick0_e
name_quick tw12898947447245864913 for quick0 by quick0_e
name_quick tw13526986893379352335 for quick0 by quick0_e
name_quick tw14108194823987119177 for quick0 by quick0_e
name_quick tw2736616831223182526 for quick0 by quick0_e
name_quick tw16349804527192203551 for quick0 by quick0_e
name_quick tw13559156169165276386 for quick0 by quick0_e
name_quick tw17520869792638436183 for quick0 by quick0_e
name_quick tw10948738476641704880 for quick0 by quick0_e
name_quick tw4681523508651956083 for quick0 by quick0_e
name_quick tw10470071008263537045 for quick0 by quick0_e
name_quick tw10007627690174824804 for quick0 by quick0_e
name_quick tw5268983451555188008 for quick0 by quick0_e
name_quick tw12659028871203227004 for quick0 by quick0_e
name_quick tw5068434257544371817 for quick0 by quick0_e
name_quick tw17026713947507217902 for quick0 by quick0_e
name_quick tw704327219915372674 for quick0 by quick0_e
name_quick tw4525517667737911620 for quick0 by quick0_e
name_quick tw6019396324639902685 for quick0 by quick0_e
name_quick tw18263319221461684349 for quick0 by quick0_e
name_quick tw183835017167291270 for quick0 by quick0_e
name_quick tw15490439104401381959 for quick0 by quick0_e
name_quick tw1962928258387122110 for quick0 by quick0_e
name_quick tw16414604833108395602 for quick0 by quick0_e
name_quick tw716658179208862652 for quick0 by quick0_e
name_quick tw13987355940573415152 for quick0 by quick0_e
name_quick tw15323854079317868165 for quick0 by quick0_e
name_quick tw13141144453892091621 for quick0 by quick0_e
name_quick tw5925582254088234700 for quick0 by quick0_e
name_quick tw15663404670287596823 for quick0 by quick0_e
name_quick tw17000458434675057986 for quick0 by quick0_e
name_quick tw16531745337717519161 for quick0 by quick0_e
name_quick tw16817318245366136608 for quick0 by quick0_e
name_quick tw12177639751122801600 for quick0 by quick0_e
name_quick tw3972328310683599613 for quick0 by quick0_e
name_quick tw12750523984047038209 for quick0 by quick0_e
name_quick tw3636048126100218174 for quick0 by quick0_e
name_quick tw16655555454665732581 for quick0 by quick0_e
name_quick tw16643706677886111943 for quick0 by quick0_e
name_quick tw17000155066101142889 for quick0 by quick0_e
name_quick tw10942035263794033107 for quick0 by quick0_e
name_quick tw1886563365779066154 for quick0 by quick0_e
name_quick tw7275051467321613617 for quick0 by quick0_e
name_quick tw13314330512976039754 for quick0 by quick0_e
name_quick tw2627984346626558326 for quick0 by quick0_e
name_quick tw12635297910168745909 for quick0 by quick0_e
name_quick tw2711585505577850959 for quick0 by quick0_e
name_quick tw10833955939284561965 for quick0 by quick0_e
name_quick tw16018607276475445134 for quick0 by quick0_e
name_quick tw12647630874787467225 for quick0 by quick0_e
name_quick tw17300597898927385350 for quick0 by quick0_e
name_quick tw1055568401681811165 for quick0 by quick0_e
name_quick tw9151444980202551346 for quick0 by quick0_e
name_quick tw3355348695024010778 for quick0 by quick0_e
name_quick tw9759809726879904816 for quick0 by quick0_e
name_quick tw1377046205977697930 for quick0 by quick0_e
name_quick tw7469732015759309437 for quick0 by quick0_e
name_quick tw4936483359421988267 for quick0 by quick0_e
name_quick tw7783732958741208154 for quick0 by quick0_e
name_quick tw17341736924252097559 for quick0 by quick0_e
name_quick tw13678640442995254988 for quick0 by quick0_e
name_quick tw12329403913580668285 for quick0 by quick0_e
name_quick tw558745408833754511 for quick0 by quick0_e
name_quick tw1772237422875290029 for quick0 by quick0_e
name_quick tw1706496860858754268 for quick0 by quick0_e
name_quick tw17244072584429378644 for quick0 by quick0_e
name_quick tw17100903815162463580 for quick0 by quick0_e
name_quick tw6148621092414575339 for quick0 by quick0_e
name_quick tw1735497430108182060 for quick0 by quick0_e
name_quick tw15007238320947547705 for quick0 by quick0_e
name_quick tw6059929106960060952 for quick0 by quick0_e
name_quick tw2958062672499776758 for quick0 by quick0_e
name_quick tw4527066259768149269 for quick0 by quick0_e
name_quick tw11277716924127702174 for quick0 by quick0_e
name_quick tw9979284746773624096 for quick0 by quick0_e
name_quick tw15376083050721069600 for quick0 by quick0_e
name_quick tw2905824091091238844 for quick0 by quick0_e
name_quick tw3577408171920636059 for quick0 by quick0_e
name_quick tw8603108125212654177 for quick0 by quick0_e
name_quick tw14305139224198610471 for quick0 by quick0_e
name_quick tw1320183511955256522 for quick0 by quick0_e
name_quick tw10314498396905981064 for quick0 by quick0_e
name_quick tw4011157648589011858 for quick0 by quick0_e
name_quick tw9931943479562821362 for quick0 by quick0_e
name_quick tw8902219603052485911 for quick0 by quick0_e
name_quick tw11985326045990495214 for quick0 by quick0_e
name_quick tw18340240734955500558 for quick0 by quick0_e
name_quick tw282004115355043989 for quick0 by quick0_e
name_quick tw1402947280878808549 for quick0 by quick0_e
name_quick tw16752143609539240740 for quick0 by quick0_e
name_quick tw16741492637210864865 for quick0 by quick0_e
name_quick tw6004533443673955352 for quick0 by quick0_e
name_quick tw2422670821966735624 for quick0 by quick0_e
name_quick tw5529568453561195837 for quick0 by quick0_e
name_quick tw9285146279643344392 for quick0 by quick0_e
name_quick tw11588390666370768167 for quick0 by quick0_e
name_quick tw9951705424602377420 for quick0 by quick0_e
name_quick tw16413264400604254196 for quick0 by quick0_e
name_quick tw17774800907425398282 for quick0 by quick0_e
name_quick tw3778451253796500701 for quick0 by quick0_e
name_quick tw7299951869573292228 for quick0 by quick0_e
name_quick tw8620020772036689432 for quick0 by quick0_e
name_quick tw7892128664451923741 for quick0 by quick0_e
name_quick tw7009043117176579089 for quick0 by quick0_e
name_quick tw12835720964997663042 for quick0 by quick0_e
name_quick tw15902184279288820625 for quick0 by quick0_e
name_quick tw12981051755390344553 for quick0 by quick0_e
name_quick tw7198390536060210744 for quick0 by quick0_e
name_quick tw7745614565497352828 for quick0 by quick0_e
name_quick tw17828083071136270317 for quick0 by quick0_e
name_quick tw17497748084772794779 for quick0 by quick0_e
name_quick tw219737044198020058 for quick0 by quick0_e
name_quick tw6929956602132211858 for quick0 by quick0_e
name_quick tw10500077913531017323 for quick0 by quick0_e
name_quick tw11013792430000457035 for quick0 by quick0_e
name_quick tw9673203406766833760 for quick0 by quick0_e
name_quick tw16049961110935095269 for quick0 by quick0_e
name_quick tw13900631225919944168 for quick0 by quick0_e
name_quick tw3282434896037501709 for quick0 by quick0_e
name_quick tw11566699232636054958 for quick0 by quick0_e
name_quick tw932993149863042379 for quick0 by quick0_e
name_quick tw13890744642731562755 for quick0 by quick0_e
name_quick tw16439824349840649037 for quick0 by quick0_e
name_quick tw16296994325663420285 for quick0 by quick0_e
name_quick tw17954471519018878134 for quick0 by quick0_e
name_quick tw17730448691065144110 for quick0 by quick0_e
name_quick tw6587116730350146372 for quick0 by quick0_e
name_quick tw16180582048198870337 for quick0 by quick0_e
name_quick tw4407734736301137906 for quick0 by quick0_e
name_quick tw13607416678640721797 for quick0 by quick0_e
name_quick tw12450158673883907302 for quick0 by quick0_e
name_quick tw7650934615059315214 for quick0 by quick0_e
name_quick tw6722154040420286063 for quick0 by quick0_e
name_quick tw14896874001708588922 for quick0 by quick0_e
name_quick tw12022618010286034681 for quick0 by quick0_e
name_quick tw17352973434858128600 for quick0 by quick0_e
name_quick tw11682084944484805031 for quick0 by quick0_e
name_quick tw682011567655089306 for quick0 by quick0_e
name_quick tw8119918657739134586 for quick0 by quick0_e
name_quick tw9315938663221665524 for quick0 by quick0_e
name_quick tw4434333111790514575 for quick0 by quick0_e
name_quick tw2951486255847992690 for quick0 by quick0_e
name_quick tw10317580896714288900 for quick0 by quick0_e
name_quick tw1763209079605825380 for quick0 by quick0_e
name_quick tw12832477231654346042 for quick0 by quick0_e
name_quick tw9305782018832362445 for quick0 by quick0_e
name_quick tw9300948228871686676 for quick0 by quick0_e
name_quick tw5518745428033880147 for quick0 by quick0_e
name_quick tw1184552218554016812 for quick0 by quick0_e
name_quick tw912392155897948271 for quick0 by quick0_e
name_quick tw2447775223705975068 for quick0 by quick0_e
name_quick tw1503297043503765363 for quick0 by quick0_e
name_quick tw1574873078441994576 for quick0 by quick0_e
name_quick tw15806122291839087668 for quick0 by quick0_e
name_quick tw17057272898397164401 for quick0 by quick0_e
name_quick tw14884601019740666482 for quick0 by quick0_e
name_quick tw17975652961387846372 for quick0 by quick0_e
name_quick tw7035115661146626270 for quick0 by quick0_e
name_quick tw7581816359482902497 for quick0 by quick0_e
name_quick tw2922074901204462755 for quick0 by quick0_e
name_quick tw11310463157757771331 for quick0 by quick0_e
name_quick tw10528696920762540405 for quick0 by quick0_e
name_quick tw6967401301877209104 for quick0 by quick0_e
name_quick tw13809362725867891129 for quick0 by quick0_e
name_quick tw17804436615005485693 for quick0 by quick0_e
name_quick tw5721027456603625697 for quick0 by quick0_e
name_quick tw16350708796919097252 for quick0 by quick0_e
name_quick tw12734952128020822468 for quick0 by quick0_e
name_quick tw8047484207015712433 for quick0 by quick0_e
name_quick tw15450981722951097364 for quick0 by quick0_e
name_quick tw11796506867022685745 for quick0 by quick0_e
name_quick tw5135500740108067664 for quick0 by quick0_e
name_quick tw3764465048917985505 for quick0 by quick0_e
name_quick tw17279654841073493023 for quick0 by quick0_e
name_quick tw1258717718454355964 for quick0 by quick0_e
name_quick tw10706342367453228570 for quick0 by quick0_e
name_quick tw1092655722715705105 for quick0 by quick0_e
name_quick tw10887116778572429059 for quick0 by quick0_e
name_quick tw15742981410569661332 for quick0 by quick0_e
name_quick tw7250012664060256230 for quick0 by quick0_e
name_quick tw2460228577881660442 for quick0 by quick0_e
name_quick tw136631920214876835 for quick0 by quick0_e
name_quick tw10323183001455561277 for quick0 by quick0_e
name_quick tw17164873540382356111 for quick0 by quick0_e
name_quick tw11306939235166856333 for quick0 by quick0_e
name_quick tw460243522976405022 for quick0 by quick0_e
name_quick tw10424941004445345732 for quick0 by quick0_e
name_quick tw470574548607681690 for quick0 by quick0_e
name_quick tw3093977132361051618 for quick0 by quick0_e
name_quick tw3131671291697673992 for quick0 by quick0_e
name_quick tw11445135464325071761 for quick0 by quick0_e
name_quick tw14311459727803291754 for quick0 by quick0_e
name_quick tw8719427161674164953 for quick0 by quick0_e
name_quick tw1258299570235058372 for quick0 by quick0_e
name_quick tw8727135674562949291 for quick0 by quick0_e
name_quick tw7232422423428716515 for quick0 by quick0_e
name_quick tw11543547407058413889 for quick0 by quick0_e
name_quick tw7401281599722004195 for quick0 by quick0_e
name_quick tw6550987210724342151 for quick0 by quick0_e
name_quick tw11270796479367742343 for quick0 by quick0_e
name_quick tw4172830789200971933 for quick0 by quick0_e
name_quick tw9821368406582625841 for quick0 by quick0_e
name_quick tw7276740287692124622 for quick0 by quick0_e
name_quick tw1708024556718086227 for quick0 by quick0_e
name_quick tw15880737140895825463 for quick0 by quick0_e
name_quick tw14209830616999942402 for quick0 by quick0_e
name_quick tw12488000419048109807 for quick0 by quick0_e
name_quick tw7483462131439158144 for quick0 by quick0_e
name_quick tw10939839348159177617 for quick0 by quick0_e
name_quick tw2001226814458364393 for quick0 by quick0_e
name_quick tw11964429278604863157 for quick0 by quick0_e
name_quick tw16432479971616331241 for quick0 by quick0_e
name_quick tw13471461260053382970 for quick0 by quick0_e
name_quick tw4275521005467322725 for quick0 by quick0_e
name_quick tw15168306246750427876 for quick0 by quick0_e
name_quick tw13640514254501968386 for quick0 by quick0_e
name_quick tw6135381517318000843 for quick0 by quick0_e
name_quick tw7802139600951554647 for quick0 by quick0_e
name_quick tw15475462885187679331 for quick0 by quick0_e
name_quick tw6683783046931543321 for quick0 by quick0_e
name_quick tw10010936943081839664 for quick0 by quick0_e
name_quick tw11853533878840232495 for quick0 by quick0_e
name_quick tw17827458813498177553 for quick0 by quick0_e
name_quick tw14714103240675001986 for quick0 by quick0_e
name_quick tw8579058602437062094 for quick0 by quick0_e
name_quick tw17101871299007795629 for quick0 by quick0_e
name_quick tw16548257151911338427 for quick0 by quick0_e
name_quick tw15263041282635125899 for quick0 by quick0_e
name_quick tw43969757491396457 for quick0 by quick0_e
name_quick tw1829445100760108279 for quick0 by quick0_e
name_quick tw2686087405813989436 for quick0 by quick0_e
name_quick tw1333364371103165705 for quick0 by quick0_e
name_quick tw11495947367809530248 for quick0 by quick0_e
name_quick tw17988542015724977305 for quick0 by quick0_e
name_quick tw392140993173905013 for quick0 by quick0_e
name_quick tw8537084889766193716 for quick0 by quick0_e
name_quick tw18260038339965228139 for quick0 by quick0_e
name_quick tw6426273055680023932 for quick0 by quick0_e
name_quick tw2283851925072248500 for quick0 by quick0_e
name_quick tw4071324889030633612 for quick0 by quick0_e
name_quick tw10227693086864044499 for quick0 by quick0_e
name_quick tw4980102563643897964 for quick0 by quick0_e
name_quick tw11994158751524154303 for quick0 by quick0_e
name_quick tw2611137233208623240 for quick0 by quick0_e
name_quick tw3264259588550801142 for quick0 by quick0_e
name_quick tw1749818173716722547 for quick0 by quick0_e
name_quick tw6817277305950994716 for quick0 by quick0_e
name_quick tw9396933662098498411 for quick0 by quick0_e
name_quick tw7299303143086499733 for quick0 by quick0_e
name_quick tw2719445374943340272 for quick0 by quick0_e
name_quick tw8424611434330503625 for quick0 by quick0_e
name_quick tw11108263761283441063 for quick0 by quick0_e
name_quick tw5770868932273138760 for quick0 by quick0_e
name_quick tw11317593695737139937 for quick0 by quick0_e
name_quick tw15066959818950650227 for quick0 by quick0_e
name_quick tw3152983702415266003 for quick0 by quick0_e
name_quick tw14971970265804392439 for quick0 by quick0_e
name_quick tw17765544955259793912 for quick0 by quick0_e
name_quick tw17018628822417861297 for quick0 by quick0_e
open_top hd for PySem.Challenge.rw_xq0002_05
local macro_rules | `(tactic| k_in) => `(tactic| first | (with_reducible assumption) | exact Frag.In.keeps (by with_reducible assumption) (Fr.keep (by with_reducible assumption)))
local macro_rules | `(tactic| walk_at "rm") => `(tactic| first | exact room3 (by with_reducible assumption) rfl | exact room2 (by with_reducible assumption) rfl | exact room1 (by with_reducible assumption) | ((try simp only [depth_under_make, depth_under_kw, depth_in1, depth_deeper, depth_caller, units_in1, units_deeper, Around.mark_units, units_caller]); (try dsimp only [ktrTop]); first | exact room3 (by with_reducible assumption) rfl | exact room2 (by with_reducible assumption) rfl | exact room1 (by with_reducible assumption) | decide))
local macro_rules | `(tactic| ktr_room) => `(tactic| walk_at "rm")
local macro_rules | `(tactic| ktr_units) => `(tactic| walk_at "rm")
local macro_rules | `(tactic| k_room) => `(tactic| ktr_room)
local macro_rules | `(tactic| k_units) => `(tactic| ktr_units)
local macro_rules | `(tactic| bits_by_make) => `(tactic| first | with_reducible assumption | exact b64a (by with_reducible assumption) (by with_reducible assumption) | exact b64c (by with_reducible assumption) | exact b64b (by with_reducible assumption) (by with_reducible assumption) (by with_reducible assumption) | exact b64d (by with_reducible assumption) (by with_reducible assumption) | exact b64e (by with_reducible assumption) (by with_reducible assumption))
local macro_rules | `(tactic| walk_at "ltc") => `(tactic| first | with_reducible assumption | exact Nat.lt_trans (by with_reducible assumption) (by walk_at "ltc"))
local macro_rules | `(tactic| k_ne) => `(tactic| (refine neN ?_; (try dsimp only); first | with_reducible assumption | exact Nat.ne_of_gt (by walk_at "ltc") | exact Nat.ne_of_lt (by walk_at "ltc") | omega))
local macro_rules | `(tactic| k_handed) => `(tactic| with_reducible assumption)
local macro_rules | `(tactic| k_enter) => `(tactic| (
  refine' code_def ?k1 ?k2 ?k3 ?k4 ?k5 ?kA ?kF ?kK ?k6 ?k7 ?k8 ?k9 ?kB ?_ ?c2 ?c3 ?c4 ?c5; (case kA => exact rfl); (case kF => exact rfl); (case kK => first | exact rfl | assumption); (case k1 => k_asm); (case k2 => k_asm); (case k3 => k_asm); (case k4 => k_asm); (case k5 => k_asm); (case k6 => k_is); (case k7 => k_is); (case k8 => k_room)
  (case k9 => first | exact BindsTo.of_eq rfl | exact binds_K (by k_in) rfl (by k_is) rfl rfl rfl); (case c5 => decide); (case kB => exact locs rfl); (case c2 => exact rfl); (case c3 => exact rfl); (case c4 => exact rfl); k_whole; intro g' L' h' FG' F' N' B' X' T'; (try dsimp only); (try k_lift B'); (try k_fold)))
local macro_rules | `(tactic| walk_at "ps") => `(tactic| first | exact List.forall_mem_nil _ | (refine List.forall_mem_cons.mpr ⟨rfl, ?_⟩; walk_at "ps"))
local macro_rules | `(tactic| walk_at "bits") => `(tactic| exact Nat.le_trans (by bits_by_make) (by decide))
local macro_rules | `(tactic| walk_at "use") => `(tactic| (
  (case k1 => k_asm); (case k2 => k_asm); (case k3 => k_asm); (case k4 => k_asm); (case k5 => k_asm); (case k6 => first | rfl | assumption); (case k7 => ktr_room); (case k8 => ktr_units); (case k9 => first | trivial | k_asm)))
local macro_rules | `(tactic| k_mem) => `(tactic| with_reducible_and_instances assumption)
local macro_rules | `(tactic| walk_at "LpPost") => `(tactic| dsimp only [LpPost])
local macro_rules | `(tactic| walk_at "same") => `(tactic| (
  intro z h1 h3
  first | rfl | ((simp only [List.contains_cons, List.contains_nil, Bool.or_false, Bool.or_eq_false_iff, beq_eq_false_iff_ne, ne_eq] at h3); (simp +zetaDelta [h1, h3]; done)) | (simp +zetaDelta [h1]; done) | ((simp only [List.contains_cons, List.contains_nil, Bool.or_false, Bool.or_eq_false_iff, beq_eq_false_iff_ne, ne_eq] at h3); (simp +zetaDelta [h1, h3, kstB]; done)) | (simp +zetaDelta [h1, kstB]; done)))
local macro_rules | `(tactic| walk_at "LpEnd") => `(tactic| (
  refine lp_end0 (by k_asm) (by k_asm) ?e1 ?e2 (by k_asm) ?e3
  (case e1 => (intro p hp; kst_mem)); (case e2 => k_mem); (case e3 => walk_at "same")))
local macro_rules | `(tactic| k_all) => `(tactic| with_reducible assumption)
-- E05a
section
open Lean.Grind
namespace Ed
variable {R : Type} [CommRing R]
/-- what the field gives: no zero divisors, inverses, an odd characteristic, r not 0, d no square -/
structure Fld (r d : R) (inv : R → R) : Prop where
  nz : ∀ x y : R, x * y = 0 → x = 0 ∨ y = 0
  iv : ∀ x : R, x ≠ 0 → x * inv x = 1
  one : (1 : R) ≠ 0
  two : (2 : R) ≠ 0
  r0 : r ≠ 0
  ns : ∀ s t : R, s * s = d * (t * t) → t = 0
def On (a d : R) (P : R × R) : Prop := a * (P.1 * P.1) + P.2 * P.2 = 1 + d * (P.1 * P.1 * (P.2 * P.2))
def plus (a d : R) (inv : R → R) (P Q : R × R) : R × R :=
  ((P.1 * Q.2 + P.2 * Q.1) * inv (1 + d * P.1 * Q.1 * P.2 * Q.2), (P.2 * Q.2 - a * P.1 * Q.1) * inv (1 - d * P.1 * Q.1 * P.2 * Q.2))
variable {r d : R} {inv : R → R}
theorem Fld.d0 (h : Fld r d inv) : d ≠ 0 := fun e => h.one (h.ns 0 1 (by grind))
theorem Fld.mul0 (h : Fld r d inv) {x y : R} (hx : x ≠ 0) (hy : y ≠ 0) : x * y ≠ 0 := fun e => (h.nz x y e).elim hx hy
theorem Fld.can (h : Fld r d inv) {x y z : R} (hx : x ≠ 0) (e : x * y = x * z) : y = z := by
  have h1 : x * (y - z) = 0 := by grind
  rcases h.nz _ _ h1 with h2 | h2
  · exact absurd h2 hx
  · grind
theorem Fld.sq (h : Fld r d inv) {x y : R} (e : x * x = y * y) : x = y ∨ x = -y := by
  have h1 : (x - y) * (x + y) = 0 := by grind
  rcases h.nz _ _ h1 with h2 | h2
  · left; grind
  · right; grind
theorem compl (h : Fld r d inv) {x1 y1 x2 y2 e : R} (o1 : r * r * (x1 * x1) + y1 * y1 = 1 + d * (x1 * x1 * (y1 * y1))) (o2 : r * r * (x2 * x2) + y2 * y2 = 1 + d * (x2 * x2 * (y2 * y2))) (he : e * e = 1) :
    1 + e * (d * x1 * x2 * y1 * y2) ≠ 0 := by
  intro h0
  have hx1 : x1 * y1 ≠ 0 := fun hz => h.one (by grind)
  have h1 : d * x1 * x2 * y1 * y2 = -e := by grind
  have hs1 : (r * x1 - e * y1) * (r * x1 - e * y1) = d * ((x1 * y1 * (r * x2 + y2)) * (x1 * y1 * (r * x2 + y2))) := by grind
  have hs2 : (r * x1 + e * y1) * (r * x1 + e * y1) = d * ((x1 * y1 * (r * x2 - y2)) * (x1 * y1 * (r * x2 - y2))) := by grind
  have t1 : r * x2 + y2 = 0 := (h.nz _ _ (h.ns _ _ hs1)).resolve_left hx1
  have t2 : r * x2 - y2 = 0 := (h.nz _ _ (h.ns _ _ hs2)).resolve_left hx1
  have t3 : 2 * (r * x2) = 0 := by grind
  have t4 : r * x2 = 0 := (h.nz _ _ t3).resolve_left h.two
  have t5 : y2 = 0 := by grind
  have t6 : x2 = 0 := (h.nz _ _ t4).resolve_left h.r0
  exact h.one (by grind)
theorem compl1 (h : Fld r d inv) {P Q : R × R} (o1 : On (r * r) d P) (o2 : On (r * r) d Q) : 1 + d * P.1 * Q.1 * P.2 * Q.2 ≠ 0 := by
  have := compl h (e := 1) o1 o2 (by grind)
  intro e; exact this (by grind)
theorem compl2 (h : Fld r d inv) {P Q : R × R} (o1 : On (r * r) d P) (o2 : On (r * r) d Q) : 1 - d * P.1 * Q.1 * P.2 * Q.2 ≠ 0 := by
  have := compl h (e := -1) o1 o2 (by grind)
  intro e; exact this (by grind)
theorem cof3 (a d x1 y1 x2 y2 : R) :
  (1 - d * x1 * x2 * y1 * y2) * (1 - d * x1 * x2 * y1 * y2) * (a * ((x1 * y2 + y1 * x2) * (x1 * y2 + y1 * x2))) + (1 + d * x1 * x2 * y1 * y2) * (1 + d * x1 * x2 * y1 * y2) * ((y1 * y2 - a * x1 * x2) * (y1 * y2 - a * x1 * x2)) - ((1 + d * x1 * x2 * y1 * y2) * (1 + d * x1 * x2 * y1 * y2) * ((1 - d * x1 * x2 * y1 * y2) * (1 - d * x1 * x2 * y1 * y2)) + d * ((x1 * y2 + y1 * x2) * (x1 * y2 + y1 * x2) * ((y1 * y2 - a * x1 * x2) * (y1 * y2 - a * x1 * x2))))
  = (0 - a*a*d*x1*x1*x2*x2*x2*x2*y2*y2 - 2*a*a*x2*x2*x2*x2*y2*y2 + a*a*x2*x2*x2*x2 + a*d*d*x1*x1*x2*x2*x2*x2*y2*y2*y2*y2 - a*d*x1*x1*x2*x2*y2*y2*y2*y2 - a*d*y1*y1*x2*x2*x2*x2*y2*y2 + 2*a*d*x2*x2*x2*x2*y2*y2*y2*y2 - 2*a*x2*x2*y2*y2*y2*y2 + 4*a*x2*x2*y2*y2 + d*d*d*x1*x1*y1*y1*x2*x2*x2*x2*y2*y2*y2*y2 + d*d*y1*y1*x2*x2*x2*x2*y2*y2*y2*y2 - d*d*x2*x2*x2*x2*y2*y2*y2*y2 - d*y1*y1*x2*x2*y2*y2*y2*y2 - 2*d*x2*x2*y2*y2 + y2*y2*y2*y2) * (a*x1*x1 + y1*y1 - 1 - d*x1*x1*y1*y1) + (a*a*d*x1*x1*x1*x1*x2*x2*y2*y2 + 2*a*a*x1*x1*x2*x2*y2*y2 - a*a*x1*x1*x2*x2 - 2*a*d*x1*x1*x2*x2*y2*y2 - a*x1*x1*y2*y2 + 2*a*y1*y1*x2*x2*y2*y2 - a*y1*y1*x2*x2 - 2*a*x2*x2*y2*y2 + a*x2*x2 + d*y1*y1*y1*y1*x2*x2*y2*y2 - 2*d*y1*y1*x2*x2*y2*y2 + d*x2*x2*y2*y2 - y1*y1*y2*y2 + y2*y2 + 1) * (a*x2*x2 + y2*y2 - 1 - d*x2*x2*y2*y2) := by grind
theorem on_plus (h : Fld r d inv) {P Q : R × R} (o1 : On (r * r) d P) (o2 : On (r * r) d Q) : On (r * r) d (plus (r * r) d inv P Q) := by
  have c1 := compl1 h o1 o2
  have c2 := compl2 h o1 o2
  have i1 := h.iv _ c1
  have i2 := h.iv _ c2
  obtain ⟨x1, y1⟩ := P
  obtain ⟨x2, y2⟩ := Q
  unfold On plus at *
  dsimp only at *
  generalize inv (1 + d * x1 * x2 * y1 * y2) = i at *
  generalize inv (1 - d * x1 * x2 * y1 * y2) = j at *
  have c := h.mul0 (h.mul0 c1 c1) (h.mul0 c2 c2)
  refine h.can c ?_
  have e : ∀ u v : R, (1 + d * x1 * x2 * y1 * y2) * (1 + d * x1 * x2 * y1 * y2) * ((1 - d * x1 * x2 * y1 * y2) * (1 - d * x1 * x2 * y1 * y2)) * (r * r * (u * i * (u * i)) + v * j * (v * j)) = (1 - d * x1 * x2 * y1 * y2) * (1 - d * x1 * x2 * y1 * y2) * (r * r * (u * u)) + (1 + d * x1 * x2 * y1 * y2) * (1 + d * x1 * x2 * y1 * y2) * (v * v) := by
    intro u v
    generalize d * x1 * x2 * y1 * y2 = D at *
    grind
  have e2 : ∀ u v : R, (1 + d * x1 * x2 * y1 * y2) * (1 + d * x1 * x2 * y1 * y2) * ((1 - d * x1 * x2 * y1 * y2) * (1 - d * x1 * x2 * y1 * y2)) * (1 + d * (u * i * (u * i) * (v * j * (v * j)))) = (1 + d * x1 * x2 * y1 * y2) * (1 + d * x1 * x2 * y1 * y2) * ((1 - d * x1 * x2 * y1 * y2) * (1 - d * x1 * x2 * y1 * y2)) + d * (u * u * (v * v)) := by
    intro u v
    generalize d * x1 * x2 * y1 * y2 = D at *
    grind
  rw [e, e2]
  clear e e2 i1 i2 c c1 c2
  have h1 : r*r*x1*x1 + y1*y1 - 1 - d*x1*x1*y1*y1 = 0 := by grind
  have h2 : r*r*x2*x2 + y2*y2 - 1 - d*x2*x2*y2*y2 = 0 := by grind
  have k := cof3 (r*r) d x1 y1 x2 y2
  rw [h1, h2] at k
  refine Lean.Grind.AddCommGroup.sub_eq_zero_iff.mp (k.trans ?_)
  rw [Semiring.mul_zero, Semiring.mul_zero, Semiring.add_zero]

omit [CommRing R] in
theorem ext2 {P Q : R × R} (h1 : P.1 = Q.1) (h2 : P.2 = Q.2) : P = Q := by
  obtain ⟨a, b⟩ := P; obtain ⟨c, e⟩ := Q; simp only at h1 h2; rw [h1, h2]
theorem plus_comm (a : R) (P Q : R × R) : plus a d inv P Q = plus a d inv Q P := by
  unfold plus
  have e : d * P.1 * Q.1 * P.2 * Q.2 = d * Q.1 * P.1 * Q.2 * P.2 := by grind
  rw [e]
  refine ext2 ?_ ?_ <;> dsimp only <;> grind
theorem Fld.inv1 (h : Fld r d inv) : inv 1 = 1 := by have := h.iv 1 h.one; grind
theorem plus_zero (h : Fld r d inv) (a : R) (P : R × R) : plus a d inv P (0, 1) = P := by
  unfold plus
  have e1 : 1 + d * P.1 * 0 * P.2 * 1 = (1 : R) := by grind
  have e2 : 1 - d * P.1 * 0 * P.2 * 1 = (1 : R) := by grind
  dsimp only
  rw [e1, e2, h.inv1]
  refine ext2 ?_ ?_ <;> dsimp only <;> grind
theorem on_zero (a : R) : On a d (0, 1) := by unfold On; dsimp only; grind
def neg (P : R × R) : R × R := (-P.1, P.2)
theorem on_neg {a : R} {P : R × R} (o : On a d P) : On a d (neg P) := by unfold On neg at *; dsimp only; grind
theorem plus_neg (h : Fld r d inv) {P : R × R} (o : On (r * r) d P) : plus (r * r) d inv P (neg P) = (0, 1) := by
  have c2 := compl2 h o (on_neg o)
  have c1 := compl1 h o (on_neg o)
  have i1 := h.iv _ c1
  have i2 := h.iv _ c2
  unfold plus neg On at *
  dsimp only at *
  refine ext2 ?_ ?_ <;> dsimp only
  · grind
  · grind
theorem cof1 (a d x1 y1 x2 y2 x3 y3 : R) :
  ((x1*y2+y1*x2)*(1-d*x1*x2*y1*y2)*y3 + (y1*y2-a*x1*x2)*(1+d*x1*x2*y1*y2)*x3) * ((1+d*x2*x3*y2*y3)*(1-d*x2*x3*y2*y3) + d*x1*y1*(x2*y3+y2*x3)*(y2*y3-a*x2*x3)) - (x1*(y2*y3-a*x2*x3)*(1+d*x2*x3*y2*y3) + y1*(x2*y3+y2*x3)*(1-d*x2*x3*y2*y3)) * ((1+d*x1*x2*y1*y2)*(1-d*x1*x2*y1*y2) + d*(x1*y2+y1*x2)*(y1*y2-a*x1*x2)*x3*y3)
  = (0 - a*a*d*x1*x2*x2*x2*x2*y2*x3*x3*y3 - a*a*d*x1*x2*x2*x2*y2*y2*x3*x3*x3 + a*d*d*x1*x2*x2*x2*x2*y2*y2*y2*x3*x3*y3 + a*d*x1*x2*x2*x2*y2*y2*x3 - a*d*y1*x2*x2*x2*x2*y2*x3*y3*y3 + a*d*y1*x2*x2*y2*y2*y2*x3*x3*x3 - d*d*x1*x2*x2*x2*y2*y2*y2*y2*x3*y3*y3 + d*d*y1*x2*x2*x2*x2*y2*y2*y2*x3*y3*y3 + d*d*y1*x2*x2*x2*y2*y2*y2*y2*x3*x3*y3 + d*x1*x2*x2*y2*y2*y2*y3*y3*y3 - d*x1*x2*x2*y2*y2*y2*y3 + d*x1*x2*y2*y2*y2*y2*x3*y3*y3 + d*y1*x2*x2*x2*y2*y2*y3*y3*y3 - d*y1*x2*x2*x2*y2*y2*y3 - d*y1*x2*x2*y2*y2*y2*x3 - d*y1*x2*y2*y2*y2*y2*x3*x3*y3) * (a*x1*x1 + y1*y1 - 1 - d*x1*x1*y1*y1) + (a*a*d*x1*x1*x1*x2*x2*y2*x3*x3*y3 - a*a*d*x1*x1*y1*x2*x2*y2*x3*x3*x3 - a*d*x1*x1*x1*x2*y2*y2*x3*y3*y3 + a*d*x1*x1*y1*x2*x2*y2*x3 + a*d*x1*y1*y1*x2*y2*y2*x3*x3*x3 - a*d*x1*x2*x2*y2*x3*x3*y3 - d*x1*x1*y1*x2*y2*y2*y3*y3*y3 + d*x1*x1*y1*x2*y2*y2*y3 - d*x1*y1*y1*x2*x2*y2*y3*y3*y3 + d*x1*y1*y1*x2*x2*y2*y3 - d*x1*y1*y1*x2*y2*y2*x3 + d*x1*x2*y2*y2*x3*y3*y3 + d*y1*y1*y1*x2*x2*y2*x3*y3*y3 + d*y1*y1*y1*x2*y2*y2*x3*x3*y3 - d*y1*x2*x2*y2*x3*y3*y3 - d*y1*x2*y2*y2*x3*x3*y3) * (a*x2*x2 + y2*y2 - 1 - d*x2*x2*y2*y2) + (a*a*d*x1*x1*x1*x2*x2*x2*y2*y2*x3 + a*a*d*x1*x1*y1*x2*x2*x2*x2*y2*x3 - a*d*d*x1*x1*y1*x2*x2*x2*x2*y2*y2*y2*x3 - a*d*x1*x1*x1*x2*x2*y2*y2*y2*y3 + a*d*x1*y1*y1*x2*x2*x2*x2*y2*y3 - a*d*x1*x2*x2*x2*y2*y2*x3 - d*d*x1*x1*y1*x2*x2*x2*y2*y2*y2*y2*y3 - d*d*x1*y1*y1*x2*x2*x2*x2*y2*y2*y2*y3 + d*d*x1*y1*y1*x2*x2*x2*y2*y2*y2*y2*x3 + d*x1*x1*y1*x2*y2*y2*y2*y2*y3 - d*x1*y1*y1*x2*y2*y2*y2*y2*x3 + d*x1*x2*x2*y2*y2*y2*y3 - d*y1*y1*y1*x2*x2*x2*y2*y2*y3 - d*y1*y1*y1*x2*x2*y2*y2*y2*x3 + d*y1*x2*x2*x2*y2*y2*y3 + d*y1*x2*x2*y2*y2*y2*x3) * (a*x3*x3 + y3*y3 - 1 - d*x3*x3*y3*y3) := by grind
theorem assoc1 (h : Fld r d inv) {x1 y1 x2 y2 x3 y3 : R} (o1 : On (r * r) d (x1, y1)) (o2 : On (r * r) d (x2, y2)) (o3 : On (r * r) d (x3, y3)) :
  ((x1*y2+y1*x2)*(1-d*x1*x2*y1*y2)*y3 + (y1*y2-(r*r)*x1*x2)*(1+d*x1*x2*y1*y2)*x3) * ((1+d*x2*x3*y2*y3)*(1-d*x2*x3*y2*y3) + d*x1*y1*(x2*y3+y2*x3)*(y2*y3-(r*r)*x2*x3))
  = (x1*(y2*y3-(r*r)*x2*x3)*(1+d*x2*x3*y2*y3) + y1*(x2*y3+y2*x3)*(1-d*x2*x3*y2*y3)) * ((1+d*x1*x2*y1*y2)*(1-d*x1*x2*y1*y2) + d*(x1*y2+y1*x2)*(y1*y2-(r*r)*x1*x2)*x3*y3) := by
  unfold On at *
  dsimp only at *
  have h1 : r*r*x1*x1 + y1*y1 - 1 - d*x1*x1*y1*y1 = 0 := by grind
  have h2 : r*r*x2*x2 + y2*y2 - 1 - d*x2*x2*y2*y2 = 0 := by grind
  have h3 : r*r*x3*x3 + y3*y3 - 1 - d*x3*x3*y3*y3 = 0 := by grind
  have k := cof1 (r*r) d x1 y1 x2 y2 x3 y3
  rw [h1, h2, h3] at k
  refine Lean.Grind.AddCommGroup.sub_eq_zero_iff.mp (k.trans ?_)
  rw [Semiring.mul_zero, Semiring.mul_zero, Semiring.mul_zero, Semiring.add_zero, Semiring.add_zero]
theorem cof2 (a d x1 y1 x2 y2 x3 y3 : R) :
  ((y1*y2-a*x1*x2)*(1+d*x1*x2*y1*y2)*y3 - a*((x1*y2+y1*x2)*(1-d*x1*x2*y1*y2))*x3) * ((1+d*x2*x3*y2*y3)*(1-d*x2*x3*y2*y3) - d*x1*y1*(x2*y3+y2*x3)*(y2*y3-a*x2*x3)) - (y1*(y2*y3-a*x2*x3)*(1+d*x2*x3*y2*y3) - a*x1*(x2*y3+y2*x3)*(1-d*x2*x3*y2*y3)) * ((1+d*x1*x2*y1*y2)*(1-d*x1*x2*y1*y2) - d*(x1*y2+y1*x2)*(y1*y2-a*x1*x2)*x3*y3)
  = (a*a*d*x1*x2*x2*x2*x2*y2*x3*y3*y3 - a*a*d*x1*x2*x2*y2*y2*y2*x3*x3*x3 - a*a*d*y1*x2*x2*x2*x2*y2*x3*x3*y3 - a*a*d*y1*x2*x2*x2*y2*y2*x3*x3*x3 - a*d*d*x1*x2*x2*x2*x2*y2*y2*y2*x3*y3*y3 - a*d*d*x1*x2*x2*x2*y2*y2*y2*y2*x3*x3*y3 + a*d*d*y1*x2*x2*x2*x2*y2*y2*y2*x3*x3*y3 - a*d*x1*x2*x2*x2*y2*y2*y3*y3*y3 + a*d*x1*x2*x2*x2*y2*y2*y3 + a*d*x1*x2*x2*y2*y2*y2*x3 + a*d*x1*x2*y2*y2*y2*y2*x3*x3*y3 + a*d*y1*x2*x2*x2*y2*y2*x3 - d*d*y1*x2*x2*x2*y2*y2*y2*y2*x3*y3*y3 + d*y1*x2*x2*y2*y2*y2*y3*y3*y3 - d*y1*x2*x2*y2*y2*y2*y3 + d*y1*x2*y2*y2*y2*y2*x3*y3*y3) * (a*x1*x1 + y1*y1 - 1 - d*x1*x1*y1*y1) + (0 - a*a*d*x1*x1*x1*x2*x2*y2*x3*y3*y3 - a*a*d*x1*x1*x1*x2*y2*y2*x3*x3*y3 + a*a*d*x1*x1*y1*x2*y2*y2*x3*x3*x3 + a*a*d*x1*y1*y1*x2*x2*y2*x3*x3*x3 - a*d*x1*x1*y1*x2*x2*y2*y3*y3*y3 + a*d*x1*x1*y1*x2*x2*y2*y3 - a*d*x1*x1*y1*x2*y2*y2*x3 - a*d*x1*y1*y1*x2*x2*y2*x3 + a*d*x1*x2*x2*y2*x3*y3*y3 + a*d*x1*x2*y2*y2*x3*x3*y3 + a*d*y1*y1*y1*x2*x2*y2*x3*x3*y3 - a*d*y1*x2*x2*y2*x3*x3*y3 + d*x1*y1*y1*x2*y2*y2*y3*y3*y3 - d*x1*y1*y1*x2*y2*y2*y3 - d*y1*y1*y1*x2*y2*y2*x3*y3*y3 + d*y1*x2*y2*y2*x3*y3*y3) * (a*x2*x2 + y2*y2 - 1 - d*x2*x2*y2*y2) + (a*a*d*x1*x1*x1*x2*x2*x2*y2*y2*y3 + a*a*d*x1*x1*x1*x2*x2*y2*y2*y2*x3 + a*a*d*x1*x1*y1*x2*x2*x2*x2*y2*y3 - a*a*d*x1*y1*y1*x2*x2*x2*x2*y2*x3 - a*d*d*x1*x1*y1*x2*x2*x2*x2*y2*y2*y2*y3 + a*d*d*x1*x1*y1*x2*x2*x2*y2*y2*y2*y2*x3 + a*d*d*x1*y1*y1*x2*x2*x2*x2*y2*y2*y2*x3 - a*d*x1*x1*y1*x2*y2*y2*y2*y2*x3 - a*d*x1*x2*x2*x2*y2*y2*y3 - a*d*x1*x2*x2*y2*y2*y2*x3 + a*d*y1*y1*y1*x2*x2*x2*y2*y2*x3 - a*d*y1*x2*x2*x2*y2*y2*x3 + d*d*x1*y1*y1*x2*x2*x2*y2*y2*y2*y2*y3 - d*x1*y1*y1*x2*y2*y2*y2*y2*y3 - d*y1*y1*y1*x2*x2*y2*y2*y2*y3 + d*y1*x2*x2*y2*y2*y2*y3) * (a*x3*x3 + y3*y3 - 1 - d*x3*x3*y3*y3) := by grind
theorem assoc2 (h : Fld r d inv) {x1 y1 x2 y2 x3 y3 : R} (o1 : On (r * r) d (x1, y1)) (o2 : On (r * r) d (x2, y2)) (o3 : On (r * r) d (x3, y3)) :
  ((y1*y2-(r*r)*x1*x2)*(1+d*x1*x2*y1*y2)*y3 - (r*r)*((x1*y2+y1*x2)*(1-d*x1*x2*y1*y2))*x3) * ((1+d*x2*x3*y2*y3)*(1-d*x2*x3*y2*y3) - d*x1*y1*(x2*y3+y2*x3)*(y2*y3-(r*r)*x2*x3))
  = (y1*(y2*y3-(r*r)*x2*x3)*(1+d*x2*x3*y2*y3) - (r*r)*x1*(x2*y3+y2*x3)*(1-d*x2*x3*y2*y3)) * ((1+d*x1*x2*y1*y2)*(1-d*x1*x2*y1*y2) - d*(x1*y2+y1*x2)*(y1*y2-(r*r)*x1*x2)*x3*y3) := by
  unfold On at *
  dsimp only at *
  have h1 : r*r*x1*x1 + y1*y1 - 1 - d*x1*x1*y1*y1 = 0 := by grind
  have h2 : r*r*x2*x2 + y2*y2 - 1 - d*x2*x2*y2*y2 = 0 := by grind
  have h3 : r*r*x3*x3 + y3*y3 - 1 - d*x3*x3*y3*y3 = 0 := by grind
  have k := cof2 (r*r) d x1 y1 x2 y2 x3 y3
  rw [h1, h2, h3] at k
  refine Lean.Grind.AddCommGroup.sub_eq_zero_iff.mp (k.trans ?_)
  rw [Semiring.mul_zero, Semiring.mul_zero, Semiring.mul_zero, Semiring.add_zero, Semiring.add_zero]
theorem q1 {D i j X Y u v : R} (i5 : (1 + D) * i = 1) (i6 : (1 - D) * j = 1) : (1 + D) * (1 - D) * (X * i * u + Y * j * v) = X * (1 - D) * u + Y * (1 + D) * v := by grind
theorem q2 {D i j X Y u v : R} (i5 : (1 + D) * i = 1) (i6 : (1 - D) * j = 1) : (1 + D) * (1 - D) * (1 + d * u * (X * i) * v * (Y * j)) = (1 + D) * (1 - D) + d * u * v * X * Y := by grind
theorem q3 {D i j X Y u v : R} (i5 : (1 + D) * i = 1) (i6 : (1 - D) * j = 1) : (1 + D) * (1 - D) * (u * (Y * j) + v * (X * i)) = u * Y * (1 + D) + v * X * (1 - D) := by grind
theorem q4 {D i j X Y u v : R} (i5 : (1 + D) * i = 1) (i6 : (1 - D) * j = 1) : (1 + D) * (1 - D) * (1 + d * (X * i) * u * (Y * j) * v) = (1 + D) * (1 - D) + d * X * Y * u * v := by grind
theorem q5 {a D i j X Y u v : R} (i5 : (1 + D) * i = 1) (i6 : (1 - D) * j = 1) : (1 + D) * (1 - D) * (Y * j * u - a * (X * i) * v) = Y * (1 + D) * u - a * (X * (1 - D)) * v := by grind
theorem q6 {D i j X Y u v : R} (i5 : (1 + D) * i = 1) (i6 : (1 - D) * j = 1) : (1 + D) * (1 - D) * (1 - d * u * (X * i) * v * (Y * j)) = (1 + D) * (1 - D) - d * u * v * X * Y := by grind
theorem q7 {a D i j X Y u v : R} (i5 : (1 + D) * i = 1) (i6 : (1 - D) * j = 1) : (1 + D) * (1 - D) * (u * (Y * j) - a * v * (X * i)) = u * Y * (1 + D) - a * v * X * (1 - D) := by grind
theorem q8 {D i j X Y u v : R} (i5 : (1 + D) * i = 1) (i6 : (1 - D) * j = 1) : (1 + D) * (1 - D) * (1 - d * (X * i) * u * (Y * j) * v) = (1 + D) * (1 - D) - d * X * Y * u * v := by grind
theorem g1 (a b u v : R) : a * b * (u * v) = (a * u) * (b * v) := by grind
theorem g2 (a b u v : R) : a * b * (u * v) = (b * u) * (a * v) := by grind
/-- two quotients, by their cross products -/
theorem Fld.cross (h : Fld r d inv) {n1 d1 n2 d2 : R} (h1 : d1 ≠ 0) (h2 : d2 ≠ 0) (e : n1 * d2 = n2 * d1) : n1 * inv d1 = n2 * inv d2 := by
  have i1 := h.iv _ h1
  have i2 := h.iv _ h2
  refine h.can (h.mul0 h1 h2) ?_
  grind
theorem assoc (h : Fld r d inv) {P Q S : R × R} (o1 : On (r * r) d P) (o2 : On (r * r) d Q) (o3 : On (r * r) d S) :
    plus (r * r) d inv (plus (r * r) d inv P Q) S = plus (r * r) d inv P (plus (r * r) d inv Q S) := by
  have A := on_plus h o1 o2
  have B := on_plus h o2 o3
  have c1 := compl1 h A o3
  have c2 := compl2 h A o3
  have c3 := compl1 h o1 B
  have c4 := compl2 h o1 B
  have c5 := compl1 h o1 o2
  have c6 := compl2 h o1 o2
  have c7 := compl1 h o2 o3
  have c8 := compl2 h o2 o3
  have E1 := assoc1 h (x1 := P.1) (y1 := P.2) (x2 := Q.1) (y2 := Q.2) (x3 := S.1) (y3 := S.2) o1 o2 o3
  have E2 := assoc2 h (x1 := P.1) (y1 := P.2) (x2 := Q.1) (y2 := Q.2) (x3 := S.1) (y3 := S.2) o1 o2 o3
  have i5 := h.iv _ c5
  have i6 := h.iv _ c6
  have i7 := h.iv _ c7
  have i8 := h.iv _ c8
  have k := h.mul0 (h.mul0 c5 c6) (h.mul0 c7 c8)
  clear A B o1 o2 o3
  obtain ⟨x1, y1⟩ := P
  obtain ⟨x2, y2⟩ := Q
  obtain ⟨x3, y3⟩ := S
  unfold plus at *
  dsimp only at *
  generalize inv (1 + d * x1 * x2 * y1 * y2) = i at *
  generalize inv (1 - d * x1 * x2 * y1 * y2) = j at *
  generalize inv (1 + d * x2 * x3 * y2 * y3) = i' at *
  generalize inv (1 - d * x2 * x3 * y2 * y3) = j' at *
  generalize hX : x1 * y2 + y1 * x2 = X at *
  generalize hY : y1 * y2 - r * r * x1 * x2 = Y at *
  generalize hX' : x2 * y3 + y2 * x3 = X' at *
  generalize hY' : y2 * y3 - r * r * x2 * x3 = Y' at *
  refine ext2 ?_ ?_
  · dsimp only
    refine h.cross c1 c3 (h.can k ?_)
    clear c1 c2 c3 c4 c5 c6 c7 c8 k E2
    refine (g1 _ _ _ _).trans (Eq.trans ?_ (g2 _ _ _ _).symm)
    rw [q1 i5 i6, q2 i7 i8, q3 i7 i8, q4 i5 i6]
    exact E1
  · dsimp only
    refine h.cross c2 c4 (h.can k ?_)
    clear c1 c2 c3 c4 c5 c6 c7 c8 k E1
    refine (g1 _ _ _ _).trans (Eq.trans ?_ (g2 _ _ _ _).symm)
    rw [q5 i5 i6, q6 i7 i8, q7 i7 i8, q8 i5 i6]
    exact E2
end Ed
end
-- E05b
section
open Lean.Grind
namespace Ed
variable {R : Type} [CommRing R] {r d : R} {inv : R → R}
/-- the multiples, as the law counts them -/
def mulN (a d : R) (inv : R → R) (P : R × R) : Nat → R × R
  | 0 => (0, 1)
  | k + 1 => plus a d inv (mulN a d inv P k) P
theorem mulN_on (h : Fld r d inv) {P : R × R} (o : On (r * r) d P) : ∀ k, On (r * r) d (mulN (r * r) d inv P k)
  | 0 => on_zero _
  | k + 1 => on_plus h (mulN_on h o k) o
theorem mulN_add (h : Fld r d inv) {P : R × R} (o : On (r * r) d P) (m : Nat) : ∀ k, plus (r * r) d inv (mulN (r * r) d inv P m) (mulN (r * r) d inv P k) = mulN (r * r) d inv P (m + k)
  | 0 => plus_zero h _ _
  | k + 1 => by
    show plus _ _ _ _ (plus _ _ _ _ _) = plus _ _ _ _ _
    rw [← assoc h (mulN_on h o m) (mulN_on h o k) o, mulN_add h o m k]
    rfl
/-- a point of odd order n -/
structure Grp (r d : R) (inv : R → R) (P : R × R) (n : Nat) : Prop where
  fld : Fld r d inv
  on : On (r * r) d P
  odd : n % 2 = 1
  big : 1 < n
  ret : mulN (r * r) d inv P n = (0, 1)
  low : ∀ k, 0 < k → k < n → mulN (r * r) d inv P k ≠ (0, 1)
def M (r d : R) (inv : R → R) (P : R × R) (n : Nat) (i : Int) : R × R := mulN (r * r) d inv P (i % (n : Int)).toNat
variable {P : R × R} {n : Nat}
theorem Grp.per (h : Grp r d inv P n) (k : Nat) : mulN (r * r) d inv P (k + n) = mulN (r * r) d inv P k := by
  rw [← mulN_add h.fld h.on, h.ret, plus_zero h.fld]
theorem Grp.mon (h : Grp r d inv P n) (i : Int) : On (r * r) d (M r d inv P n i) := mulN_on h.fld h.on _
theorem Grp.add (h : Grp r d inv P n) (i j : Int) : plus (r * r) d inv (M r d inv P n i) (M r d inv P n j) = M r d inv P n (i + j) := by
  unfold M
  rw [mulN_add h.fld h.on]
  have hn : (0 : Int) < n := by have := h.big; omega
  have a1 := Int.emod_nonneg i (Int.ne_of_gt hn)
  have a2 := Int.emod_lt_of_pos i hn
  have b1 := Int.emod_nonneg j (Int.ne_of_gt hn)
  have b2 := Int.emod_lt_of_pos j hn
  have e : (i + j) % (n : Int) = (i % n + j % n) % n := by rw [Int.add_emod]
  by_cases hc : i % n + j % n < n
  · rw [Int.emod_eq_of_lt (by omega) hc] at e
    rw [e]; congr 1; omega
  · have e2 : (i % n + j % n) % n = i % n + j % n - n := by
      rw [← Int.sub_emod_right]
      exact Int.emod_eq_of_lt (by omega) (by omega)
    rw [e, e2]
    have e3 : (i % (n : Int)).toNat + (j % (n : Int)).toNat = (i % (n : Int) + j % (n : Int) - (n : Int)).toNat + n := by
      generalize i % (n : Int) = u at *
      generalize j % (n : Int) = v at *
      clear e e2
      omega
    rw [e3, h.per]
theorem Grp.zero (_h : Grp r d inv P n) {i : Int} (hi : i % (n : Int) = 0) : M r d inv P n i = (0, 1) := by unfold M; rw [hi]; rfl
theorem Grp.of_zero (h : Grp r d inv P n) {i : Int} (hi : M r d inv P n i = (0, 1)) : i % (n : Int) = 0 := by
  have hn : (0 : Int) < n := by have := h.big; omega
  have a1 := Int.emod_nonneg i (Int.ne_of_gt hn)
  have a2 := Int.emod_lt_of_pos i hn
  rcases Nat.eq_zero_or_pos (i % (n : Int)).toNat with hz | hz
  · omega
  · exact absurd hi (h.low _ hz (by omega))
theorem Grp.neg (h : Grp r d inv P n) (i : Int) : M r d inv P n (-i) = neg (M r d inv P n i) := by
  have o := h.mon i
  have e1 : plus (r * r) d inv (M r d inv P n i) (M r d inv P n (-i)) = (0, 1) := by
    rw [h.add]; exact h.zero (by rw [Int.add_right_neg]; exact Int.zero_emod _)
  have e2 := plus_neg h.fld o
  have e3 := assoc h.fld (on_neg o) o (h.mon (-i))
  rw [e1, plus_zero h.fld, plus_comm _ (Ed.neg _), e2, plus_comm, plus_zero h.fld] at e3
  exact e3
theorem Grp.eq_of_mod (_h : Grp r d inv P n) {i j : Int} (e : i % (n : Int) = j % (n : Int)) : M r d inv P n i = M r d inv P n j := by unfold M; rw [e]
theorem sub_mod {n i j : Int} (h : (i - j) % n = 0) : i % n = j % n := Int.emod_eq_emod_iff_emod_sub_eq_zero.mpr h
theorem dvd_odd {n : Nat} {i : Int} (ho : n % 2 = 1) (h : (2 * i) % (n : Int) = 0) : i % (n : Int) = 0 := by
  obtain ⟨c, hc⟩ := Int.dvd_of_emod_eq_zero h
  have : c % 2 = 0 := by
    have e : (n : Int) * c % 2 = 0 := by omega
    rw [Int.mul_emod] at e
    have hn : (n : Int) % 2 = 1 := by omega
    rw [hn] at e
    omega
  obtain ⟨k, hk⟩ : ∃ k, c = 2 * k := ⟨c / 2, by omega⟩
  refine Int.emod_eq_zero_of_dvd ⟨k, ?_⟩
  rw [hk] at hc
  grind
theorem Grp.x0 (h : Grp r d inv P n) {i : Int} (hx : (M r d inv P n i).1 = 0) : i % (n : Int) = 0 := by
  have o := h.mon i
  have e := h.add i i
  generalize hQ : M r d inv P n i = Q at *
  obtain ⟨x, y⟩ := Q
  simp only at hx
  subst hx
  unfold On at o
  dsimp only at o
  have hy : y * y = 1 * 1 := by grind
  rcases h.fld.sq hy with e1 | e1
  · subst e1; exact h.of_zero hQ
  · have h2 : M r d inv P n (2 * i) = (0, 1) := by
      rw [show 2 * i = i + i by omega, ← e]
      unfold plus
      dsimp only
      have e3 : 1 - d * 0 * 0 * y * y = (1 : R) := by grind
      have e4 : 1 + d * 0 * 0 * y * y = (1 : R) := by grind
      rw [e3, e4, h.fld.inv1]
      refine ext2 ?_ ?_ <;> dsimp only <;> grind
    exact dvd_odd h.odd (h.of_zero h2)
theorem Grp.y0 (h : Grp r d inv P n) {i : Int} : (M r d inv P n i).2 ≠ 0 := by
  intro hy
  have o := h.mon i
  have e := h.add i i
  have hQ0 : i % (n : Int) = 0 → M r d inv P n i = (0, 1) := fun hi => h.zero hi
  generalize hQ : M r d inv P n i = Q at *
  obtain ⟨x, y⟩ := Q
  simp only at hy
  subst hy
  unfold On at o
  dsimp only at o
  have h2 : (M r d inv P n (i + i)).1 = 0 := by
    rw [← e]
    unfold plus
    dsimp only
    grind
  have h3 := h.x0 h2
  rw [show i + i = 2 * i by omega] at h3
  have h4 := hQ0 (dvd_odd h.odd h3)
  have h5 : (0 : R) = 1 := congrArg Prod.snd h4
  exact h.fld.one h5.symm
theorem Grp.xy0 (h : Grp r d inv P n) {i : Int} (hi : i % (n : Int) ≠ 0) : (M r d inv P n i).1 * (M r d inv P n i).2 ≠ 0 :=
  h.fld.mul0 (fun e => hi (h.x0 e)) h.y0
/-- the products of the coordinates tell the multiples apart -/
theorem Grp.t_inj (h : Grp r d inv P n) {i j : Int} (ht : (M r d inv P n i).1 * (M r d inv P n i).2 = (M r d inv P n j).1 * (M r d inv P n j).2) : i % (n : Int) = j % (n : Int) := by
  have o1 := h.mon i
  have o2 := h.mon j
  have s1 := h.add i j
  have s2 := h.add i (-j)
  have y1n : (M r d inv P n (i + j)).2 ≠ 0 := h.y0
  have x1n : (M r d inv P n (i + -j)).1 = 0 → (i + -j) % (n : Int) = 0 := h.x0
  have e0 : (M r d inv P n i) = (M r d inv P n j) → plus (r * r) d inv (M r d inv P n i) (M r d inv P n (-j)) = (0, 1) := fun e => by rw [e, h.neg]; exact plus_neg h.fld o2
  rw [← s1] at y1n
  rw [← s2, h.neg] at x1n
  rw [h.neg] at e0
  clear s1 s2
  generalize M r d inv P n i = Q1 at *
  generalize M r d inv P n j = Q2 at *
  obtain ⟨x1, y1⟩ := Q1
  obtain ⟨x2, y2⟩ := Q2
  unfold On at o1 o2
  unfold plus Ed.neg at *
  dsimp only at *
  have u1 : (r * x1 + y1) * (r * x1 + y1) = (r * x2 + y2) * (r * x2 + y2) := by grind
  have u2 : (r * x1 - y1) * (r * x1 - y1) = (r * x2 - y2) * (r * x2 - y2) := by grind
  have two : ∀ z : R, 2 * z = 0 → z = 0 := fun z hz => (h.fld.nz _ _ hz).resolve_left h.fld.two
  have rr : ∀ z : R, r * z = 0 → z = 0 := fun z hz => (h.fld.nz _ _ hz).resolve_left h.fld.r0
  have fin : (i + -j) % (n : Int) = 0 → i % (n : Int) = j % (n : Int) := fun e => sub_mod (by rw [Int.sub_eq_add_neg]; exact e)
  rcases h.fld.sq u1 with v1 | v1 <;> rcases h.fld.sq u2 with v2 | v2
  · have w1 : r * (x1 - x2) = 0 := two _ (by grind)
    have w2 : x1 - x2 = 0 := rr _ w1
    refine fin (x1n ?_)
    have w4 : x1 * y2 + y1 * -x2 = 0 := by grind
    rw [w4]; grind
  · exact absurd (by
      have w1 : r * x1 - y2 = 0 := two _ (by grind)
      have w2 : r * x2 - y1 = 0 := two _ (by grind)
      have w3 : y1 * y2 - r * r * x1 * x2 = 0 := by grind
      rw [w3]; grind) y1n
  · exact absurd (by
      have w1 : r * x1 + y2 = 0 := two _ (by grind)
      have w2 : r * x2 + y1 = 0 := two _ (by grind)
      have w3 : y1 * y2 - r * r * x1 * x2 = 0 := by grind
      rw [w3]; grind) y1n
  · have w1 : r * (x1 + x2) = 0 := two _ (by grind)
    have w2 : x1 + x2 = 0 := rr _ w1
    have w3 : y1 + y2 = 0 := two _ (by grind)
    refine fin (x1n ?_)
    have w4 : x1 * y2 + y1 * -x2 = 0 := by grind
    rw [w4]; grind
/-- a point in extended coordinates -/
def Rep (Q : R × R) (X Y Z T : R) : Prop := Z ≠ 0 ∧ X = Q.1 * Z ∧ Y = Q.2 * Z ∧ T = Q.1 * Q.2 * Z
theorem rep_zero (h : Fld r d inv) : Rep ((0, 1) : R × R) 0 1 1 0 := ⟨h.one, by grind, by grind, by grind⟩
theorem rep_neg {Q : R × R} {X Y Z T : R} (h : Rep Q X Y Z T) : Rep (neg Q) (-X) Y Z (-T) := by
  obtain ⟨h1, h2, h3, h4⟩ := h
  unfold neg
  exact ⟨h1, by dsimp only; grind, by dsimp only; grind, by dsimp only; grind⟩
theorem rep_mk (h : Fld r d inv) {x3 y3 E F G H : R} (F0 : F ≠ 0) (G0 : G ≠ 0) (E1 : E = x3 * G) (H1 : H = y3 * F) : Rep (x3, y3) (E * F) (G * H) (F * G) (E * H) := by
  subst E1 H1
  refine ⟨h.mul0 F0 G0, ?_, ?_, ?_⟩ <;> dsimp only <;> grind
theorem rep_dbl (h : Fld r d inv) {Q : R × R} {X Y Z T : R} (o : On (r * r) d Q) (hr : Rep Q X Y Z T) {A B C D E F G H : R} (hA : A = X * X) (hB : B = Y * Y) (hC : C = 2 * Z * Z) (hD : D = r * r * A) (hE : E = (X + Y) * (X + Y) - A - B) (hG : G = D + B) (hF : F = G - C) (hH : H = D - B) :
    Rep (plus (r * r) d inv Q Q) (E * F) (G * H) (F * G) (E * H) := by
  have c1 := compl1 h o o
  have c2 := compl2 h o o
  have i1 := h.iv _ c1
  have i2 := h.iv _ c2
  obtain ⟨h1, h2, h3, h4⟩ := hr
  obtain ⟨x, y⟩ := Q
  unfold On at o
  unfold plus
  dsimp only at *
  generalize inv (1 + d * x * x * y * y) = i at *
  generalize inv (1 - d * x * x * y * y) = j at *
  have zz := h.mul0 h1 h1
  have g1 : G = Z * Z * (1 + d * x * x * y * y) := by clear i1 i2 c1 c2 zz; subst hA hB hC hD hG h2 h3; clear hE hF hH h4; grind
  have f1 : F = -(Z * Z * (1 - d * x * x * y * y)) := by clear i1 i2 c1 c2 zz g1; subst hA hB hC hD hG h2 h3; clear hE hH h4; grind
  have e1 : E = Z * Z * (x * y + y * x) := by clear i1 i2 c1 c2 zz g1 f1; subst hA hB hC hD hG h2 h3; clear hF hH h4; grind
  have k1 : H = -(Z * Z * (y * y - r * r * x * x)) := by clear i1 i2 c1 c2 zz g1 f1 e1; subst hA hB hC hD hG h2 h3; clear hF hE h4; grind
  have E1 : E = (x * y + y * x) * i * G := by
    rw [g1, e1]; clear f1 k1 g1 e1 hA hB hC hD hE hG hF hH h2 h3 h4 o; grind
  have H1 : H = (y * y - r * r * x * x) * j * F := by
    rw [f1, k1]; clear f1 k1 g1 e1 hA hB hC hD hE hG hF hH h2 h3 h4 o E1; grind
  have F0 : F ≠ 0 := by
    rw [f1]; intro e
    exact h.mul0 zz c2 (by grind)
  have G0 : G ≠ 0 := by rw [g1]; exact h.mul0 zz c1
  exact rep_mk h F0 G0 E1 H1
theorem rep_add (h : Fld r d inv) {P Q : R × R} {X1 Y1 Z1 T1 X2 Y2 Z2 T2 : R} (o1 : On (r * r) d P) (o2 : On (r * r) d Q) (h1 : Rep P X1 Y1 Z1 T1) (h2 : Rep Q X2 Y2 Z2 T2)
    (f0 : P.1 * Q.2 - P.2 * Q.1 ≠ 0) (g0 : P.2 * Q.2 + r * r * (P.1 * Q.1) ≠ 0) {A B C D E F G H : R} (hA : A = X1 * X2) (hB : B = Y1 * Y2) (hC : C = Z1 * T2) (hD : D = T1 * Z2) (hE : E = D + C)
    (hF : F = (X1 - Y1) * (X2 + Y2) + B - A) (hG : G = B + r * r * A) (hH : H = D - C) :
    Rep (plus (r * r) d inv P Q) (E * F) (G * H) (F * G) (E * H) := by
  have c1 := compl1 h o1 o2
  have c2 := compl2 h o1 o2
  have i1 := h.iv _ c1
  have i2 := h.iv _ c2
  obtain ⟨z1, a1, a2, a3⟩ := h1
  obtain ⟨z2, b1, b2, b3⟩ := h2
  obtain ⟨x1, y1⟩ := P
  obtain ⟨x2, y2⟩ := Q
  unfold On at o1 o2
  unfold plus
  dsimp only at *
  have zz := h.mul0 z1 z2
  have F1 : F = Z1 * Z2 * (x1 * y2 - y1 * x2) := by
    subst hA hB a1 a2 b1 b2; clear i1 i2 c1 c2 zz hC hD hE hG hH a3 b3 o1 o2; grind
  have G1 : G = Z1 * Z2 * (y1 * y2 + r * r * (x1 * x2)) := by
    subst hA hB a1 a2 b1 b2; clear i1 i2 c1 c2 zz hC hD hE hF hH a3 b3 o1 o2 F1; grind
  have E1 : E = Z1 * Z2 * (x1 * y1 + x2 * y2) := by
    subst hC hD a3 b3; clear i1 i2 c1 c2 zz hG hF hH a1 a2 b1 b2 hA hB o1 o2 F1 G1; grind
  have H1 : H = Z1 * Z2 * (x1 * y1 - x2 * y2) := by
    subst hC hD a3 b3; clear i1 i2 c1 c2 zz hG hF hE a1 a2 b1 b2 hA hB o1 o2 F1 G1 E1; grind
  have k1 : (x1 * y2 + y1 * x2) * (y1 * y2 + r * r * (x1 * x2)) = (x1 * y1 + x2 * y2) * (1 + d * x1 * x2 * y1 * y2) := by
    clear i1 i2 c1 c2 zz hA hB hC hD hE hF hG hH a1 a2 a3 b1 b2 b3 F1 G1 E1 H1 f0 g0
    generalize r * r = a at *
    grind
  have k2 : (y1 * y2 - r * r * x1 * x2) * (x1 * y2 - y1 * x2) = (x1 * y1 - x2 * y2) * (1 - d * x1 * x2 * y1 * y2) := by
    clear i1 i2 c1 c2 zz hA hB hC hD hE hF hG hH a1 a2 a3 b1 b2 b3 F1 G1 E1 H1 f0 g0 k1
    generalize r * r = a at *
    grind
  have F0 : F ≠ 0 := by rw [F1]; exact h.mul0 zz f0
  have G0 : G ≠ 0 := by rw [G1]; exact h.mul0 zz g0
  generalize inv (1 + d * x1 * x2 * y1 * y2) = i at *
  generalize inv (1 - d * x1 * x2 * y1 * y2) = j at *
  refine rep_mk h F0 G0 ?_ ?_
  · rw [E1, G1]
    clear hA hB hC hD hE hF hG hH a1 a2 a3 b1 b2 b3 F1 G1 E1 H1 f0 g0 F0 G0 c1 c2 i2 k2 o1 o2
    generalize x1 * y2 + y1 * x2 = X at *
    generalize y1 * y2 + r * r * (x1 * x2) = G' at *
    generalize 1 + d * x1 * x2 * y1 * y2 = δ at *
    generalize x1 * y1 + x2 * y2 = E' at *
    grind
  · rw [H1, F1]
    clear hA hB hC hD hE hF hG hH a1 a2 a3 b1 b2 b3 F1 G1 E1 H1 f0 g0 F0 G0 c1 c2 i1 k1 o1 o2
    generalize y1 * y2 - r * r * x1 * x2 = Y at *
    generalize x1 * y2 - y1 * x2 = F' at *
    generalize 1 - d * x1 * x2 * y1 * y2 = δ at *
    generalize x1 * y1 - x2 * y2 = H' at *
    grind
/-- the two denominators of the second addition law -/
theorem Grp.den (h : Grp r d inv P n) {i j : Int} (hij : i % (n : Int) ≠ j % (n : Int)) :
    (M r d inv P n i).1 * (M r d inv P n j).2 - (M r d inv P n i).2 * (M r d inv P n j).1 ≠ 0 ∧ (M r d inv P n i).2 * (M r d inv P n j).2 + r * r * ((M r d inv P n i).1 * (M r d inv P n j).1) ≠ 0 := by
  have o1 := h.mon i
  have o2 := h.mon j
  have t1 : (M r d inv P n i).1 * (M r d inv P n i).2 = (M r d inv P n j).1 * (M r d inv P n j).2 → False := fun e => hij (h.t_inj e)
  have t2 : (M r d inv P n i).1 * (M r d inv P n i).2 = (M r d inv P n (-j)).1 * (M r d inv P n (-j)).2 → M r d inv P n i = M r d inv P n (-j) := fun e => h.eq_of_mod (h.t_inj e)
  have y2n : (M r d inv P n (j + j)).2 ≠ 0 := h.y0
  rw [← h.add j j] at y2n
  rw [h.neg] at t2
  have c1 := compl1 h.fld o1 o2
  have c2 := compl2 h.fld o1 o2
  generalize M r d inv P n i = Q1 at *
  generalize M r d inv P n j = Q2 at *
  obtain ⟨x1, y1⟩ := Q1
  obtain ⟨x2, y2⟩ := Q2
  unfold On at o1 o2
  unfold plus Ed.neg at *
  dsimp only at *
  have k1 : (x1 * y2 + y1 * x2) * (y1 * y2 + r * r * (x1 * x2)) = (x1 * y1 + x2 * y2) * (1 + d * x1 * x2 * y1 * y2) := by
    clear t1 t2 y2n c1 c2
    generalize r * r = a at *
    grind
  have k2 : (y1 * y2 - r * r * x1 * x2) * (x1 * y2 - y1 * x2) = (x1 * y1 - x2 * y2) * (1 - d * x1 * x2 * y1 * y2) := by
    clear t1 t2 y2n c1 c2 k1
    generalize r * r = a at *
    grind
  refine ⟨fun e => ?_, fun e => ?_⟩
  · rw [e] at k2
    have k3 : (x1 * y1 - x2 * y2) * (1 - d * x1 * x2 * y1 * y2) = 0 := by rw [← k2]; grind
    have k4 := (h.fld.nz _ _ k3).resolve_right c2
    exact t1 (by clear t1 t2 y2n c1 c2 k1 k2 k3 o1 o2 e; grind)
  · rw [e] at k1
    have k3 : (x1 * y1 + x2 * y2) * (1 + d * x1 * x2 * y1 * y2) = 0 := by rw [← k1]; grind
    have k4 := (h.fld.nz _ _ k3).resolve_right c1
    have k5 := t2 (by clear t1 t2 y2n c1 c2 k1 k2 k3 o1 o2 e; grind)
    have k6 : x1 = -x2 := congrArg Prod.fst k5
    have k7 : y1 = y2 := congrArg Prod.snd k5
    subst k6 k7
    exact y2n (by
      have k8 : y1 * y1 - r * r * x2 * x2 = 0 := by clear t1 t2 y2n c1 c2 k1 k2 k3 o1 o2 k4 k5; grind
      rw [k8]; grind)
end Ed
end
-- E05c
section
open Lean.Grind
namespace Ed
def cst {α : Type} [Ring α] (x : Int) : α := @IntCast.intCast α Ring.intCast x
section
variable {α : Type} [Ring α]
theorem cst_add (x y : Int) : (cst (x + y) : α) = cst x + cst y := Ring.intCast_add x y
theorem cst_sub (x y : Int) : (cst (x - y) : α) = cst x - cst y := Ring.intCast_sub x y
theorem cst_mul (x y : Int) : (cst (x * y) : α) = cst x * cst y := Ring.intCast_mul x y
theorem cst_neg (x : Int) : (cst (-x) : α) = -cst x := Ring.intCast_neg x
theorem cst_zero : (cst 0 : α) = 0 := Ring.intCast_zero
theorem cst_one : (cst 1 : α) = 1 := Ring.intCast_one
theorem cst_two : (cst 2 : α) = 2 := Ring.intCast_ofNat 2
theorem cst_eq0 (q : Nat) [IsCharP α q] {x : Int} : (cst x : α) = 0 ↔ x % (q : Int) = 0 := IsCharP.intCast_eq_zero_iff q x
theorem cst_ext (q : Nat) [IsCharP α q] {x y : Int} : (cst x : α) = cst y ↔ x % (q : Int) = y % (q : Int) := IsCharP.intCast_ext_iff q
theorem cst_fmod (q : Nat) [IsCharP α q] (x : Int) : (cst (x.fmod (q : Int)) : α) = cst x := by
  rw [Int.fmod_eq_emod_of_nonneg _ (by omega)]; exact IsCharP.intCast_emod q x
end
def primes24 : List Nat := [5, 7, 11, 13, 17, 19, 23, 29, 31, 37, 41, 43, 47, 53, 59, 61, 67, 71, 73, 79, 83, 89, 97, 101]
theorem fermat : primes24.all (fun p => (List.range p).all fun z => z == 0 || (z ^ (p - 2) % p * z) % p == 1) = true := by decide +kernel
theorem nonsq : primes24.all (fun p => (List.range p).any fun d => d != 0 && (List.range p).all fun k => k * k % p != d) = true := by decide +kernel
theorem primes_ok : primes24.all (fun p => decide (5 ≤ p) && decide (p ≤ 101) && (p % 2 == 1)) = true := by decide
theorem primes_bd {q : Nat} (h : q ∈ primes24) : 5 ≤ q ∧ q ≤ 101 ∧ q % 2 = 1 := by
  have h1 := List.all_eq_true.mp primes_ok q h
  simp only [Bool.and_eq_true, decide_eq_true_eq, beq_iff_eq] at h1
  exact ⟨h1.1.1, h1.1.2, h1.2⟩
theorem primes_int {q : Nat} (h : q ∈ primes24) : (5 : Int) ≤ q ∧ (q : Int) ≤ 101 := ⟨Int.ofNat_le.mpr (primes_bd h).1, Int.ofNat_le.mpr (primes_bd h).2.1⟩
theorem fm_bd {p : Int} (hp : 0 < p) (x : Int) : 0 ≤ x.fmod p ∧ x.fmod p < p := by
  rw [Int.fmod_eq_emod_of_nonneg _ (by omega)]; exact ⟨Int.emod_nonneg _ (by omega), Int.emod_lt_of_pos _ hp⟩
/-- the law's inverse -/
def linv (p v : Int) : Int := ((v.fmod p) ^ (p - 2).toNat).fmod p
theorem linv_bd {p v : Int} (hp : 0 < p) : 0 ≤ linv p v ∧ linv p v < p := by
  unfold linv; rw [Int.fmod_eq_emod_of_nonneg _ (by omega)]; exact ⟨Int.emod_nonneg _ (by omega), Int.emod_lt_of_pos _ hp⟩
theorem linv_mul {q : Nat} (hq : q ∈ primes24) {v : Int} (h : v % (q : Int) ≠ 0) : (v * linv q v) % (q : Int) = 1 := by
  have hb := primes_bd hq
  have f := List.all_eq_true.mp (List.all_eq_true.mp fermat q hq) (v % (q : Int)).toNat (by
    have := Int.emod_lt_of_pos v (show (0 : Int) < q by omega)
    have := Int.emod_nonneg v (show (q : Int) ≠ 0 by omega)
    rw [List.mem_range]; omega)
  have h0 := Int.emod_nonneg v (show (q : Int) ≠ 0 by omega)
  rw [Bool.or_eq_true] at f
  rcases f with f | f
  · have := beq_iff_eq.mp f; omega
  · have f := beq_iff_eq.mp f
    unfold linv
    rw [Int.fmod_eq_emod_of_nonneg _ (by omega), Int.fmod_eq_emod_of_nonneg _ (by omega)]
    rw [show ((q : Int) - 2).toNat = q - 2 by omega]
    have e : v % (q : Int) = ((v % (q : Int)).toNat : Int) := by omega
    rw [Int.mul_emod, Int.emod_emod, e]
    generalize (v % (q : Int)).toNat = z at *
    have e2 : (((z ^ (q - 2) % q * z) % q : Nat) : Int) = 1 := by rw [f]; rfl
    rw [← e2]
    simp [Int.mul_comm]
    rw [Int.mul_emod, Int.emod_emod, ← Int.mul_emod]
/-- the law's choice of a curve -/
structure Cv (q : Nat) (a d : Int) : Prop where
  pr : q ∈ primes24
  sq : ∃ r : Int, 0 < r ∧ r < q ∧ a = (r * r).fmod q
  d1 : 0 < d
  d2 : d < q
  ns : ∀ k : Int, 0 < k → k < q → (k * k).fmod q ≠ d
theorem surj {q : Nat} [NeZero q] (x : Fin q) : (cst (x.val : Int) : Fin q) = x := by
  refine (Ring.intCast_natCast (α := Fin q) x.val).trans ?_
  exact Fin.ext (Nat.mod_eq_of_lt x.isLt)
open Classical in
noncomputable def cinv {q : Nat} [NeZero q] (x : Fin q) : Fin q := if h : ∃ y : Fin q, x * y = 1 then h.choose else 0
theorem cinv_spec {q : Nat} [NeZero q] {x y : Fin q} (h : x * y = 1) : cinv x = y := by
  have h2 : ∃ y : Fin q, x * y = 1 := ⟨y, h⟩
  have e : x * cinv x = 1 := by unfold cinv; rw [dif_pos h2]; exact h2.choose_spec
  grind
theorem cst_linv {q : Nat} [NeZero q] (hq : q ∈ primes24) {v : Int} (h : (cst v : Fin q) ≠ 0) : (cst v : Fin q) * cst (linv q v) = 1 := by
  have hb := primes_bd hq
  rw [← cst_mul, ← cst_one, cst_ext q, linv_mul hq (fun e => h ((cst_eq0 q).mpr e))]
  exact (Int.emod_eq_of_lt (by omega) (by omega)).symm
theorem cinv_cst {q : Nat} [NeZero q] (hq : q ∈ primes24) {v : Int} (h : (cst v : Fin q) ≠ 0) : cinv (cst v : Fin q) = cst (linv q v) := cinv_spec (cst_linv hq h)
theorem nzd {q : Nat} [NeZero q] (hq : q ∈ primes24) (x y : Fin q) (h : x * y = 0) : x = 0 ∨ y = 0 := by
  by_cases hx : x = 0
  · exact .inl hx
  · right
    rw [← surj x] at h hx
    have := cst_linv hq hx
    grind
theorem cinv_mul {q : Nat} [NeZero q] (hq : q ∈ primes24) (x : Fin q) (hx : x ≠ 0) : x * cinv x = 1 := by
  rw [← surj x] at hx ⊢
  rw [cinv_cst hq hx]; exact cst_linv hq hx
theorem Cv.fld {q : Nat} [NeZero q] {a d : Int} (h : Cv q a d) : ∃ r : Fin q, (cst a : Fin q) = r * r ∧ Fld r (cst d : Fin q) cinv := by
  have hb := primes_bd h.pr
  obtain ⟨r, r1, r2, ra⟩ := h.sq
  refine ⟨cst r, by rw [ra, cst_fmod, cst_mul], nzd h.pr, cinv_mul h.pr, ?_, ?_, ?_, ?_⟩
  · rw [← cst_one]; intro e
    have := (cst_eq0 q).mp e
    rw [Int.emod_eq_of_lt (by omega) (by omega)] at this; omega
  · rw [← cst_two]; intro e
    have := (cst_eq0 q).mp e
    rw [Int.emod_eq_of_lt (by omega) (by omega)] at this; omega
  · intro e
    have := (cst_eq0 q).mp e
    rw [Int.emod_eq_of_lt (by omega) (by omega)] at this; omega
  · intro s t e
    apply Classical.byContradiction
    intro ht
    have h1 := cinv_mul h.pr t ht
    have h2 : (s * cinv t) * (s * cinv t) = (cst d : Fin q) := by grind
    generalize s * cinv t = u at h2
    rw [← surj u, ← cst_mul, cst_ext q, Int.emod_eq_of_lt (a := d) (by have := h.d1; omega) h.d2] at h2
    have h3 := u.isLt
    refine h.ns u.val ?_ (by omega) (by rw [Int.fmod_eq_emod_of_nonneg _ (by omega)]; exact h2)
    rcases Nat.eq_zero_or_pos u.val with hu | hu
    · rw [hu] at h2
      have := h.d1
      simp at h2
      omega
    · omega
/-- the law's sum of two points -/
def lplus (p a d : Int) (P Q : Int × Int) : Int × Int :=
  (((P.1 * Q.2 + P.2 * Q.1) * linv p (1 + (d * P.1 * Q.1 * P.2 * Q.2).fmod p)).fmod p, ((P.2 * Q.2 - a * P.1 * Q.1) * linv p (1 - (d * P.1 * Q.1 * P.2 * Q.2).fmod p)).fmod p)
def cst2 {α : Type} [Ring α] (P : Int × Int) : α × α := (cst P.1, cst P.2)
def InB (p : Int) (P : Int × Int) : Prop := 0 ≤ P.1 ∧ P.1 < p ∧ 0 ≤ P.2 ∧ P.2 < p
theorem lplus_in {p a d : Int} (hp : 0 < p) (P Q : Int × Int) : InB p (lplus p a d P Q) := by
  unfold InB lplus
  dsimp only
  exact ⟨(fm_bd hp _).1, (fm_bd hp _).2, (fm_bd hp _).1, (fm_bd hp _).2⟩
theorem cst2_inj {q : Nat} [NeZero q] {P Q : Int × Int} (h1 : InB q P) (h2 : InB q Q) (e : (cst2 P : Fin q × Fin q) = cst2 Q) : P = Q := by
  obtain ⟨a, b⟩ := P; obtain ⟨c, d⟩ := Q
  unfold InB at h1 h2; dsimp only at h1 h2
  have e1 := (cst_ext q).mp (congrArg Prod.fst e)
  have e2 := (cst_ext q).mp (congrArg Prod.snd e)
  dsimp only at e1 e2
  rw [Int.emod_eq_of_lt (by omega) (by omega), Int.emod_eq_of_lt (by omega) (by omega)] at e1 e2
  rw [e1, e2]
theorem cst2_plus {q : Nat} [NeZero q] {a d : Int} (h : Cv q a d) {P Q : Int × Int} (o1 : On (cst a : Fin q) (cst d) (cst2 P)) (o2 : On (cst a : Fin q) (cst d) (cst2 Q)) :
    (cst2 (lplus q a d P Q) : Fin q × Fin q) = plus (cst a) (cst d) cinv (cst2 P) (cst2 Q) := by
  obtain ⟨r, hr, F⟩ := h.fld
  rw [hr] at o1 o2
  have c1 := compl1 F o1 o2
  have c2 := compl2 F o1 o2
  unfold lplus cst2 plus at *
  dsimp only at *
  refine ext2 ?_ ?_ <;> dsimp only
  · have e : (1 + cst d * cst P.1 * cst Q.1 * cst P.2 * cst Q.2 : Fin q) = cst (1 + (d * P.1 * Q.1 * P.2 * Q.2).fmod q) := by
      rw [cst_add, cst_fmod, cst_mul, cst_mul, cst_mul, cst_mul, cst_one]
    rw [e] at c1 ⊢
    rw [cinv_cst h.pr c1, cst_fmod, cst_mul, cst_add, cst_mul, cst_mul]
  · have e : (1 - cst d * cst P.1 * cst Q.1 * cst P.2 * cst Q.2 : Fin q) = cst (1 - (d * P.1 * Q.1 * P.2 * Q.2).fmod q) := by
      rw [cst_sub, cst_fmod, cst_mul, cst_mul, cst_mul, cst_mul, cst_one]
    rw [e] at c2 ⊢
    rw [cinv_cst h.pr c2, cst_fmod, cst_mul, cst_sub, cst_mul, cst_mul, cst_mul]
/-- the law's multiples -/
def lmul (p a d : Int) (P : Int × Int) : Nat → Int × Int
  | 0 => (0, 1)
  | k + 1 => lplus p a d (lmul p a d P k) P
theorem lmul_in {p a d : Int} (hp : 1 < p) (P : Int × Int) : ∀ k, InB p (lmul p a d P k)
  | 0 => by unfold lmul InB; dsimp only; omega
  | k + 1 => lplus_in (by omega) _ _
theorem cst2_zero {q : Nat} [NeZero q] : (cst2 (0, 1) : Fin q × Fin q) = (0, 1) := by unfold cst2; rw [cst_zero, cst_one]
theorem cst2_lmul {q : Nat} [NeZero q] {a d : Int} (h : Cv q a d) {P : Int × Int} (o : On (cst a : Fin q) (cst d) (cst2 P)) : ∀ k, (cst2 (lmul q a d P k) : Fin q × Fin q) = mulN (cst a) (cst d) cinv (cst2 P) k
  | 0 => cst2_zero
  | k + 1 => by
    obtain ⟨r, hr, F⟩ := h.fld
    have ih := cst2_lmul h o k
    have o1 : On (cst a : Fin q) (cst d) (cst2 (lmul q a d P k)) := by rw [ih, hr]; exact mulN_on F (hr ▸ o) k
    show cst2 (lplus q a d (lmul q a d P k) P) = _
    rw [cst2_plus h o1 o, ih]; rfl
end Ed
end
-- E05d
section
open Lean.Grind
namespace Ed
theorem mulN_cancel {R : Type} [CommRing R] {r d : R} {inv : R → R} (h : Fld r d inv) {P : R × R} (o : On (r * r) d P) {i k : Nat} (e : mulN (r * r) d inv P (i + k) = mulN (r * r) d inv P i) : mulN (r * r) d inv P k = (0, 1) := by
  have oi := mulN_on h o i
  have ok := mulN_on h o k
  rw [← mulN_add h o] at e
  have e1 := assoc h (on_neg oi) oi ok
  rw [e, plus_comm _ (Ed.neg _) (mulN _ _ _ _ i), plus_neg h oi, plus_comm _ (0, 1), plus_zero h] at e1
  exact e1
/-- a place among 2 q for a point -/
def enc (q : Nat) (P : Int × Int) : Nat := 2 * P.1.toNat + (if 2 * P.2 < q then 0 else 1)
theorem enc_lt {q : Nat} {P : Int × Int} (h : InB q P) : enc q P < 2 * q := by
  unfold InB at h; unfold enc; split <;> omega
theorem enc_inj {q : Nat} [NeZero q] {a d : Int} (h : Cv q a d) {P Q : Int × Int} (h1 : InB q P) (h2 : InB q Q) (o1 : On (cst a : Fin q) (cst d) (cst2 P)) (o2 : On (cst a : Fin q) (cst d) (cst2 Q)) (e : enc q P = enc q Q) : P = Q := by
  obtain ⟨r, hr, F⟩ := h.fld
  have hb := primes_bd h.pr
  obtain ⟨x, y⟩ := P; obtain ⟨u, v⟩ := Q
  unfold InB at h1 h2; unfold enc at e; dsimp only at h1 h2 e
  have e0 : x.toNat = u.toNat ∧ (if 2 * y < (q : Int) then 0 else 1) = (if 2 * v < (q : Int) then 0 else 1) := by
    have b1 : (if 2 * y < (q : Int) then 0 else 1) ≤ 1 := by split <;> decide
    have b2 : (if 2 * v < (q : Int) then 0 else 1) ≤ 1 := by split <;> decide
    revert b1 b2 e
    generalize (if 2 * y < (q : Int) then 0 else 1) = f
    generalize (if 2 * v < (q : Int) then 0 else 1) = g
    generalize x.toNat = X
    generalize u.toNat = U
    clear o1 o2 h1 h2 hb
    intro e b1 b2
    omega
  have e1 : x = u := by rw [← Int.toNat_of_nonneg h1.1, ← Int.toNat_of_nonneg h2.1, e0.1]
  subst e1
  have e2 : (2 * y < q ↔ 2 * v < q) := by
    have e3 := e0.2
    by_cases c1 : 2 * y < q <;> by_cases c2 : 2 * v < q <;> simp [c1, c2] at e3 ⊢
  unfold On cst2 at o1 o2
  dsimp only at o1 o2
  have k1 : (cst y * cst y - cst v * cst v : Fin q) * (1 - cst d * (cst x * cst x)) = 0 := by grind
  have k2 : (1 - cst d * (cst x * cst x) : Fin q) ≠ 0 := by
    intro k
    have hx := F.ns 1 (cst x) (by grind)
    rw [hx] at k
    exact F.one (by grind)
  have k3 := (F.nz _ _ k1).resolve_right k2
  have k4 : (cst y * cst y : Fin q) = cst v * cst v := by grind
  rcases F.sq k4 with k5 | k5
  · have := (cst_ext q).mp k5
    rw [Int.emod_eq_of_lt (by omega) (by omega), Int.emod_eq_of_lt (by omega) (by omega)] at this
    rw [this]
  · have k6 : (cst (y + v) : Fin q) = 0 := by rw [cst_add, k5]; grind
    obtain ⟨c, hc⟩ := Int.dvd_of_emod_eq_zero ((cst_eq0 q).mp k6)
    have c0 : c = 0 ∨ c = 1 := by
      have a1 : (q : Int) * c < q * 2 := by omega
      have a2 := Int.lt_of_mul_lt_mul_left a1 (by omega)
      have a3 : (q : Int) * (-1) < q * c := by omega
      have a4 := Int.lt_of_mul_lt_mul_left a3 (by omega)
      omega
    rcases c0 with rfl | rfl
    · have : y = v := by omega
      rw [this]
    · exfalso
      by_cases c1 : 2 * y < q
      · have := e2.mp c1; omega
      · have : ¬ 2 * v < q := fun c => c1 (e2.mpr c)
        omega
theorem exists_ret {q : Nat} {a d : Int} (h : Cv q a d) {P : Int × Int} (o : (a * P.1 * P.1 + P.2 * P.2 - 1 - d * P.1 * P.1 * P.2 * P.2).fmod q = 0) : ∃ k, 0 < k ∧ k ≤ 2 * q + 8 ∧ lmul q a d P k = (0, 1) := by
  have hb := primes_bd h.pr
  have : NeZero q := ⟨by omega⟩
  have o' : On (cst a : Fin q) (cst d) (cst2 P) := by
    rw [Int.fmod_eq_emod_of_nonneg _ (by omega)] at o
    have o2 := (cst_eq0 (α := Fin q) q).mpr o
    rw [cst_sub, cst_sub, cst_add, cst_mul, cst_mul, cst_mul, cst_mul, cst_mul, cst_mul, cst_mul, cst_one] at o2
    unfold On cst2; dsimp only; grind
  obtain ⟨r, hr, F⟩ := h.fld
  apply Classical.byContradiction
  intro hn
  have hall : ∀ i k, 0 < k → i + k < 2 * q + 9 → lmul q a d P (i + k) ≠ lmul q a d P i := by
    intro i k hk hi e
    refine hn ⟨k, hk, by omega, ?_⟩
    have e2 := congrArg (cst2 (α := Fin q)) e
    rw [cst2_lmul h o', cst2_lmul h o', hr] at e2
    have e3 := mulN_cancel F (hr ▸ o') e2
    rw [← hr, ← cst2_lmul h o', ← cst2_zero] at e3
    exact cst2_inj (lmul_in (by omega) _ _) (by unfold InB; dsimp only; omega) e3
  have hN : ((List.range (2 * q + 9)).map fun k => enc q (lmul q a d P k)).Nodup := by
    refine List.pairwise_iff_getElem.mpr ?_
    intro i j hi hj hij
    simp only [List.length_map, List.length_range] at hi hj
    simp only [List.getElem_map, List.getElem_range]
    intro e
    have e2 := enc_inj h (lmul_in (by omega) _ _) (lmul_in (by omega) _ _) (by rw [cst2_lmul h o', hr]; exact mulN_on F (hr ▸ o') i) (by rw [cst2_lmul h o', hr]; exact mulN_on F (hr ▸ o') j) e
    refine hall i (j - i) (by omega) (by omega) ?_
    rw [show i + (j - i) = j by omega]; exact e2.symm
  have hL := hN.length_le_of_subset (l₂ := List.range (2 * q)) (by
    intro x hx
    obtain ⟨k, _, rfl⟩ := List.mem_map.mp hx
    exact List.mem_range.mpr (enc_lt (lmul_in (by omega) _ _)))
  simp only [List.length_map, List.length_range] at hL
  omega
end Ed
end
-- E05e
section
open Lean.Grind
namespace Ed
/-- the code's doubling and sum, on ints -/
def zdbl (p a X Y Z : Int) : Int × Int × Int × Int :=
  let A := (X * X).fmod p
  let B := (Y * Y).fmod p
  let C := (2 * Z * Z).fmod p
  let D := (a * A).fmod p
  let E := ((X + Y) * (X + Y) - A - B).fmod p
  let G := D + B
  let F := G - C
  let H := D - B
  ((E * F).fmod p, (G * H).fmod p, (F * G).fmod p, (E * H).fmod p)
def zadd (p a X1 Y1 Z1 T1 X2 Y2 Z2 T2 : Int) : Int × Int × Int × Int :=
  let A := (X1 * X2).fmod p
  let B := (Y1 * Y2).fmod p
  let C := (Z1 * T2).fmod p
  let D := (T1 * Z2).fmod p
  let E := D + C
  let F := ((X1 - Y1) * (X2 + Y2) + B - A).fmod p
  let G := B + a * A
  let H := D - C
  if H = 0 then zdbl p a X1 Y1 Z1 else ((E * F).fmod p, (G * H).fmod p, (F * G).fmod p, (E * H).fmod p)
def In4 (p : Int) (V : Int × Int × Int × Int) : Prop := (0 ≤ V.1 ∧ V.1 < p) ∧ (0 ≤ V.2.1 ∧ V.2.1 < p) ∧ (0 ≤ V.2.2.1 ∧ V.2.2.1 < p) ∧ 0 ≤ V.2.2.2 ∧ V.2.2.2 < p
theorem zdbl_in {p a X Y Z : Int} (hp : 0 < p) : In4 p (zdbl p a X Y Z) := ⟨fm_bd hp _, fm_bd hp _, fm_bd hp _, fm_bd hp _⟩
theorem zadd_in {p a X1 Y1 Z1 T1 X2 Y2 Z2 T2 : Int} (hp : 0 < p) : In4 p (zadd p a X1 Y1 Z1 T1 X2 Y2 Z2 T2) := by
  unfold zadd; dsimp only; split
  · exact zdbl_in hp
  · exact ⟨fm_bd hp _, fm_bd hp _, fm_bd hp _, fm_bd hp _⟩
/-- what the law has chosen: a curve, a point on it, of odd order n -/
structure Cx (q : Nat) (a d : Int) (P : Int × Int) (n : Nat) : Prop where
  cv : Cv q a d
  on : (a * P.1 * P.1 + P.2 * P.2 - 1 - d * P.1 * P.1 * P.2 * P.2).fmod q = 0
  ib : InB q P
  odd : n % 2 = 1
  big : 1 < n
  ret : lmul q a d P n = (0, 1)
  low : ∀ k, 0 < k → k < n → lmul q a d P k ≠ (0, 1)
/-- the i-th multiple -/
def zM (q : Nat) (a d : Int) (P : Int × Int) (n : Nat) (i : Int) : Int × Int := lmul q a d P (i % (n : Int)).toNat
/-- V stands for the i-th multiple -/
def Rp (q : Nat) (a d : Int) (P : Int × Int) (n : Nat) (i : Int) (X Y Z T : Int) : Prop :=
  Z % (q : Int) ≠ 0 ∧ (X - (zM q a d P n i).1 * Z) % (q : Int) = 0 ∧ (Y - (zM q a d P n i).2 * Z) % (q : Int) = 0 ∧ (T - (zM q a d P n i).1 * (zM q a d P n i).2 * Z) % (q : Int) = 0
variable {q : Nat} {a d : Int} {P : Int × Int} {n : Nat}
theorem Cx.ne (h : Cx q a d P n) : NeZero q := ⟨by have := primes_bd h.cv.pr; omega⟩
theorem on_cst [NeZero q] {P : Int × Int} (o : (a * P.1 * P.1 + P.2 * P.2 - 1 - d * P.1 * P.1 * P.2 * P.2).fmod q = 0) : On (cst a : Fin q) (cst d) (cst2 P) := by
  rw [Int.fmod_eq_emod_of_nonneg _ (by omega)] at o
  have o2 := (cst_eq0 (α := Fin q) q).mpr o
  rw [cst_sub, cst_sub, cst_add, cst_mul, cst_mul, cst_mul, cst_mul, cst_mul, cst_mul, cst_mul, cst_one] at o2
  unfold On cst2; dsimp only; grind
theorem Cx.grp [NeZero q] (h : Cx q a d P n) : ∃ r : Fin q, (cst a : Fin q) = r * r ∧ Grp r (cst d) cinv (cst2 P) n ∧ ∀ i : Int, (cst2 (zM q a d P n i) : Fin q × Fin q) = M r (cst d) cinv (cst2 P) n i := by
  obtain ⟨r, hr, F⟩ := h.cv.fld
  have o := on_cst h.on
  have hb := primes_bd h.cv.pr
  refine ⟨r, hr, ⟨F, hr ▸ o, h.odd, h.big, ?_, fun k h1 h2 e => ?_⟩, fun i => ?_⟩
  · rw [← hr, ← cst2_lmul h.cv o, h.ret, cst2_zero]
  · rw [← hr, ← cst2_lmul h.cv o, ← cst2_zero] at e
    exact h.low k h1 h2 (cst2_inj (lmul_in (by omega) _ _) (by unfold InB; dsimp only; omega) e)
  · unfold zM M; rw [cst2_lmul h.cv o, hr]
theorem rp_iff [NeZero q] {i X Y Z T : Int} {Q : Fin q × Fin q} (e : (cst2 (zM q a d P n i) : Fin q × Fin q) = Q) : Rp q a d P n i X Y Z T ↔ Rep Q (cst X) (cst Y) (cst Z) (cst T) := by
  subst e
  unfold Rp Rep cst2
  dsimp only
  rw [ne_eq, ← cst_eq0 (α := Fin q) q, ← cst_eq0 (α := Fin q) q, ← cst_eq0 (α := Fin q) q, ← cst_eq0 (α := Fin q) q, cst_sub, cst_sub, cst_sub, cst_mul, cst_mul, cst_mul, cst_mul]
  have s : ∀ u v : Fin q, u - v = 0 ↔ u = v := fun u v => ⟨fun e => by grind, fun e => by grind⟩
  rw [s, s, s]
theorem rp_zero (h : Cx q a d P n) : Rp q a d P n 0 0 1 1 0 := by
  have := h.ne
  obtain ⟨r, hr, G, e⟩ := h.grp
  rw [rp_iff (e 0), G.zero (Int.zero_emod _), cst_zero, cst_one]
  exact rep_zero G.fld
theorem rp_neg (h : Cx q a d P n) {i X Y Z T : Int} (hr : Rp q a d P n i X Y Z T) : Rp q a d P n (-i) (-X) Y Z (-T) := by
  have := h.ne
  obtain ⟨r, hr', G, e⟩ := h.grp
  rw [rp_iff (e i)] at hr
  rw [rp_iff (e (-i)), G.neg, cst_neg, cst_neg]
  exact rep_neg hr
theorem rp_dbl (h : Cx q a d P n) {i X Y Z T : Int} (hr : Rp q a d P n i X Y Z T) : ∀ {V}, zdbl q a X Y Z = V → Rp q a d P n (2 * i) V.1 V.2.1 V.2.2.1 V.2.2.2 := by
  rintro _ rfl
  have := h.ne
  obtain ⟨r, hr', G, e⟩ := h.grp
  rw [rp_iff (e i)] at hr
  rw [rp_iff (e (2 * i)), show 2 * i = i + i by omega, ← G.add]
  have := rep_dbl G.fld (G.mon i) hr rfl rfl rfl rfl rfl rfl rfl rfl
  unfold zdbl
  dsimp only
  simp only [cst_fmod, cst_mul, cst_sub, cst_add, cst_two, hr']
  exact this
theorem rp_add (h : Cx q a d P n) {i j X1 Y1 Z1 T1 X2 Y2 Z2 T2 : Int} (h1 : Rp q a d P n i X1 Y1 Z1 T1) (h2 : Rp q a d P n j X2 Y2 Z2 T2) : ∀ {V}, zadd q a X1 Y1 Z1 T1 X2 Y2 Z2 T2 = V → Rp q a d P n (i + j) V.1 V.2.1 V.2.2.1 V.2.2.2 := by
  rintro _ rfl
  have := h.ne
  obtain ⟨r, hr', G, e⟩ := h.grp
  have hb := primes_bd h.cv.pr
  have h0 := h1
  rw [rp_iff (e i)] at h1
  rw [rp_iff (e j)] at h2
  have key : (T1 * Z2).fmod q - (Z1 * T2).fmod q = 0 ↔ i % (n : Int) = j % (n : Int) := by
    have k1 : (T1 * Z2).fmod q - (Z1 * T2).fmod q = 0 ↔ (cst T1 * cst Z2 : Fin q) = cst Z1 * cst T2 := by
      rw [← cst_mul, ← cst_mul, cst_ext q, Int.fmod_eq_emod_of_nonneg _ (by omega), Int.fmod_eq_emod_of_nonneg _ (by omega)]
      omega
    rw [k1]
    obtain ⟨z1, _, _, t1⟩ := h1
    obtain ⟨z2, _, _, t2⟩ := h2
    rw [t1, t2]
    constructor
    · intro k
      refine G.t_inj (G.fld.can (G.fld.mul0 z1 z2) ?_)
      grind
    · intro k
      rw [G.eq_of_mod k]; grind
  unfold zadd
  dsimp only
  by_cases hc : i % (n : Int) = j % (n : Int)
  · rw [if_pos (key.mpr hc)]
    have := rp_dbl h h0 rfl
    rw [rp_iff (e (2 * i)), show 2 * i = i + i by omega, ← G.add] at this
    rw [rp_iff (e (i + j)), ← G.add, ← G.eq_of_mod hc]
    exact this
  · rw [if_neg (fun k => hc (key.mp k)), rp_iff (e (i + j)), ← G.add]
    have := rep_add G.fld (G.mon i) (G.mon j) h1 h2 (G.den hc).1 (G.den hc).2 rfl rfl rfl rfl rfl rfl rfl rfl
    simp only [cst_fmod, cst_mul, cst_sub, cst_add, hr']
    exact this
theorem rp_null (h : Cx q a d P n) {i X Y Z T : Int} (hr : Rp q a d P n i X Y Z T) : (X % (q : Int) = 0 ∨ T % (q : Int) = 0) ↔ i % (n : Int) = 0 := by
  have := h.ne
  obtain ⟨r, hr', G, e⟩ := h.grp
  rw [rp_iff (e i)] at hr
  obtain ⟨z, x, _, t⟩ := hr
  rw [← cst_eq0 (α := Fin q) q, ← cst_eq0 (α := Fin q) q, x, t]
  constructor
  · intro k
    apply Classical.byContradiction
    intro hi
    have h1 := G.xy0 hi
    have h2 : (M r (cst d) cinv (cst2 P) n i).1 ≠ 0 := fun k => hi (G.x0 k)
    rcases k with k | k
    · exact G.fld.mul0 h2 z k
    · exact G.fld.mul0 h1 z k
  · intro k
    left; rw [G.zero k]; grind
theorem zM_in (h : Cx q a d P n) (i : Int) : InB q (zM q a d P n i) := lmul_in (by have := primes_bd h.cv.pr; omega) _ _
/-- the affine coordinates, by the inverse of Z -/
theorem rp_aff (h : Cx q a d P n) {i X Y Z T v : Int} (hr : Rp q a d P n i X Y Z T) (hv : (Z * v) % (q : Int) = 1) : (X * v).fmod q = (zM q a d P n i).1 ∧ (Y * v).fmod q = (zM q a d P n i).2 := by
  have := h.ne
  have hb := primes_bd h.cv.pr
  have hz := zM_in h i
  rw [rp_iff rfl] at hr
  obtain ⟨z, x, y, t⟩ := hr
  have hv2 : (cst Z * cst v : Fin q) = 1 := by
    rw [← cst_mul, ← cst_one, cst_ext q, hv]; exact (Int.emod_eq_of_lt (by omega) (by omega)).symm
  unfold InB at hz
  rw [Int.fmod_eq_emod_of_nonneg _ (by omega), Int.fmod_eq_emod_of_nonneg _ (by omega)]
  constructor
  · rw [← Int.emod_eq_of_lt hz.1 hz.2.1, ← cst_ext (α := Fin q) q, cst_mul, x]
    unfold cst2; dsimp only; grind
  · rw [← Int.emod_eq_of_lt hz.2.2.1 hz.2.2.2, ← cst_ext (α := Fin q) q, cst_mul, y]
    unfold cst2; dsimp only; grind
theorem rp_one (h : Cx q a d P n) {i X Y T : Int} (hr : Rp q a d P n i X Y 1 T) : X.fmod q = (zM q a d P n i).1 ∧ Y.fmod q = (zM q a d P n i).2 := by
  have hb := primes_bd h.cv.pr
  have := rp_aff h hr (v := 1) (by rw [Int.mul_one]; exact Int.emod_eq_of_lt (by omega) (by omega))
  rwa [Int.mul_one, Int.mul_one] at this
theorem zM_one (h : Cx q a d P n) : zM q a d P n 1 = P := by
  have := h.ne
  have hb := primes_bd h.cv.pr
  have e : (1 : Int) % (n : Int) = 1 := Int.emod_eq_of_lt (by omega) (by have := h.big; omega)
  unfold zM; rw [e]
  refine cst2_inj (q := q) (lmul_in (by omega) _ _) h.ib ?_
  rw [cst2_lmul h.cv (on_cst h.on)]
  obtain ⟨r, hr, F⟩ := h.cv.fld
  show plus _ _ _ (0, 1) _ = _
  rw [plus_comm, plus_zero F]
/-- the law's own extended coordinates -/
theorem rp_ext (h : Cx q a d P n) {z : Int} (z0 : 0 < z) (z1 : z < q) : Rp q a d P n 1 ((P.1 * z).fmod q) ((P.2 * z).fmod q) z ((P.1 * P.2 * z).fmod q) := by
  have := h.ne
  unfold Rp
  rw [zM_one h]
  refine ⟨by rw [Int.emod_eq_of_lt (by omega) z1]; omega, ?_, ?_, ?_⟩ <;> rw [← cst_eq0 (α := Fin q) q, cst_sub, cst_fmod] <;> grind
/-- scaled -/
theorem rp_scaled (h : Cx q a d P n) (i : Int) : Rp q a d P n i (zM q a d P n i).1 (zM q a d P n i).2 1 (((zM q a d P n i).1 * (zM q a d P n i).2).fmod q) := by
  have := h.ne
  have hb := primes_bd h.cv.pr
  unfold Rp
  refine ⟨by rw [Int.emod_eq_of_lt (by omega) (by omega)]; omega, ?_, ?_, ?_⟩ <;> rw [← cst_eq0 (α := Fin q) q, cst_sub] <;> (try rw [cst_fmod]) <;> (try rw [Int.mul_one]) <;> grind
theorem zM_zero (h : Cx q a d P n) {i : Int} : zM q a d P n i = (0, 1) ↔ i % (n : Int) = 0 := by
  have hn : (0 : Int) < n := by have := h.big; omega
  unfold zM
  constructor
  · intro e
    apply Classical.byContradiction
    intro hc
    have := Int.emod_nonneg i (Int.ne_of_gt hn)
    have := Int.emod_lt_of_pos i hn
    exact h.low _ (by omega) (by omega) e
  · intro e; rw [e]; rfl
theorem rp_mod {i j X Y Z T : Int} (e : i % (n : Int) = j % (n : Int)) (hr : Rp q a d P n i X Y Z T) : Rp q a d P n j X Y Z T := by
  unfold Rp zM at *; rw [← e]; exact hr
end Ed
end
-- E05f
section
open Lean.Grind
namespace Ed
theorem coprime24 : primes24.all (fun p => (List.range p).all fun z => z == 0 || Nat.gcd p z == 1) = true := by decide +kernel
/-- Euclid's state: found, before, rest, divisor -/
structure Eu (m v f b r e : Int) : Prop where
  r0 : 0 < r
  e0 : 0 ≤ e
  rm : r ≤ m
  em : e ≤ m
  sg : ∃ F B : Int, 0 ≤ F ∧ 0 ≤ B ∧ F ≤ m ∧ B ≤ m ∧ (f = F ∧ b = -B ∨ f = -F ∧ b = B) ∧ B * r + F * e = m
  cf : (f * v - r) % m = 0
  cb : (b * v - e) % m = 0
  gc : Int.gcd r e = 1
theorem Eu.bd {m v f b r e : Int} (h : Eu m v f b r e) : (-m ≤ f ∧ f ≤ m) ∧ -m ≤ b ∧ b ≤ m := by
  obtain ⟨F, B, h1, h2, h3, h4, h5, _⟩ := h.sg
  omega
theorem eu_start {q : Nat} (hq : q ∈ primes24) {v : Int} (hv : v % (q : Int) ≠ 0) : Eu q v 0 1 q (v.fmod q) := by
  have hb := primes_bd hq
  have e : v.fmod q = v % q := Int.fmod_eq_emod_of_nonneg _ (by omega)
  have h0 := Int.emod_nonneg v (show (q : Int) ≠ 0 by omega)
  have h1 := Int.emod_lt_of_pos v (show (0 : Int) < q by omega)
  rw [e]
  refine ⟨by omega, h0, by omega, by omega, ⟨0, 1, by omega, by omega, by omega, by omega, .inr ⟨rfl, rfl⟩, by omega⟩, by simp, ?_, ?_⟩
  · rw [Int.one_mul]; exact Int.emod_eq_zero_of_dvd (Int.dvd_self_sub_emod)
  · have f := List.all_eq_true.mp (List.all_eq_true.mp coprime24 q hq) (v % (q : Int)).toNat (by rw [List.mem_range]; omega)
    rw [Bool.or_eq_true] at f
    rcases f with f | f
    · have := beq_iff_eq.mp f; omega
    · have f := beq_iff_eq.mp f
      have e2 : v % (q : Int) = ((v % (q : Int)).toNat : Int) := by omega
      rw [e2]
      exact f
theorem eu_share {m v f b r e : Int} (h : Eu m v f b r e) (he : e ≠ 0) : 0 ≤ r.fdiv e ∧ r.fdiv e ≤ m ∧ 0 ≤ r - r.fdiv e * e ∧ r - r.fdiv e * e < e := by
  have h0 := h.r0
  have h1 := h.e0
  have e1 : r.fdiv e = r / e := Int.fdiv_eq_ediv_of_nonneg _ h1
  have e2 := Int.emod_def r e
  have e3 := Int.emod_nonneg r he
  have e4 := Int.emod_lt_of_pos r (show 0 < e by omega)
  rw [e1]
  have e5 : r / e ≤ r := Int.ediv_le_self _ (by omega)
  have e6 : 0 ≤ r / e := Int.ediv_nonneg (by omega) (by omega)
  have := h.rm
  rw [Int.mul_comm e] at e2
  omega
theorem eu_step {m v f b r e : Int} (h : Eu m v f b r e) (he : e ≠ 0) : Eu m v b (f - r.fdiv e * b) e (r - r.fdiv e * e) := by
  have hs := eu_share h he
  have he0 := h.e0
  have hem := h.em
  have hr0 := h.r0
  obtain ⟨F, B, h1, h2, h3, h4, h5, h6⟩ := h.sg
  have g := h.gc
  have c1 := h.cf
  have c2 := h.cb
  have e1 : r.fdiv e = r / e := Int.fdiv_eq_ediv_of_nonneg _ he0
  have e2 := Int.emod_def r e
  rw [Int.mul_comm e, ← e1] at e2
  have g2 : Int.gcd e (r - r.fdiv e * e) = 1 := by
    rw [Int.gcd_sub_mul_right_right, Int.gcd_comm]; exact g
  generalize r.fdiv e = s at *
  refine ⟨by omega, by omega, by omega, by omega, ⟨B, F + s * B, h2, ?_, h4, ?_, ?_, ?_⟩, c2, ?_, g2⟩
  · have := Int.mul_nonneg hs.1 h2; omega
  · have k1 : (F + s * B) * e + B * (r - s * e) = m := by grind
    have k2 : 0 ≤ B * (r - s * e) := Int.mul_nonneg h2 hs.2.2.1
    have k3 : 0 ≤ F + s * B := by have := Int.mul_nonneg hs.1 h2; omega
    have k4 : (F + s * B) * 1 ≤ (F + s * B) * e := Int.mul_le_mul_of_nonneg_left (by omega) k3
    omega
  · rcases h5 with ⟨rfl, rfl⟩ | ⟨rfl, rfl⟩
    · right; exact ⟨rfl, by grind⟩
    · left; exact ⟨rfl, by grind⟩
  · grind
  · obtain ⟨k1, hk1⟩ := Int.dvd_of_emod_eq_zero c1
    obtain ⟨k2, hk2⟩ := Int.dvd_of_emod_eq_zero c2
    exact Int.emod_eq_zero_of_dvd ⟨k1 - s * k2, by grind⟩
theorem eu_end {q : Nat} (hq : q ∈ primes24) {v f b r : Int} (h : Eu q v f b r 0) : r = 1 ∧ (v * f.fmod q) % (q : Int) = 1 := by
  have hb := primes_bd hq
  have g := h.gc
  have h0 := h.r0
  have hr : r = 1 := by rw [Int.gcd_zero_right] at g; omega
  refine ⟨hr, ?_⟩
  have c := h.cf
  rw [hr] at c
  rw [Int.fmod_eq_emod_of_nonneg _ (by omega), Int.mul_emod, Int.emod_emod, ← Int.mul_emod, Int.mul_comm]
  have := Int.emod_eq_emod_iff_emod_sub_eq_zero.mpr c
  rw [this]
  exact Int.emod_eq_of_lt (by omega) (by omega)
variable {q : Nat} {a d : Int} {P : Int × Int} {n : Nat}
theorem fm_id {q : Nat} {x : Int} (h : 0 ≤ x ∧ x < q) : x.fmod q = x := by
  rw [Int.fmod_eq_emod_of_nonneg _ (by omega)]; exact Int.emod_eq_of_lt h.1 h.2
theorem rp_fix (h : Cx q a d P n) {i X Y T : Int} (hr : Rp q a d P n i X Y 1 T) (hX : 0 ≤ X ∧ X < q) (hY : 0 ≤ Y ∧ Y < q) (hT : 0 ≤ T ∧ T < q) :
    X = (zM q a d P n i).1 ∧ Y = (zM q a d P n i).2 ∧ T = ((zM q a d P n i).1 * (zM q a d P n i).2).fmod q := by
  have h1 := rp_one h hr
  rw [fm_id hX, fm_id hY] at h1
  refine ⟨h1.1, h1.2, ?_⟩
  have h2 := hr.2.2.2
  rw [Int.mul_one] at h2
  have h3 := Int.emod_eq_emod_iff_emod_sub_eq_zero.mpr h2
  rw [Int.fmod_eq_emod_of_nonneg _ (by omega), ← h3]
  exact (Int.emod_eq_of_lt hT.1 hT.2).symm
theorem rp_x (h : Cx q a d P n) {i X Y Z T v : Int} (hr : Rp q a d P n i X Y Z T) (hv : (Z * v) % (q : Int) = 1) : (X * v).fmod q = (zM q a d P n i).1 := (rp_aff h hr hv).1
theorem rp_y (h : Cx q a d P n) {i X Y Z T v : Int} (hr : Rp q a d P n i X Y Z T) (hv : (Z * v) % (q : Int) = 1) : (Y * v).fmod q = (zM q a d P n i).2 := (rp_aff h hr hv).2
theorem Cx.a_bd (h : Cx q a d P n) : 0 ≤ a ∧ a < q := by
  obtain ⟨r, _, _, rfl⟩ := h.cv.sq
  exact fm_bd (by have := primes_bd h.cv.pr; omega) _
theorem rp_ne (h : Cx q a d P n) {i X Y Z T : Int} (hr : Rp q a d P n i X Y Z T) (hi : i % (n : Int) ≠ 0) : X ≠ 0 ∧ T ≠ 0 :=
  ⟨fun e => hi ((rp_null h hr).mp (.inl (by rw [e]; exact Int.zero_emod _))), fun e => hi ((rp_null h hr).mp (.inr (by rw [e]; exact Int.zero_emod _)))⟩
/-- as the code asks it: `not X or not T` -/
theorem rp_null0 (h : Cx q a d P n) {i X Y Z T : Int} (hr : Rp q a d P n i X Y Z T) (hX : 0 ≤ X ∧ X < q) (hT : 0 ≤ T ∧ T < q) : (X = 0 ∨ T = 0) ↔ i % (n : Int) = 0 := by
  rw [← rp_null h hr, Int.emod_eq_of_lt hX.1 hX.2, Int.emod_eq_of_lt hT.1 hT.2]
theorem dbl_mod (h : Cx q a d P n) {i : Int} (hi : i % (n : Int) ≠ 0) : (2 * i) % (n : Int) ≠ 0 := fun e => hi (dvd_odd h.odd e)
end Ed
end
-- Lr
section
section
variable {prog : Program} {w : World} {A : Around} {E : Value → Shared → Prop} {s : Shared} {env : Env} {h₀ : Heap} {x : Str} {body : List Stmt} {Q : Flow → Shared → Prop}
/-- a loop over a list of the ledger from its end, `reversed(xs)` -/
theorem lp_rev {σ : Type} {ax I : Addr} {n : Nat} {m₀ : Str → Option Value} (vs : List Value) (Led : σ → List (Addr × Obj)) (Ps : σ → List (Str × Value)) (Inv : Nat → σ → Prop) (stored : List Str) (c₀ : σ)
    (hh : A.handled = none) (F : Fr h₀ env.locals s.heap m₀) (N : News h₀ env.locals s.heap ((I, revObj ax ((vs.length : Int) - 1)) :: Led c₀)) (hne : ∀ p ∈ Led c₀, p.1 ≠ I)
    (hlL : ∀ i c, Inv i c → (ax, listOf vs.toArray n) ∈ Led c) (hps : ∀ p ∈ Ps c₀, m₀ p.1 = some p.2) (h0 : Inv 0 c₀)
    (turn : ∀ (i : Nat) v c (u : Str → Option Value) h tk it, i < vs.length → vs[vs.length - 1 - i]? = some v → Inv i c → (∀ p ∈ Led c, p.1 ≠ I) →
      Fr h₀ env.locals h (fun y => if y = x then some v else kstB (fun z => if stored.contains z then u z else m₀ z) (Ps c) y) → News h₀ env.locals h ((I, it) :: Led c) →
      wpAny (model prog w) A (execs body env) (LpPost Led Ps (Inv (i + 1)) stored x m₀ h₀ env.locals I it { s with heap := h, toks := tk } Q) E { s with heap := h, toks := tk })
    (done : ∀ c (u : Str → Option Value) h tk, Inv vs.length c → Fr h₀ env.locals h (fun y => if y = x then u y else kstB (fun z => if stored.contains z then u z else m₀ z) (Ps c) y) → News h₀ env.locals h (Led c) → Q .next { s with heap := h, toks := tk }) :
    wpAny (model prog w) A (pyIter (.ref I)) (fun it s₂ => LoopAtV prog w A h₀ env x body Q E it s₂) E s := by
  have hIx := N _ (List.mem_cons_self ..)
  have hm := hlL 0 c₀ h0
  have hax := N _ (List.mem_cons_of_mem _ hm)
  have hl : s.heap.IsList ax vs.toArray := ⟨_, hax.1, rfl, n, rfl⟩
  have hnI : ax ≠ I := hne _ hm
  have hit : s.heap.IsRevIter I ax ((vs.length : Int) - 1) := ⟨_, hIx.1, rfl, rfl⟩
  refine wpAny_pyIter_revIter hit ?_
  have W := Walks.listRev (prog := prog) (w := w) hh I ax hnI vs.toArray
  have hlen : vs.toArray.size = vs.length := by simp
  rw [hlen] at W
  refine lp_core Led Ps Inv stored c₀ (fun _ => listOf vs.toArray n) W (fun i h st => ?_) ?_ hIx.2.2 ?_ hne ?_ F (fun p hp => N p (List.mem_cons_of_mem _ hp)) hps h0 ?_ ?_
  · obtain ⟨_, ⟨o, ho, _⟩, _⟩ := st; exact ⟨o, ho⟩
  · intro hmm
    rcases List.mem_cons.mp hmm with e | hmm
    · exact hIx.2.1 e.symm
    · exact hax.2.1 (List.mem_singleton.mp hmm).symm
  · refine ⟨Nat.zero_le _, ?_, hl⟩
    have e : (vs.length : Int) - 1 - ((0 : Nat) : Int) = (vs.length : Int) - 1 := by omega
    rw [e]; exact hit
  · intro i c hc b hb hne' h0'
    rcases List.mem_cons.mp hb with e | hb
    · exact absurd e hne'
    · rw [List.mem_singleton.mp hb]
      exact hlL i c hc
  · rintro i v c u h tk it hi hP hinv hne' F₁ N₁
    exact turn i v c u h tk it hi (by simpa using hP) hinv hne' F₁ N₁
  · intro c u h tk hinv _ F₁ N₁
    exact done c u h tk hinv F₁ N₁
/-- the same with one ledger throughout -/
theorem lp_revC {σ : Type} {ax I : Addr} {n : Nat} {m₀ : Str → Option Value} {vs : List Value} {led : List (Addr × Obj)} (Ps : σ → List (Str × Value)) (Inv : Nat → σ → Prop) (stored : List Str) (c₀ : σ)
    (hh : A.handled = none) (F : Fr h₀ env.locals s.heap m₀) (N : News h₀ env.locals s.heap ((I, revObj ax ((vs.length : Int) - 1)) :: (ax, listOf vs.toArray n) :: led)) (hne : ∀ p ∈ (ax, listOf vs.toArray n) :: led, p.1 ≠ I)
    (hps : ∀ p ∈ Ps c₀, m₀ p.1 = some p.2) (h0 : Inv 0 c₀)
    (turn : ∀ (i : Nat) v c (u : Str → Option Value) h tk it, i < vs.length → vs[vs.length - 1 - i]? = some v → Inv i c → (∀ p ∈ (ax, listOf vs.toArray n) :: led, p.1 ≠ I) →
      Fr h₀ env.locals h (fun y => if y = x then some v else kstB (fun z => if stored.contains z then u z else m₀ z) (Ps c) y) → News h₀ env.locals h ((I, it) :: (ax, listOf vs.toArray n) :: led) →
      wpAny (model prog w) A (execs body env) (LpPost (fun _ => (ax, listOf vs.toArray n) :: led) Ps (Inv (i + 1)) stored x m₀ h₀ env.locals I it { s with heap := h, toks := tk } Q) E { s with heap := h, toks := tk })
    (done : ∀ c (u : Str → Option Value) h tk, Inv vs.length c → Fr h₀ env.locals h (fun y => if y = x then u y else kstB (fun z => if stored.contains z then u z else m₀ z) (Ps c) y) → News h₀ env.locals h ((ax, listOf vs.toArray n) :: led) → Q .next { s with heap := h, toks := tk }) :
    wpAny (model prog w) A (pyIter (.ref I)) (fun it s₂ => LoopAtV prog w A h₀ env x body Q E it s₂) E s :=
  lp_rev (n := n) vs (fun _ => (ax, listOf vs.toArray n) :: led) Ps Inv stored c₀ hh F N hne (fun _ _ _ => .head _) hps h0 turn done
end
theorem allLt_all {d : Nat} : ∀ {l : List (Addr × Obj)}, AllLt d l → ∀ p ∈ l, p.1 < d
  | [], _, _, hp => by cases hp
  | _ :: _, h, p, hp => by
    rcases List.mem_cons.mp hp with e | e
    · rw [e]; exact h.1
    · exact allLt_all h.2 p e
theorem ints_at {vs : List Value} {ns : List Int} (h : IntsAre vs ns) : ∀ {i : Nat} {v : Value}, vs[i]? = some v → ∃ x t, v = .int x t ∧ ns[i]? = some x := by
  induction h with
  | nil => intro i v h; simp at h
  | cons n t _ ih =>
    intro i v h
    rcases i with _ | i
    · simp only [List.getElem?_cons_zero, Option.some.injEq] at h
      exact ⟨_, _, h.symm, by simp⟩
    · simp only [List.getElem?_cons_succ] at h ⊢
      exact ih h
theorem truthy_L {prog : Program} {w : World} {A : Around} {E : Value → Shared → Prop} {s : Shared} {h₀ : Heap} {L l : Addr} {vs : List Value} {k : Nat} {news : List (Addr × Obj)} {Q : Bool → Shared → Prop} (b : Bool) (N : News h₀ L s.heap news) (hm : (l, listOf vs.toArray k) ∈ news) (hz : vs.length ≤ 100000) (hb : vs.isEmpty = !b)
    (h : Q b { s with toks := s.toks + 1 + 1 }) : wpAny (model prog w) A (truthy (.ref l)) Q E s := by
  refine wpAny_truthy_list (News.isList N hm) (by rw [List.size_toArray]; omega) ?_
  rw [List.isEmpty_toArray, hb, Bool.not_not]
  exact h
/-- a contract on the level of the code: for a def reached by a bound method too -/
def SpC (prog : Program) (w : World) (K : Frag) (p : Program) (loose : List Str) (mean : ExcName → Option Value) (mg mb : Str → Option Value) (D U : Nat) (f : Value) (pos : List Value) (news : List (Addr × Obj)) (Pre : Heap → Prop)
    (R : Heap → Addr → (Str → Option Value) → Shared → (Value → Shared → Prop) → Prop) : Prop :=
  ∀ (dp un : Nat) (gd : Option (List Code)) (cn : Str) (cs : Scope) (a : Addr) (ccd : Value) (cl : List (Str × Addr)) (outer : List Env) (A₀ : Around) (base h₀ : Heap) (L : Addr) (m : Str → Option Value) (s : Shared) (Q : Value → Shared → Prop) (E : Value → Shared → Prop),
    Below A₀ base outer h₀ → Fr h₀ L s.heap m → K.In h₀ → News h₀ L s.heap news → Top p loose mean mg mb h₀ → cs.kind = .function → dp + D < recursionLimit → un + U < cLine → Pre base → R h₀ L m s Q →
    codeAny (model prog w) (ktrTop dp un gd cn cs L a ccd cl outer) (.call f ⟨pos, []⟩) (fun r s' => match r with | .ok (.ret v) => Q v s' | .ok _ => False | .error e => E e s') s
theorem SpC.sp {prog : Program} {w : World} {K : Frag} {p : Program} {loose : List Str} {mean : ExcName → Option Value} {mg mb : Str → Option Value} {D U : Nat} {f : Value} {pos : List Value} {news : List (Addr × Obj)} {Pre : Heap → Prop}
    {R : Heap → Addr → (Str → Option Value) → Shared → (Value → Shared → Prop) → Prop} (h : SpC prog w K p loose mean mg mb D U f pos news Pre R) : Sp prog w K p loose mean mg mb D U (call f pos) news Pre R :=
  fun _ _ _ _ _ _ _ _ _ _ _ _ _ _ _ _ _ B F X N T hk hd hu hp hr => wpAny_call (h _ _ _ _ _ _ _ _ _ _ _ _ _ _ _ _ _ B F X N T hk hd hu hp hr)
/-- a bound method of the ledger -/
theorem SpC.meth {prog : Program} {w : World} {K : Frag} {p : Program} {loose : List Str} {mean : ExcName → Option Value} {mg mb : Str → Option Value} {D U : Nat} {f self : Value} {pos : List Value} {news : List (Addr × Obj)} {Pre : Heap → Prop}
    {R : Heap → Addr → (Str → Option Value) → Shared → (Value → Shared → Prop) → Prop} {q : Addr} (hq : (q, methodObj f self) ∈ news) (h : SpC prog w K p loose mean mg mb D U f (self :: pos) news Pre R) : Sp prog w K p loose mean mg mb D U (call (.ref q) pos) news Pre R :=
  fun _ _ _ _ _ _ _ _ _ _ _ _ _ _ _ _ _ B F X N T hk hd hu hp hr => call_meth N hq (h _ _ _ _ _ _ _ _ _ _ _ _ _ _ _ _ _ B F X N T hk hd hu hp hr)
end
-- Ltd
section
section
variable {prog : Program} {w : World} {A : Around} {E : Value → Shared → Prop} {s : Shared} {env : Env} {h₀ : Heap} {x : Str} {target : Expr} {body : List Stmt} {Q : Flow → Shared → Prop}
/-- the same with a datum: known locals and an invariant -/
theorem lt_listD {σ : Type} {l : Addr} {k : Nat} {m₀ : Str → Option Value} {led : List (Addr × Obj)} {vs : List Value} (Ps : σ → List (Str × Value)) (Inv : Nat → σ → Prop) (stored : List Str) (c₀ : σ) (hx : stored.contains x = true)
    (hh : A.handled = none) (hm : (l, W.listOf vs.toArray k) ∈ led)
    (F : Fr h₀ env.locals s.heap m₀) (N : News h₀ env.locals s.heap led) (hps : ∀ p ∈ Ps c₀, m₀ p.1 = some p.2) (h0 : Inv 0 c₀)
    (turn : ∀ I (i : Nat) v c (u : Str → Option Value) h tk it, vs[i]? = some v → Inv i c → (∀ p ∈ led, p.1 ≠ I) →
      Fr h₀ env.locals h (kstB (fun z => if stored.contains z then u z else m₀ z) (Ps c)) → News h₀ env.locals h ((I, it) :: led) →
      wpAny (model prog w) A (assign target env v) (fun _ s₃ => wpAny (model prog w) A (execs body env) (LpPost (fun _ => led) Ps (Inv (i + 1)) stored x m₀ h₀ env.locals I it { s with heap := h, toks := tk } Q) E s₃) E { s with heap := h, toks := tk })
    (done : ∀ c (u : Str → Option Value) h tk, Inv vs.length c → Fr h₀ env.locals h (kstB (fun z => if stored.contains z then u z else m₀ z) (Ps c)) → News h₀ env.locals h led → Q .next { s with heap := h, toks := tk }) :
    wpAny (model prog w) A (pyIter (.ref l)) (fun it s₂ => TurnsAt prog w A h₀ env target body Q E it s₂) E s := by
  have hl : s.heap.IsList l vs.toArray := ⟨_, (N _ hm).1, rfl, k, rfl⟩
  have hne : l ≠ s.heap.objs.size := Nat.ne_of_lt (Heap.lt_size (N _ hm).1)
  refine wpAny_pyIter_list hl ?_
  have W0 := Walks.list (prog := prog) (w := w) hh s.heap.objs.size l hne vs.toArray
  have hlen : vs.toArray.size = vs.length := by simp
  have W1 := KTurns.ofWalks (target := target) W0 fun i v s Q E st q => letGo_listiter st.1 q
  rw [hlen] at W1
  have nx : ∀ z, stored.contains z = false → z ≠ x := fun z hz e => by rw [e, hx] at hz; cases hz
  refine ⟨s.heap.objs.size, _, [s.heap.objs.size], vs.length, _, _, _, m₀, led, fun i m n => n = led ∧ ∃ c, Inv i c ∧ (∀ p ∈ Ps c, m p.1 = some p.2) ∧ ∀ z, stored.contains z = false → m z = m₀ z, rfl, W1, ?_, ?_, ?_, ?_, F.push _, (fun p hp => ⟨Heap.get?_push_of_some _ (N p hp).1, (N p hp).2⟩), ⟨rfl, c₀, h0, hps, fun _ _ => rfl⟩, ?_, ?_⟩
  · intro hm'
    rcases List.mem_cons.mp hm' with e | hm'
    · exact absurd F.ns.lt (e ▸ Nat.lt_irrefl _)
    · exact (N _ hm).2.1 (List.mem_singleton.mp hm').symm
  · intro b hb; rw [List.mem_singleton.mp hb]; exact next_is_new F
  · intro p hp hq; exact absurd (Heap.lt_size (N p hp).1) ((List.mem_singleton.mp hq) ▸ Nat.lt_irrefl _)
  · exact ⟨⟨_, Heap.get?_push_size _ rfl, rfl, rfl⟩, hl.at fun o e => Heap.get?_push_of_some _ e⟩
  · rintro i v m₁ news₁ h₁ tk₁ own hin hP ⟨rfl, c, hinv, hpc, hsm⟩ hoff hof hown1 hown2 hst' F₁ N₁
    obtain ⟨⟨it, hit, _⟩, _⟩ := id hst'
    have hIo := hown2 _ (W0.sub _ (List.mem_singleton.mpr rfl)) (next_is_new F) it hit
    have N₂ : News h₀ env.locals h₁ ((s.heap.objs.size, it) :: news₁) := fun p hp => (List.mem_cons.mp hp).elim (fun e => e ▸ N₁ _ (List.mem_append.mpr (.inl hIo))) fun h => N₁ p (List.mem_append.mpr (.inr h))
    have hne' : ∀ p ∈ news₁, p.1 ≠ s.heap.objs.size := fun p hp e => hoff p hp (e ▸ List.mem_singleton.mpr rfl)
    refine wpAny_mono (turn _ i v c m₁ h₁ tk₁ it (by simpa using hP) hinv hne' (ksw_fr hpc (fun z _ h => hsm z h) F₁) N₂) (fun _ s₃ q => wpAny_mono q (fun f s₂ p => ?_) fun _ _ e => e) fun _ _ e => e
    have fin : LpEnd (fun _ => news₁) Ps (Inv (i + 1)) stored x m₀ h₀ env.locals s.heap.objs.size it { s with heap := h₁, toks := tk₁ } s₂ → LoopStepU h₀ env.locals [s.heap.objs.size] own (fun m nx => nx = news₁ ∧ ∃ c, Inv (i + 1) c ∧ (∀ p ∈ Ps c, m p.1 = some p.2) ∧ ∀ z, stored.contains z = false → m z = m₀ z) { s with heap := h₁, toks := tk₁ } .next s₂ := by
      rintro ⟨c', h', tk, m', news', e, F', N', hn, hI', hne'', hp', hs', hi'⟩
      refine ⟨rfl, h', tk, m', news₁, e, F', fun p hp => ?_, fun p hp hq => hne'' p hp (List.mem_singleton.mp hq), rfl, c', hi', hp', fun z hz => hs' z (nx z hz) hz⟩
      rcases List.mem_append.mp hp with h | h
      · have hg := hown1 p h
        rcases List.mem_cons.mp (hof p h) with e1 | e1
        · obtain ⟨p1, p2⟩ := p
          dsimp only at e1 hg
          subst e1
          obtain rfl : p2 = it := Option.some.inj (hg.symm.trans hit)
          exact N' _ hI'
        · have e2 := List.mem_singleton.mp e1
          obtain ⟨p1, p2⟩ := p
          dsimp only at e2 hg
          subst e2
          obtain rfl : p2 = _ := Option.some.inj (hg.symm.trans (N₂ _ (List.mem_cons_of_mem _ hm)).1)
          exact N' _ (hn _ hm)
      · exact N' p (hn p h)
    cases f with
    | ret v => exact .ret p
    | brk => exact .brk p
    | next => exact .next (fin p)
    | cont => exact .cont (fin p)
  · rintro h' tk m' news' F' N' hoff ⟨rfl, c, hi', hp', hs'⟩
    exact done c m' h' tk hi' (ksw_fr hp' (fun z _ h => hs' z h) F') N'
end
end
-- Lq
section
section
variable {prog : Program} {w : World} {A : Around} {E : Value → Shared → Prop} {s : Shared} {env : Env} {h₀ : Heap} {x : Str} {body : List Stmt} {Q : Flow → Shared → Prop}
theorem lp_coreI {σ : Type} {I : Addr} {fp : List Addr} {n : Nat} {P : Nat → Value → Prop} {St : Nat → Heap → Prop} {m₀ : Str → Option Value} (Led : σ → List (Addr × Obj)) (Ps : σ → List (Str × Value)) (Inv : Nat → σ → Prop) (stored : List Str) (c₀ : σ) (lo : Addr → Obj)
    (W : Walks prog w A I fp [I] n P St) (live : ∀ i h, St i h → ∃ o, h.get? I = some o) (hLf : env.locals ∉ fp) (hI : h₀.get? I = none) (hst : St 0 s.heap) (hne : ∀ p ∈ Led c₀, p.1 ≠ I)
    (hown : ∀ i c, Inv i c → ∀ b ∈ fp, b ≠ I → h₀.get? b = none → (b, lo b) ∈ Led c)
    (F : Fr h₀ env.locals s.heap m₀) (N : News h₀ env.locals s.heap (Led c₀)) (hps : ∀ p ∈ Ps c₀, m₀ p.1 = some p.2) (h0 : Inv 0 c₀)
    (turn : ∀ i v c (u : Str → Option Value) h tk it, i < n → P i v → St (i + 1) h → Inv i c → (∀ p ∈ Led c, p.1 ≠ I) →
      Fr h₀ env.locals h (fun y => if y = x then some v else kstB (fun z => if stored.contains z then u z else m₀ z) (Ps c) y) → News h₀ env.locals h ((I, it) :: Led c) →
      wpAny (model prog w) A (execs body env) (LpPost Led Ps (Inv (i + 1)) stored x m₀ h₀ env.locals I it { s with heap := h, toks := tk } Q) E { s with heap := h, toks := tk })
    (done : ∀ c (u : Str → Option Value) h tk, Inv n c → (∀ p ∈ Led c, p.1 ≠ I) → Fr h₀ env.locals h (fun y => if y = x then u y else kstB (fun z => if stored.contains z then u z else m₀ z) (Ps c) y) → News h₀ env.locals h (Led c) → Q .next { s with heap := h, toks := tk }) :
    LoopAtV prog w A h₀ env x body Q E (.ref I) s := by
  refine ⟨I, fp, [I], n, P, St, m₀, Led c₀, fun i m nx => ∃ c, nx = Led c ∧ (∀ p ∈ Ps c, m p.1 = some p.2) ∧ (∀ z, z ≠ x → stored.contains z = false → m z = m₀ z) ∧ Inv i c, rfl, W, hLf, ?_, ?_, hst, F, N, ⟨c₀, rfl, hps, fun _ _ _ => rfl, h0⟩, ?_, ?_⟩
  · intro b hb; rw [List.mem_singleton.mp hb]; exact hI
  · intro p hp hq; exact hne p hp (List.mem_singleton.mp hq)
  · rintro i v m₁ news₁ s₁ own ⟨hh', tk', rfl⟩ hin hP ⟨c, rfl, hps', hsm, hinv⟩ hoff hof hown1 hown2 hst' F₁ N₁
    obtain ⟨it, hit⟩ := live _ _ hst'
    have hIo : (I, it) ∈ own := hown2 I (W.sub I (List.mem_singleton.mpr rfl)) hI it hit
    have N₂ : News h₀ env.locals hh' ((I, it) :: Led c) := fun p hp => (List.mem_cons.mp hp).elim (fun e => e ▸ N₁ _ (List.mem_append.mpr (.inl hIo))) fun h => N₁ p (List.mem_append.mpr (.inr h))
    have hne' : ∀ p ∈ Led c, p.1 ≠ I := fun p hp e => hoff p hp (e ▸ List.mem_singleton.mpr rfl)
    refine wpAny_mono (turn i v c m₁ hh' tk' it hin hP hst' hinv hne' (kst_fr hps' (fun z h1 _ h3 => hsm z h1 h3) F₁) N₂) (fun f s₂ p => ?_) fun _ _ e => e
    have fin : LpEnd Led Ps (Inv (i + 1)) stored x m₀ h₀ env.locals I it { s with heap := hh', toks := tk' } s₂ → LoopStepU h₀ env.locals [I] own (fun m nx => ∃ c, nx = Led c ∧ (∀ p ∈ Ps c, m p.1 = some p.2) ∧ (∀ z, z ≠ x → stored.contains z = false → m z = m₀ z) ∧ Inv (i + 1) c) { s with heap := hh', toks := tk' } .next s₂ := by
      rintro ⟨c', h', tk, m', news', e, F', N', hn, hI', hne'', hp', hs', hi'⟩
      refine ⟨rfl, h', tk, m', Led c', e, F', fun p hp => ?_, fun p hp hq => hne'' p hp (List.mem_singleton.mp hq), c', rfl, hp', hs', hi'⟩
      rcases List.mem_append.mp hp with h | h
      · have hg := hown1 p h
        by_cases e1 : p.1 = I
        · have : p = (I, it) := by
            obtain ⟨p1, p2⟩ := p
            simp only at e1 hg; subst e1
            have e2 : some p2 = some it := hg.symm.trans hit
            rw [Option.some.inj e2]
          exact this ▸ N' _ hI'
        · have h3 : h₀.get? p.1 = none := (N₁ p (List.mem_append.mpr (.inl h))).2.2
          have h4 := hown _ _ hinv p.1 (hof p h) e1 h3
          have h5 := hown _ _ hi' p.1 (hof p h) e1 h3
          have h6 := (N₂ _ (List.mem_cons_of_mem _ h4)).1
          have : p = (p.1, lo p.1) := by
            obtain ⟨p1, p2⟩ := p
            have e2 : some p2 = some (lo p1) := hg.symm.trans h6
            rw [Option.some.inj e2]
          exact this ▸ N' _ (hn _ h5)
      · exact N' p (hn p h)
    cases f with
    | ret v => exact .ret p
    | brk => exact .brk p
    | next => exact .next (fin p)
    | cont => exact .cont (fin p)
  · rintro h' tk m' news' F' N' hoff ⟨c, rfl, hp', hs', hi'⟩
    exact done c m' h' tk hi' (fun p hp e => hoff p hp (e ▸ List.mem_singleton.mpr rfl)) (kst_frOut hp' (fun z h1 _ h3 => hs' z h1 h3) F') N'

/-- a loop over a range by ones -/
theorem lp_rangeI {σ : Type} {r : Addr} {a₀ b₀ : Int} {t₀ u₀ v₀ : Tok} {m₀ : Str → Option Value} (n : Nat) (Led : σ → List (Addr × Obj)) (Ps : σ → List (Str × Value)) (Inv : Nat → σ → Prop) (stored : List Str) (c₀ : σ)
    (hh : A.handled = none) (hr : IsRange s.heap r a₀ b₀ 1 t₀ u₀ v₀) (hsmall : Builtin.Range.small a₀ b₀ 1 = true) (hn : Builtin.Range.rangeSize a₀ b₀ 1 = (n : Int))
    (F : Fr h₀ env.locals s.heap m₀) (N : News h₀ env.locals s.heap (Led c₀)) (hps : ∀ p ∈ Ps c₀, m₀ p.1 = some p.2) (h0 : Inv 0 c₀)
    (turn : ∀ I (i : Nat) t c (u : Str → Option Value) h tk it, i < n → it.cls = .type "range_iterator" → Inv i c → (∀ p ∈ Led c, p.1 ≠ I) →
      Fr h₀ env.locals h (fun y => if y = x then some (.int (a₀ + (i : Int)) t) else kstB (fun z => if stored.contains z then u z else m₀ z) (Ps c) y) → News h₀ env.locals h ((I, it) :: Led c) →
      wpAny (model prog w) A (execs body env) (LpPost Led Ps (Inv (i + 1)) stored x m₀ h₀ env.locals I it { s with heap := h, toks := tk } Q) E { s with heap := h, toks := tk })
    (done : ∀ c (u : Str → Option Value) h tk, Inv n c → Fr h₀ env.locals h (fun y => if y = x then u y else kstB (fun z => if stored.contains z then u z else m₀ z) (Ps c) y) → News h₀ env.locals h (Led c) → Q .next { s with heap := h, toks := tk }) :
    wpAny (model prog w) A (pyIter (.ref r)) (fun it s₂ => LoopAtV prog w A h₀ env x body Q E it s₂) E s := by
  refine wpAny_pyIter_range hr hsmall ?_
  have W : Walks prog w A s.heap.objs.size [s.heap.objs.size] [s.heap.objs.size] n (fun i v => ∃ t, v = .int (a₀ + i * 1) t)
      (fun i h => IsRangeIter h s.heap.objs.size (a₀ + (i : Nat) * 1) ((n : Int) - (i : Nat)) 1) := Walks.range hh _ a₀ 1 n
  refine lp_coreI Led Ps Inv stored c₀ (fun _ => { cls := .type "list", data := .seq #[] }) W (fun i h st => ⟨_, st⟩) ?_ ?_ ?_ ?_ ?_ (F.push _) (fun p hp => ⟨Heap.get?_push_of_some _ (N p hp).1, (N p hp).2⟩) hps h0 ?_ ?_
  · intro hm; exact absurd F.ns.lt ((List.mem_singleton.mp hm) ▸ Nat.lt_irrefl _)
  · exact next_is_new F
  · show IsRangeIter _ _ _ _ _; rw [hn]; simpa using Heap.get?_push_size _ rfl
  · intro p hp e; exact absurd (Heap.lt_size (N p hp).1) (e ▸ Nat.lt_irrefl _)
  · intro i c _ b hb hne; exact absurd (List.mem_singleton.mp hb) hne
  · rintro i v c u h tk it hi ⟨t, rfl⟩ hst hinv hne F₁ N₁
    have hit : it.cls = .type "range_iterator" := by
      have h2 := (N₁ _ (List.mem_cons_self ..)).1
      have h3 := Option.some.inj (hst.symm.trans h2)
      have h4 : it = _ := h3.symm
      rw [h4]
    have e1 : a₀ + (i : Int) * 1 = a₀ + (i : Int) := by omega
    rw [e1] at F₁
    exact turn _ i t c u h tk it hi hit hinv hne F₁ N₁
  · intro c u h tk hinv _ F₁ N₁
    exact done c u h tk hinv F₁ N₁

/-- a loop over a list: of the base (`hl0`) or of the ledger, where it stays as it is (`hlL`) -/
theorem lp_listI {σ : Type} {l : Addr} {lo : Obj} {m₀ : Str → Option Value} (vs : List Value) (Led : σ → List (Addr × Obj)) (Ps : σ → List (Str × Value)) (Inv : Nat → σ → Prop) (stored : List Str) (c₀ : σ)
    (hh : A.handled = none) (hl : s.heap.IsList l vs.toArray) (hlL : h₀.get? l = none → ∀ i c, Inv i c → (l, lo) ∈ Led c) (hl0 : l ≠ env.locals)
    (F : Fr h₀ env.locals s.heap m₀) (N : News h₀ env.locals s.heap (Led c₀)) (hps : ∀ p ∈ Ps c₀, m₀ p.1 = some p.2) (h0 : Inv 0 c₀)
    (turn : ∀ I (i : Nat) v c (u : Str → Option Value) h tk it, vs[i]? = some v → it.cls = .type "list_iterator" → Inv i c → (∀ p ∈ Led c, p.1 ≠ I) →
      Fr h₀ env.locals h (fun y => if y = x then some v else kstB (fun z => if stored.contains z then u z else m₀ z) (Ps c) y) → News h₀ env.locals h ((I, it) :: Led c) →
      wpAny (model prog w) A (execs body env) (LpPost Led Ps (Inv (i + 1)) stored x m₀ h₀ env.locals I it { s with heap := h, toks := tk } Q) E { s with heap := h, toks := tk })
    (done : ∀ c (u : Str → Option Value) h tk, Inv vs.length c → Fr h₀ env.locals h (fun y => if y = x then u y else kstB (fun z => if stored.contains z then u z else m₀ z) (Ps c) y) → News h₀ env.locals h (Led c) → Q .next { s with heap := h, toks := tk }) :
    wpAny (model prog w) A (pyIter (.ref l)) (fun it s₂ => LoopAtV prog w A h₀ env x body Q E it s₂) E s := by
  obtain ⟨ol, hol, hol'⟩ := id hl
  have hne : l ≠ s.heap.objs.size := Nat.ne_of_lt (Heap.lt_size hol)
  refine wpAny_pyIter_list hl ?_
  have W := Walks.list (prog := prog) (w := w) hh s.heap.objs.size l hne vs.toArray
  have hlen : vs.toArray.size = vs.length := by simp
  rw [hlen] at W
  refine lp_coreI Led Ps Inv stored c₀ (fun _ => lo) W (fun i h st => ?_) ?_ ?_ ?_ ?_ ?_ (F.push _) (fun p hp => ⟨Heap.get?_push_of_some _ (N p hp).1, (N p hp).2⟩) hps h0 ?_ ?_
  · obtain ⟨⟨o, ho, _⟩, _⟩ := st; exact ⟨o, ho⟩
  · intro hm
    rcases List.mem_cons.mp hm with e | hm
    · exact absurd F.ns.lt (e ▸ Nat.lt_irrefl _)
    · exact hl0 (List.mem_singleton.mp hm).symm
  · exact next_is_new F
  · exact ⟨⟨_, Heap.get?_push_size _ rfl, rfl, rfl⟩, hl.at fun o e => Heap.get?_push_of_some _ e⟩
  · intro p hp e; exact absurd (Heap.lt_size (N p hp).1) (e ▸ Nat.lt_irrefl _)
  · intro i c hc b hb hne h0
    rcases List.mem_cons.mp hb with e | hb
    · exact absurd e hne
    · rw [List.mem_singleton.mp hb] at h0 ⊢
      exact hlL h0 i c hc
  · rintro i v c u h tk it hi hP hst hinv hne F₁ N₁
    obtain ⟨⟨o, ho, hc, _⟩, _⟩ := hst
    have hit : it.cls = .type "list_iterator" := by
      have h2 := (N₁ _ (List.mem_cons_self ..)).1
      have h3 : o = it := Option.some.inj (ho.symm.trans h2)
      rw [← h3]; exact hc
    exact turn _ i v c u h tk it (by simpa using hP) hit hinv hne F₁ N₁
  · intro c u h tk hinv _ F₁ N₁
    exact done c u h tk hinv F₁ N₁

end
end
-- L05a
section
noncomputable abbrev PR := PySem.Challenge.rw_xq0002_05.row.prog
noncomputable abbrev LO := looseW hd.view_39 [Str.ofString "CurveEdTw", Str.ofString "AbstractPoint", Str.ofString "Point", Str.ofString "PointEdwards", Str.ofString "INFINITY"] ++ (recsOf hd.view_39).map (·.name) ++ (litsOf hd.view_39).map (·.1) ++ (clssOf hd.view_39 (looseW hd.view_39 [Str.ofString "CurveEdTw", Str.ofString "AbstractPoint", Str.ofString "Point", Str.ofString "PointEdwards", Str.ofString "INFINITY"])).map (·.name)
variable {w : World} {mean : ExcName → Option Value} {mg mb : Str → Option Value}

def RInv (q : Nat) (v : Int) (news : List (Addr × Obj)) (h₀ : Heap) (L : Addr) (m : Str → Option Value) (s : Shared) (Q : Value → Shared → Prop) : Prop :=
  ∀ i t h' tk', 0 ≤ i → i < (q : Int) → (v * i) % (q : Int) = 1 → Fr h₀ L h' m → News h₀ L h' news → Q (.int i t) { s with heap := h', toks := tk' }
theorem c_inv {news : List (Addr × Obj)} {q : Nat} (hq : q ∈ Ed.primes24) {v : Int} {t u : Tok} (hv : v % (q : Int) ≠ 0) (h1 : 0 ≤ v) (h2 : v ≤ 200) :
    Sp PR w (hd.heap_39 w.params) topProg LO mean mg mb 1 12 (call (.ref 21) [.int v t, .int (q : Int) u]) news (fun _ => True) (RInv q v news) := by
  (try unfold PR LO); k_fill; w_top off
  unfold Sp
  intro dp un gd cn cs a ccd cl outer A₀ base h₀ L M s Q E B F X N T hk hd hu hpre hret
  try dsimp only at hpre
  refine wpAny_call ?_
  k_dflt cell_enter
  obtain ⟨hb1, hb2⟩ := Ed.primes_int hq
  unfold RInv at hret
  have heu := Ed.eu_start hq hv
  (repeat' (first | (k_unfold; (try dsimp only)) | ((with_reducible show wpAny _ _ (execs (List.cons _ _) _) _ _ (Shared.mk _ _ _ (HAdd.hAdd _ _) _)); (rename Fr _ _ _ _ => Fq); (rename News _ _ _ _ => Nq); refine stm9 Fq Nq ?_; clear Fq Nq; intro tkq mq nq Fq Nq; (try k_fold)) | with_reducible (k_here; (with_reducible show wpAny _ _ (exec (Stmt.While (Expr.Compare _ _ _ _) _ _ _) _) _ _ _); refine Stop.of ?_) | with_reducible (k_here; (with_reducible show wpAny _ _ (call (Value.builtin "len") [Value.ref _]) _ _ _); k_dflt (refine' kst_len ?q1 ?q2 ?q3 ?q4 ?_; (case q1 => k_asm); (case q2 => k_mem); (case q3 => assumption); (case q4 => omega))) | with_reducible (k_here; (with_reducible show wpAny _ _ (exec (Stmt.For _ _ _ _ _) _) _ _ _); (rename Fr _ _ _ _ => lF'); (with_unfolding_all refine' For_invVF lF' ?k1 ?k2 ?_; (case k1 => exact rfl); (case k2 => exact rfl); k_whole)) | with_reducible (k_here; (with_reducible show wpAny _ _ (subscriptTail _ _ (Value.ref _) (Value.int _ _)) _ _ _); k_dflt (refine' item_tupleT ?t ?a ?b ?c ?d ?_; (case t => exact News.isTup (by k_asm) (by k_mem)); (case a => decide); (case b => decide); (case c => rfl); (case d => rfl); k_whole)) | with_reducible (k_here; (with_reducible show wpAny _ _ (PySem.pyIter (Value.ref _)) _ _ _); refine Stop.of ?_) | walk1 | (dsimp only; walk1) | fail "no step"))
  · exfalso; omega
  · refine Stop.to ?_
    with_unfolding_all refine' ksw_while (σ := (Int × Tok) × (Int × Tok) × (Int × Tok) × (Int × Tok)) (fun _ => news) (fun c => [(Str.ofString "found", Value.int c.1.1 c.1.2), (Str.ofString "before", Value.int c.2.1.1 c.2.1.2), (Str.ofString "rest", Value.int c.2.2.1.1 c.2.2.1.2), (Str.ofString "divisor", Value.int c.2.2.2.1 c.2.2.2.2)]) (fun _ => True) [Str.ofString "share"] (fun c => Ed.Eu q v c.1.1 c.2.1.1 c.2.2.1.1 c.2.2.2.1) (fun c => c.2.2.2.1.toNat) ((0, _), (1, _), ((q : Int), _), (v.fmod q, _)) (hE := ?hE) (by k_asm) (by (exact cb_drop (by assumption) fun q hq => by repeat (first | exact hq | apply List.mem_cons_of_mem))) trivial (by walk_at "ps") heu ?wt
    (case hE => first | passes_own | with_unfolding_all passes_own)
    rintro ⟨⟨f, tf⟩, ⟨b, tb⟩, ⟨r, tr⟩, ⟨e, te⟩⟩ u' h tk - hE F1 N1
    dsimp only at hE F1 N1
    have hbd := hE.bd
    have hr0 := hE.r0
    have he0 := hE.e0
    have hrm := hE.rm
    have hem := hE.em
    (repeat' (first | (k_unfold; (try dsimp only)) | ((with_reducible show wpAny _ _ (execs (List.cons _ _) _) _ _ (Shared.mk _ _ _ (HAdd.hAdd _ _) _)); (rename Fr _ _ _ _ => Fq); (rename News _ _ _ _ => Nq); refine stm9 Fq Nq ?_; clear Fq Nq; intro tkq mq nq Fq Nq; (try k_fold)) | with_reducible (k_here; (with_reducible show wpAny _ _ (exec (Stmt.While (Expr.Compare _ _ _ _) _ _ _) _) _ _ _); refine Stop.of ?_) | with_reducible (k_here; (with_reducible show wpAny _ _ (call (Value.builtin "len") [Value.ref _]) _ _ _); k_dflt (refine' kst_len ?q1 ?q2 ?q3 ?q4 ?_; (case q1 => k_asm); (case q2 => k_mem); (case q3 => assumption); (case q4 => omega))) | with_reducible (k_here; (with_reducible show wpAny _ _ (exec (Stmt.For _ _ _ _ _) _) _ _ _); (rename Fr _ _ _ _ => lF'); (with_unfolding_all refine' For_invVF lF' ?k1 ?k2 ?_; (case k1 => exact rfl); (case k2 => exact rfl); k_whole)) | with_reducible (k_here; (with_reducible show wpAny _ _ (subscriptTail _ _ (Value.ref _) (Value.int _ _)) _ _ _); k_dflt (refine' item_tupleT ?t ?a ?b ?c ?d ?_; (case t => exact News.isTup (by k_asm) (by k_mem)); (case a => decide); (case b => decide); (case c => rfl); (case d => rfl); k_whole)) | with_reducible (k_here; (with_reducible show wpAny _ _ (PySem.pyIter (Value.ref _)) _ _ _); refine Stop.of ?_) | walk1 | (dsimp only; walk1) | fail "no step"))
    · have hst := Ed.eu_step hE (by assumption)
      have hsh := Ed.eu_share hE (by assumption)
      refine ksw_end ((b, _), (f - r.fdiv e * b, _), (e, _), (r - r.fdiv e * e, _)) (by k_asm) (by (exact cb_drop (by assumption) fun q hq => by repeat (first | exact hq | apply List.mem_cons_of_mem))) (fun _ h => h) trivial (by walk_at "ps") (by (intro z h1 h3; (try simp only [List.contains_cons, List.contains_nil, Bool.or_false, Bool.or_eq_false_iff, beq_eq_false_iff_ne, ne_eq] at h3); (simp at h1); (simp +zetaDelta [h1, h3, kstB]; done))) hst (by dsimp only; omega)
    · exfalso
      have e0 : e = 0 := by omega
      subst e0
      have := (Ed.eu_end hq hE).1
      omega
    · have e0 : e = 0 := by omega
      subst e0
      have hfb := Ed.fm_bd (show (0 : Int) < q by omega) f
      exact hret _ _ _ _ hfb.1 hfb.2 (Ed.eu_end hq hE).2 (by k_asm) (by (exact cb_drop (by assumption) fun q hq => by repeat (first | exact hq | apply List.mem_cons_of_mem)))
end
-- L05b
section
variable {w : World} {mean : ExcName → Option Value} {mg mb : Str → Option Value}
def RV (v : Value) (news : List (Addr × Obj)) (h₀ : Heap) (L : Addr) (m : Str → Option Value) (s : Shared) (Q : Value → Shared → Prop) : Prop :=
  ∀ h' tk', Fr h₀ L h' m → News h₀ L h' news → Q v { s with heap := h', toks := tk' }
abbrev edE (w : World) (t1 t2 t3 t4 t5 : Tok) (p a d h f : Value) : List DictEntry := [⟨PyData.keyHash w.params (Str.ofString "_CurveEdTw__p"), .str (Str.ofString "_CurveEdTw__p") t1, p⟩, ⟨PyData.keyHash w.params (Str.ofString "_CurveEdTw__a"), .str (Str.ofString "_CurveEdTw__a") t2, a⟩,
  ⟨PyData.keyHash w.params (Str.ofString "_CurveEdTw__d"), .str (Str.ofString "_CurveEdTw__d") t3, d⟩, ⟨PyData.keyHash w.params (Str.ofString "_CurveEdTw__h"), .str (Str.ofString "_CurveEdTw__h") t4, h⟩, ⟨PyData.keyHash w.params (Str.ofString "_CurveEdTw__hash_func"), .str (Str.ofString "_CurveEdTw__hash_func") t5, f⟩]
def REd (p a d : Value) (news : List (Addr × Obj)) (w : World) (h₀ : Heap) (L : Addr) (m : Str → Option Value) (s : Shared) (Q : Value → Shared → Prop) : Prop :=
  ∀ x k t1 t2 t3 t4 t5 h' tk', Fr h₀ L h' m → News h₀ L h' ((x, instObj 88 k) :: (k, dictOf (edE w t1 t2 t3 t4 t5 p a d .none .none) 5) :: news) → (∀ p ∈ news, p.1 < k) → k < x → Q (.ref x) { s with heap := h', toks := tk' }
theorem c_mkEd {news : List (Addr × Obj)} {p a d : Value} :
    Sp PR w (hd.heap_39 w.params) topProg LO mean mg mb 3 24 (call (.ref 88) [p, a, d]) news (fun _ => True) (REd p a d news w) := by
  (try unfold PR LO); k_fill; w_top off
  unfold Sp
  intro dp un gd cn cs a ccd cl outer A₀ base h₀ L M s Q E B F X N T hk hd hu hpre hret
  try dsimp only at hpre
  unfold REd at hret
  (repeat' (first | (k_unfold; (try dsimp only)) | ((with_reducible show wpAny _ _ (execs (List.cons _ _) _) _ _ (Shared.mk _ _ _ (HAdd.hAdd _ _) _)); (rename Fr _ _ _ _ => Fq); refine stm8 Fq ?_; clear Fq; intro tkq mq Fq; (try k_fold)) | with_reducible (k_here; (with_reducible show wpAny _ _ (call (Value.builtin "len") [Value.ref _]) _ _ _); k_dflt (refine' kst_len ?q1 ?q2 ?q3 ?q4 ?_; (case q1 => k_asm); (case q2 => k_mem); (case q3 => assumption); (case q4 => omega))) | with_reducible (k_here; (with_reducible show wpAny _ _ (exec (Stmt.For _ _ _ _ _) _) _ _ _); (rename Fr _ _ _ _ => lF'); (with_unfolding_all refine' For_invVF lF' ?k1 ?k2 ?_; (case k1 => exact rfl); (case k2 => exact rfl); k_whole)) | with_reducible (k_here; (with_reducible show wpAny _ _ (subscriptTail _ _ (Value.ref _) (Value.int _ _)) _ _ _); k_dflt (refine' item_tupleT ?t ?a ?b ?c ?d ?_; (case t => exact News.isTup (by k_asm) (by k_mem)); (case a => decide); (case b => decide); (case c => rfl); (case d => rfl); k_whole)) | with_reducible (k_here; (with_reducible show wpAny _ _ (PySem.pyIter (Value.ref _)) _ _ _); refine Stop.of ?_) | walk1 | (dsimp only; walk1) | fail "no step"))
  exact hret _ _ _ _ _ _ _ _ _ (by assumption) (by assumption) (by assumption) (by assumption)
theorem c_ed_p {news : List (Addr × Obj)} {x k : Addr} {t1 t2 t3 t4 t5 : Tok} {p a d : Value} (hh : handedIn p = true ∧ handedIn a = true ∧ handedIn d = true) (m1 : (x, instObj 88 k) ∈ news) (m2 : (k, dictOf (edE w t1 t2 t3 t4 t5 p a d .none .none) 5) ∈ news) :
    Sp PR w (hd.heap_39 w.params) topProg LO mean mg mb 1 8 (call (.ref 64) [.ref x]) news (fun _ => True) (RV p news) := by
  (try unfold PR LO); k_fill
  unfold Sp
  intro dp un gd cn cs a ccd cl outer A₀ base h₀ L M s Q E B F X N T hk hd hu hpre hret
  try dsimp only at hpre
  refine wpAny_call ?_
  k_dflt cell_enter
  unfold RV at hret
  obtain ⟨hh1, hh2, hh3⟩ := hh
  (repeat' (first | (k_unfold; (try dsimp only)) | ((with_reducible show wpAny _ _ (execs (List.cons _ _) _) _ _ (Shared.mk _ _ _ (HAdd.hAdd _ _) _)); (rename Fr _ _ _ _ => Fq); refine stm8 Fq ?_; clear Fq; intro tkq mq Fq; (try k_fold)) | with_reducible (k_here; (with_reducible show wpAny _ _ (call (Value.builtin "len") [Value.ref _]) _ _ _); k_dflt (refine' kst_len ?q1 ?q2 ?q3 ?q4 ?_; (case q1 => k_asm); (case q2 => k_mem); (case q3 => assumption); (case q4 => omega))) | with_reducible (k_here; (with_reducible show wpAny _ _ (exec (Stmt.For _ _ _ _ _) _) _ _ _); (rename Fr _ _ _ _ => lF'); (with_unfolding_all refine' For_invVF lF' ?k1 ?k2 ?_; (case k1 => exact rfl); (case k2 => exact rfl); k_whole)) | with_reducible (k_here; (with_reducible show wpAny _ _ (subscriptTail _ _ (Value.ref _) (Value.int _ _)) _ _ _); k_dflt (refine' item_tupleT ?t ?a ?b ?c ?d ?_; (case t => exact News.isTup (by k_asm) (by k_mem)); (case a => decide); (case b => decide); (case c => rfl); (case d => rfl); k_whole)) | with_reducible (k_here; (with_reducible show wpAny _ _ (PySem.pyIter (Value.ref _)) _ _ _); refine Stop.of ?_) | walk1 | (dsimp only; walk1) | fail "no step"))
  refine hret _ _ ?_ ?_ <;> assumption
theorem c_ed_a {news : List (Addr × Obj)} {x k : Addr} {t1 t2 t3 t4 t5 : Tok} {p a d : Value} (hh : handedIn p = true ∧ handedIn a = true ∧ handedIn d = true) (m1 : (x, instObj 88 k) ∈ news) (m2 : (k, dictOf (edE w t1 t2 t3 t4 t5 p a d .none .none) 5) ∈ news) :
    Sp PR w (hd.heap_39 w.params) topProg LO mean mg mb 1 8 (call (.ref 71) [.ref x]) news (fun _ => True) (RV a news) := by
  (try unfold PR LO); k_fill
  unfold Sp
  intro dp un gd cn cs a ccd cl outer A₀ base h₀ L M s Q E B F X N T hk hd hu hpre hret
  try dsimp only at hpre
  refine wpAny_call ?_
  k_dflt cell_enter
  unfold RV at hret
  obtain ⟨hh1, hh2, hh3⟩ := hh
  (repeat' (first | (k_unfold; (try dsimp only)) | ((with_reducible show wpAny _ _ (execs (List.cons _ _) _) _ _ (Shared.mk _ _ _ (HAdd.hAdd _ _) _)); (rename Fr _ _ _ _ => Fq); refine stm8 Fq ?_; clear Fq; intro tkq mq Fq; (try k_fold)) | with_reducible (k_here; (with_reducible show wpAny _ _ (call (Value.builtin "len") [Value.ref _]) _ _ _); k_dflt (refine' kst_len ?q1 ?q2 ?q3 ?q4 ?_; (case q1 => k_asm); (case q2 => k_mem); (case q3 => assumption); (case q4 => omega))) | with_reducible (k_here; (with_reducible show wpAny _ _ (exec (Stmt.For _ _ _ _ _) _) _ _ _); (rename Fr _ _ _ _ => lF'); (with_unfolding_all refine' For_invVF lF' ?k1 ?k2 ?_; (case k1 => exact rfl); (case k2 => exact rfl); k_whole)) | with_reducible (k_here; (with_reducible show wpAny _ _ (subscriptTail _ _ (Value.ref _) (Value.int _ _)) _ _ _); k_dflt (refine' item_tupleT ?t ?a ?b ?c ?d ?_; (case t => exact News.isTup (by k_asm) (by k_mem)); (case a => decide); (case b => decide); (case c => rfl); (case d => rfl); k_whole)) | with_reducible (k_here; (with_reducible show wpAny _ _ (PySem.pyIter (Value.ref _)) _ _ _); refine Stop.of ?_) | walk1 | (dsimp only; walk1) | fail "no step"))
  refine hret _ _ ?_ ?_ <;> assumption
abbrev peE (w : World) (t1 t2 t3 t4 t5 : Tok) (c k o g l : Value) : List DictEntry := [⟨PyData.keyHash w.params (Str.ofString "_PointEdwards__curve"), .str (Str.ofString "_PointEdwards__curve") t1, c⟩, ⟨PyData.keyHash w.params (Str.ofString "_PointEdwards__coords"), .str (Str.ofString "_PointEdwards__coords") t2, k⟩,
  ⟨PyData.keyHash w.params (Str.ofString "_PointEdwards__order"), .str (Str.ofString "_PointEdwards__order") t3, o⟩, ⟨PyData.keyHash w.params (Str.ofString "_PointEdwards__generator"), .str (Str.ofString "_PointEdwards__generator") t4, g⟩, ⟨PyData.keyHash w.params (Str.ofString "_PointEdwards__precompute"), .str (Str.ofString "_PointEdwards__precompute") t5, l⟩]
abbrev tup4 (x : Int) (t : Tok) (y : Int) (u : Tok) (z : Int) (v : Tok) (a : Int) (b : Tok) : Obj := { cls := .type "tuple", data := .seq #[.int x t, .int y u, .int z v, .int a b] 0 }
def RPe (c : Value) (V : Int × Int × Int × Int) (o g : Value) (news : List (Addr × Obj)) (w : World) (h₀ : Heap) (L : Addr) (m : Str → Option Value) (s : Shared) (Q : Value → Shared → Prop) : Prop :=
  ∀ z d l k t1 t2 t3 t4 t5 u1 u2 u3 u4 h' tk', Fr h₀ L h' m → News h₀ L h' ((l, W.listOf #[] 0) :: (k, tup4 V.1 u1 V.2.1 u2 V.2.2.1 u3 V.2.2.2 u4) :: (z, instObj 343 d) :: (d, dictOf (peE w t1 t2 t3 t4 t5 c (.ref k) o g (.ref l)) 5) :: news) → (∀ p ∈ news, p.1 < d) → d < z → z < k → k < l → Q (.ref z) { s with heap := h', toks := tk' }
theorem c_mkPE6 {news : List (Addr × Obj)} {c o : Value} {t1 t2 t3 t4 : Tok} {X Y Z T : Int} :
    Sp PR w (hd.heap_39 w.params) topProg LO mean mg mb 3 24 (call (.ref 343) [c, .int X t1, .int Y t2, .int Z t3, .int T t4, o]) news (fun _ => True) (RPe c (X, Y, Z, T) o (.bool false) news w) := by
  (try unfold PR LO); k_fill
  unfold Sp
  intro dp un gd cn cs a ccd cl outer A₀ base h₀ L M s Q E B F X N T hk hd hu hpre hret
  try dsimp only at hpre
  unfold RPe at hret
  (repeat' (first | (k_unfold; (try dsimp only)) | ((with_reducible show wpAny _ _ (execs (List.cons _ _) _) _ _ (Shared.mk _ _ _ (HAdd.hAdd _ _) _)); (rename Fr _ _ _ _ => Fq); refine stm8 Fq ?_; clear Fq; intro tkq mq Fq; (try k_fold)) | with_reducible (k_here; (with_reducible show wpAny _ _ (call (Value.builtin "len") [Value.ref _]) _ _ _); k_dflt (refine' kst_len ?q1 ?q2 ?q3 ?q4 ?_; (case q1 => k_asm); (case q2 => k_mem); (case q3 => assumption); (case q4 => omega))) | with_reducible (k_here; (with_reducible show wpAny _ _ (exec (Stmt.For _ _ _ _ _) _) _ _ _); (rename Fr _ _ _ _ => lF'); (with_unfolding_all refine' For_invVF lF' ?k1 ?k2 ?_; (case k1 => exact rfl); (case k2 => exact rfl); k_whole)) | with_reducible (k_here; (with_reducible show wpAny _ _ (subscriptTail _ _ (Value.ref _) (Value.int _ _)) _ _ _); k_dflt (refine' item_tupleT ?t ?a ?b ?c ?d ?_; (case t => exact News.isTup (by k_asm) (by k_mem)); (case a => decide); (case b => decide); (case c => rfl); (case d => rfl); k_whole)) | with_reducible (k_here; (with_reducible show wpAny _ _ (PySem.pyIter (Value.ref _)) _ _ _); refine Stop.of ?_) | walk1 | (dsimp only; walk1) | fail "no step"))
  rename (_ < _ ∧ _ < _ ∧ AllLt _ _) => l1
  rename (_ < _ ∧ _ < _ ∧ _ < _ ∧ AllLt _ _) => l2
  exact hret _ _ _ _ _ _ _ _ _ _ _ _ _ _ _ (by assumption) (by assumption) (by assumption) (by assumption) l1.1 l2.1
theorem c_mkPE7 {news : List (Addr × Obj)} {c o : Value} {g : Bool} {t1 t2 t3 t4 : Tok} {X Y Z T : Int} :
    Sp PR w (hd.heap_39 w.params) topProg LO mean mg mb 3 24 (call (.ref 343) [c, .int X t1, .int Y t2, .int Z t3, .int T t4, o, .bool g]) news (fun _ => True) (RPe c (X, Y, Z, T) o (.bool g) news w) := by
  (try unfold PR LO); k_fill
  unfold Sp
  intro dp un gd cn cs a ccd cl outer A₀ base h₀ L M s Q E B F X N T hk hd hu hpre hret
  try dsimp only at hpre
  unfold RPe at hret
  (repeat' (first | (k_unfold; (try dsimp only)) | ((with_reducible show wpAny _ _ (execs (List.cons _ _) _) _ _ (Shared.mk _ _ _ (HAdd.hAdd _ _) _)); (rename Fr _ _ _ _ => Fq); refine stm8 Fq ?_; clear Fq; intro tkq mq Fq; (try k_fold)) | with_reducible (k_here; (with_reducible show wpAny _ _ (call (Value.builtin "len") [Value.ref _]) _ _ _); k_dflt (refine' kst_len ?q1 ?q2 ?q3 ?q4 ?_; (case q1 => k_asm); (case q2 => k_mem); (case q3 => assumption); (case q4 => omega))) | with_reducible (k_here; (with_reducible show wpAny _ _ (exec (Stmt.For _ _ _ _ _) _) _ _ _); (rename Fr _ _ _ _ => lF'); (with_unfolding_all refine' For_invVF lF' ?k1 ?k2 ?_; (case k1 => exact rfl); (case k2 => exact rfl); k_whole)) | with_reducible (k_here; (with_reducible show wpAny _ _ (subscriptTail _ _ (Value.ref _) (Value.int _ _)) _ _ _); k_dflt (refine' item_tupleT ?t ?a ?b ?c ?d ?_; (case t => exact News.isTup (by k_asm) (by k_mem)); (case a => decide); (case b => decide); (case c => rfl); (case d => rfl); k_whole)) | with_reducible (k_here; (with_reducible show wpAny _ _ (PySem.pyIter (Value.ref _)) _ _ _); refine Stop.of ?_) | walk1 | (dsimp only; walk1) | fail "no step"))
  rename (_ < _ ∧ _ < _ ∧ AllLt _ _) => l1
  rename (_ < _ ∧ _ < _ ∧ _ < _ ∧ AllLt _ _) => l2
  exact hret _ _ _ _ _ _ _ _ _ _ _ _ _ _ _ (by assumption) (by assumption) (by assumption) (by assumption) l1.1 l2.1
theorem c_pe_order {news : List (Addr × Obj)} {x d : Addr} {t1 t2 t3 t4 t5 : Tok} {c k o g l : Value} (hh : handedIn c = true ∧ handedIn k = true ∧ handedIn o = true ∧ handedIn g = true ∧ handedIn l = true) (m1 : (x, instObj 343 d) ∈ news) (m2 : (d, dictOf (peE w t1 t2 t3 t4 t5 c k o g l) 5) ∈ news) :
    Sp PR w (hd.heap_39 w.params) topProg LO mean mg mb 1 8 (call (.ref 263) [.ref x]) news (fun _ => True) (RV o news) := by
  (try unfold PR LO); k_fill
  unfold Sp
  intro dp un gd cn cs a ccd cl outer A₀ base h₀ L M s Q E B F X N T hk hd hu hpre hret
  try dsimp only at hpre
  refine wpAny_call ?_
  k_dflt cell_enter
  unfold RV at hret
  obtain ⟨hh1, hh2, hh3, hh4, hh5⟩ := hh
  (repeat' (first | (k_unfold; (try dsimp only)) | ((with_reducible show wpAny _ _ (execs (List.cons _ _) _) _ _ (Shared.mk _ _ _ (HAdd.hAdd _ _) _)); (rename Fr _ _ _ _ => Fq); refine stm8 Fq ?_; clear Fq; intro tkq mq Fq; (try k_fold)) | with_reducible (k_here; (with_reducible show wpAny _ _ (call (Value.builtin "len") [Value.ref _]) _ _ _); k_dflt (refine' kst_len ?q1 ?q2 ?q3 ?q4 ?_; (case q1 => k_asm); (case q2 => k_mem); (case q3 => assumption); (case q4 => omega))) | with_reducible (k_here; (with_reducible show wpAny _ _ (exec (Stmt.For _ _ _ _ _) _) _ _ _); (rename Fr _ _ _ _ => lF'); (with_unfolding_all refine' For_invVF lF' ?k1 ?k2 ?_; (case k1 => exact rfl); (case k2 => exact rfl); k_whole)) | with_reducible (k_here; (with_reducible show wpAny _ _ (subscriptTail _ _ (Value.ref _) (Value.int _ _)) _ _ _); k_dflt (refine' item_tupleT ?t ?a ?b ?c ?d ?_; (case t => exact News.isTup (by k_asm) (by k_mem)); (case a => decide); (case b => decide); (case c => rfl); (case d => rfl); k_whole)) | with_reducible (k_here; (with_reducible show wpAny _ _ (PySem.pyIter (Value.ref _)) _ _ _); refine Stop.of ?_) | walk1 | (dsimp only; walk1) | fail "no step"))
  refine hret _ _ ?_ ?_ <;> assumption
def RT4 (V : Int × Int × Int × Int) (news : List (Addr × Obj)) (h₀ : Heap) (L : Addr) (m : Str → Option Value) (s : Shared) (Q : Value → Shared → Prop) : Prop :=
  ∀ D t1 t2 t3 t4 h' tk', Fr h₀ L h' m → News h₀ L h' ((D, tup4 V.1 t1 V.2.1 t2 V.2.2.1 t3 V.2.2.2 t4) :: news) → (∀ p ∈ news, p.1 < D) → Q (.ref D) { s with heap := h', toks := tk' }
theorem c_dblC {news : List (Addr × Obj)} {sv : Value} {X Y Z T p a : Int} {t1 t2 t3 t4 t5 t6 : Tok} (h0 : 0 < p) (h1 : p ≤ 101) (ha : 0 ≤ a ∧ a ≤ 101) (hX : -101 ≤ X ∧ X ≤ 101) (hY : -101 ≤ Y ∧ Y ≤ 101) (hZ : -101 ≤ Z ∧ Z ≤ 101) :
    SpC PR w (hd.heap_39 w.params) topProg LO mean mg mb 1 8 (.ref 312) [sv, .int X t1, .int Y t2, .int Z t3, .int T t4, .int p t5, .int a t6] news (fun _ => True) (RT4 (Ed.zdbl p a X Y Z) news) := by
  (try unfold PR LO); k_fill
  unfold SpC
  intro dp un gd cn cs a ccd cl outer A₀ base h₀ L M s Q E B F X N T hk hd hu hpre hret
  try dsimp only at hpre
  k_dflt cell_enter
  unfold RT4 at hret
  unfold Ed.zdbl at hret
  dsimp only at hret
  (repeat' (first | (k_unfold; (try dsimp only)) | ((with_reducible show wpAny _ _ (execs (List.cons _ _) _) _ _ (Shared.mk _ _ _ (HAdd.hAdd _ _) _)); (rename Fr _ _ _ _ => Fq); refine stm8 Fq ?_; clear Fq; intro tkq mq Fq; (try k_fold)) | with_reducible (k_here; (with_reducible show wpAny _ _ (call (Value.builtin "len") [Value.ref _]) _ _ _); k_dflt (refine' kst_len ?q1 ?q2 ?q3 ?q4 ?_; (case q1 => k_asm); (case q2 => k_mem); (case q3 => assumption); (case q4 => omega))) | with_reducible (k_here; (with_reducible show wpAny _ _ (exec (Stmt.For _ _ _ _ _) _) _ _ _); (rename Fr _ _ _ _ => lF'); (with_unfolding_all refine' For_invVF lF' ?k1 ?k2 ?_; (case k1 => exact rfl); (case k2 => exact rfl); k_whole)) | with_reducible (k_here; (with_reducible show wpAny _ _ (subscriptTail _ _ (Value.ref _) (Value.int _ _)) _ _ _); k_dflt (refine' item_tupleT ?t ?a ?b ?c ?d ?_; (case t => exact News.isTup (by k_asm) (by k_mem)); (case a => decide); (case b => decide); (case c => rfl); (case d => rfl); k_whole)) | with_reducible (k_here; (with_reducible show wpAny _ _ (PySem.pyIter (Value.ref _)) _ _ _); refine Stop.of ?_) | walk1 | (dsimp only; walk1) | fail "no step"))
  exact hret _ _ _ _ _ _ _ (by assumption) (by assumption) (by assumption)
theorem c_dbl {news : List (Addr × Obj)} {sv : Value} {X Y Z T p a : Int} {t1 t2 t3 t4 t5 t6 : Tok} (h0 : 0 < p) (h1 : p ≤ 101) (ha : 0 ≤ a ∧ a ≤ 101) (hX : -101 ≤ X ∧ X ≤ 101) (hY : -101 ≤ Y ∧ Y ≤ 101) (hZ : -101 ≤ Z ∧ Z ≤ 101) :
    Sp PR w (hd.heap_39 w.params) topProg LO mean mg mb 1 8 (call (.ref 312) [sv, .int X t1, .int Y t2, .int Z t3, .int T t4, .int p t5, .int a t6]) news (fun _ => True) (RT4 (Ed.zdbl p a X Y Z) news) := (c_dblC h0 h1 ha hX hY hZ).sp
theorem c_addC {news : List (Addr × Obj)} {x d : Addr} {s1 s2 s3 s4 s5 : Tok} {cv kv ov gv lv : Value} {X1 Y1 Z1 T1 X2 Y2 Z2 T2 p a : Int} {t1 t2 t3 t4 t5 t6 t7 t8 t9 ta : Tok} (m0 : (x, instObj 343 d) ∈ news) (m1 : (d, dictOf (peE w s1 s2 s3 s4 s5 cv kv ov gv lv) 5) ∈ news) (h0 : 0 < p) (h1 : p ≤ 101) (ha : 0 ≤ a ∧ a ≤ 101) (hX1 : -101 ≤ X1 ∧ X1 ≤ 101) (hY1 : -101 ≤ Y1 ∧ Y1 ≤ 101) (hZ1 : -101 ≤ Z1 ∧ Z1 ≤ 101) (hT1 : -101 ≤ T1 ∧ T1 ≤ 101) (hX2 : -101 ≤ X2 ∧ X2 ≤ 101) (hY2 : -101 ≤ Y2 ∧ Y2 ≤ 101) (hZ2 : -101 ≤ Z2 ∧ Z2 ≤ 101) (hT2 : -101 ≤ T2 ∧ T2 ≤ 101) :
    SpC PR w (hd.heap_39 w.params) topProg LO mean mg mb 3 24 (.ref 291) [.ref x, .int X1 t1, .int Y1 t2, .int Z1 t3, .int T1 t4, .int X2 t5, .int Y2 t6, .int Z2 t7, .int T2 t8, .int p t9, .int a ta] news (fun _ => True) (RT4 (Ed.zadd p a X1 Y1 Z1 T1 X2 Y2 Z2 T2) news) := by
  (try unfold PR LO); k_fill
  unfold SpC
  intro dp un gd cn cs a ccd cl outer A₀ base h₀ L M s Q E B F X N T hk hd hu hpre hret
  try dsimp only at hpre
  k_dflt cell_enter
  unfold RT4 at hret
  unfold Ed.zadd at hret
  dsimp only at hret
  (repeat' (first | (k_unfold; (try dsimp only)) | ((with_reducible show wpAny _ _ (execs (List.cons _ _) _) _ _ (Shared.mk _ _ _ (HAdd.hAdd _ _) _)); (rename Fr _ _ _ _ => Fq); refine stm8 Fq ?_; clear Fq; intro tkq mq Fq; (try k_fold)) | with_reducible (k_here; (with_reducible show wpAny _ _ (PySem.call (Value.ref 312) _) _ _ _); k_dflt (refine' Sp.use (c_dbl ?q1 ?q2 ?q3 ?q4 ?q5 ?q6) ?k1 ?k2 ?k3 ?k4 ?k5 ?k6 ?k7 ?k8 ?k9 ?_; walk_at "use"; (case q1 => omega); (case q2 => omega); (case q3 => omega); (case q4 => omega); (case q5 => omega); (case q6 => omega)); unfold RT4; intro D9ᵣ t1ᵣ t2ᵣ t3ᵣ t4ᵣ h9ᵣ tk9ᵣ F9ᵣ N9ᵣ l1ᵣ; (try dsimp only); (try k_lt l1ᵣ); (try k_sweep); (try k_fold)) | with_reducible (k_here; (with_reducible show wpAny _ _ (call (Value.builtin "len") [Value.ref _]) _ _ _); k_dflt (refine' kst_len ?q1 ?q2 ?q3 ?q4 ?_; (case q1 => k_asm); (case q2 => k_mem); (case q3 => assumption); (case q4 => omega))) | with_reducible (k_here; (with_reducible show wpAny _ _ (exec (Stmt.For _ _ _ _ _) _) _ _ _); (rename Fr _ _ _ _ => lF'); (with_unfolding_all refine' For_invVF lF' ?k1 ?k2 ?_; (case k1 => exact rfl); (case k2 => exact rfl); k_whole)) | with_reducible (k_here; (with_reducible show wpAny _ _ (subscriptTail _ _ (Value.ref _) (Value.int _ _)) _ _ _); k_dflt (refine' item_tupleT ?t ?a ?b ?c ?d ?_; (case t => exact News.isTup (by k_asm) (by k_mem)); (case a => decide); (case b => decide); (case c => rfl); (case d => rfl); k_whole)) | with_reducible (k_here; (with_reducible show wpAny _ _ (PySem.pyIter (Value.ref _)) _ _ _); refine Stop.of ?_) | walk1 | (dsimp only; walk1) | fail "no step"))
  · rw [if_neg (by assumption)] at hret
    exact hret _ _ _ _ _ _ _ (by assumption) (by assumption) (by assumption)
  · rw [if_pos (by assumption)] at hret
    exact hret _ _ _ _ _ _ _ (by assumption) (by assumption) (by assumption)
theorem c_add {news : List (Addr × Obj)} {x d : Addr} {s1 s2 s3 s4 s5 : Tok} {cv kv ov gv lv : Value} {X1 Y1 Z1 T1 X2 Y2 Z2 T2 p a : Int} {t1 t2 t3 t4 t5 t6 t7 t8 t9 ta : Tok} (m0 : (x, instObj 343 d) ∈ news) (m1 : (d, dictOf (peE w s1 s2 s3 s4 s5 cv kv ov gv lv) 5) ∈ news) (h0 : 0 < p) (h1 : p ≤ 101) (ha : 0 ≤ a ∧ a ≤ 101) (hX1 : -101 ≤ X1 ∧ X1 ≤ 101) (hY1 : -101 ≤ Y1 ∧ Y1 ≤ 101) (hZ1 : -101 ≤ Z1 ∧ Z1 ≤ 101) (hT1 : -101 ≤ T1 ∧ T1 ≤ 101) (hX2 : -101 ≤ X2 ∧ X2 ≤ 101) (hY2 : -101 ≤ Y2 ∧ Y2 ≤ 101) (hZ2 : -101 ≤ Z2 ∧ Z2 ≤ 101) (hT2 : -101 ≤ T2 ∧ T2 ≤ 101) :
    Sp PR w (hd.heap_39 w.params) topProg LO mean mg mb 3 24 (call (.ref 291) [.ref x, .int X1 t1, .int Y1 t2, .int Z1 t3, .int T1 t4, .int X2 t5, .int Y2 t6, .int Z2 t7, .int T2 t8, .int p t9, .int a ta]) news (fun _ => True) (RT4 (Ed.zadd p a X1 Y1 Z1 T1 X2 Y2 Z2 T2) news) := (c_addC m0 m1 h0 h1 ha hX1 hY1 hZ1 hT1 hX2 hY2 hZ2 hT2).sp
end

-- L05c
section
local macro_rules | `(tactic| k_all) => `(tactic| with_reducible assumption)
variable {w : World} {mean : ExcName → Option Value} {mg mb : Str → Option Value}
theorem c_pe_x {news : List (Addr × Obj)} {x d cx cd k : Addr} {s1 s2 s3 s4 s5 c1 c2 c3 c4 c5 u1 u2 u3 u4 tp ta td : Tok} {o g l : Value} {q n : Nat} {a dd i X Y Z T : Int} {P : Int × Int} (hc : Ed.Cx q a dd P n) (hr : Ed.Rp q a dd P n i X Y Z T) (hX : 0 ≤ X ∧ X < q) (hY : 0 ≤ Y ∧ Y < q) (hZ : 0 ≤ Z ∧ Z < q) (hT : 0 ≤ T ∧ T < q)
    (m0 : (x, instObj 343 d) ∈ news) (m1 : (d, dictOf (peE w s1 s2 s3 s4 s5 (.ref cx) (.ref k) o g l) 5) ∈ news) (m2 : (k, tup4 X u1 Y u2 Z u3 T u4) ∈ news) (m3 : (cx, instObj 88 cd) ∈ news) (m4 : (cd, dictOf (edE w c1 c2 c3 c4 c5 (.int q tp) (.int a ta) (.int dd td) .none .none) 5) ∈ news) (hh : handedIn o = true ∧ handedIn g = true ∧ handedIn l = true) :
    Sp PR w (hd.heap_39 w.params) topProg LO mean mg mb 3 30 (call (.ref 242) [.ref x]) news (fun _ => True) (RInt (Ed.zM q a dd P n i).1 news) := by
  (try unfold PR LO); k_fill; w_top off
  unfold Sp
  intro dp un gd cn cs a ccd cl outer A₀ base h₀ L M s Q E B F X N T hk hd hu hpre hret
  try dsimp only at hpre
  refine wpAny_call ?_
  k_dflt cell_enter
  have hq := hc.cv.pr
  obtain ⟨hb1, hb2⟩ := Ed.primes_int hq
  have hz := hr.1
  obtain ⟨hh1, hh2, hh3⟩ := hh
  unfold RInt at hret
  (repeat' (first | (k_unfold; (try dsimp only)) | ((with_reducible show wpAny _ _ (execs (List.cons _ _) _) _ _ (Shared.mk _ _ _ (HAdd.hAdd _ _) _)); (rename Fr _ _ _ _ => Fq); refine stm8 Fq ?_; clear Fq; intro tkq mq Fq; (try k_fold)) | with_reducible (k_here; (with_reducible show wpAny _ _ (PySem.call (Value.ref 21) _) _ _ _); k_dflt (refine' Sp.use (c_inv ?q1 ?q2 ?q3 ?q4) ?k1 ?k2 ?k3 ?k4 ?k5 ?k6 ?k7 ?k8 ?k9 ?_; walk_at "use"; (case q1 => assumption); (case q2 => assumption); (case q3 => omega); (case q4 => omega)); unfold RInv; intro i9ᵣ t9ᵣ h9ᵣ tk9ᵣ hi1ᵣ hi2ᵣ hi3ᵣ F9ᵣ N9ᵣ; (try dsimp only); (try k_sweep); (try k_fold)) | with_reducible (k_here; (with_reducible show wpAny _ _ (PySem.call (Value.ref 71) _) _ _ _); k_dflt (refine' Sp.use (c_ed_a ?q1 ?q2 ?q3) ?k1 ?k2 ?k3 ?k4 ?k5 ?k6 ?k7 ?k8 ?k9 ?_; walk_at "use"; (case q2 => k_dflt k_mem); (case q3 => k_dflt k_mem); (case q1 => k_dflt (exact ⟨rfl, rfl, rfl⟩))); unfold RV; intro h9ᵣ tk9ᵣ F9ᵣ N9ᵣ; (try dsimp only); (try k_sweep); (try k_fold)) | with_reducible (k_here; (with_reducible show wpAny _ _ (PySem.call (Value.ref 64) _) _ _ _); k_dflt (refine' Sp.use (c_ed_p ?q1 ?q2 ?q3) ?k1 ?k2 ?k3 ?k4 ?k5 ?k6 ?k7 ?k8 ?k9 ?_; walk_at "use"; (case q2 => k_dflt k_mem); (case q3 => k_dflt k_mem); (case q1 => k_dflt (exact ⟨rfl, rfl, rfl⟩))); unfold RV; intro h9ᵣ tk9ᵣ F9ᵣ N9ᵣ; (try dsimp only); (try k_sweep); (try k_fold)) | with_reducible (k_here; (with_reducible show wpAny _ _ (call (Value.builtin "len") [Value.ref _]) _ _ _); k_dflt (refine' kst_len ?q1 ?q2 ?q3 ?q4 ?_; (case q1 => k_asm); (case q2 => k_mem); (case q3 => assumption); (case q4 => omega))) | with_reducible (k_here; (with_reducible show wpAny _ _ (exec (Stmt.For _ _ _ _ _) _) _ _ _); (rename Fr _ _ _ _ => lF'); (with_unfolding_all refine' For_invVF lF' ?k1 ?k2 ?_; (case k1 => exact rfl); (case k2 => exact rfl); k_whole)) | with_reducible (k_here; (with_reducible show wpAny _ _ (subscriptTail _ _ (Value.ref _) (Value.int _ _)) _ _ _); k_dflt (refine' item_tupleT ?t ?a ?b ?c ?d ?_; (case t => exact News.isTup (by k_asm) (by k_mem)); (case a => decide); (case b => decide); (case c => rfl); (case d => rfl); k_whole)) | with_reducible (k_here; (with_reducible show wpAny _ _ (PySem.pyIter (Value.ref _)) _ _ _); refine Stop.of ?_) | walk1 | (dsimp only; walk1) | fail "no step"))
  · have hZ1 : Z = 1 := by assumption
    subst hZ1
    have := Ed.rp_fix hc hr hX hY hT
    rw [← this.1] at hret
    exact hret _ _ _ (by k_asm) (by (exact cb_drop (by assumption) fun q hq => by repeat (first | exact hq | apply List.mem_cons_of_mem)))
  · rw [← Ed.rp_x hc hr (by assumption)] at hret
    exact hret _ _ _ (by k_asm) (by (exact cb_drop (by assumption) fun q hq => by repeat (first | exact hq | apply List.mem_cons_of_mem)))
theorem c_pe_y {news : List (Addr × Obj)} {x d cx cd k : Addr} {s1 s2 s3 s4 s5 c1 c2 c3 c4 c5 u1 u2 u3 u4 tp ta td : Tok} {o g l : Value} {q n : Nat} {a dd i X Y Z T : Int} {P : Int × Int} (hc : Ed.Cx q a dd P n) (hr : Ed.Rp q a dd P n i X Y Z T) (hX : 0 ≤ X ∧ X < q) (hY : 0 ≤ Y ∧ Y < q) (hZ : 0 ≤ Z ∧ Z < q) (hT : 0 ≤ T ∧ T < q)
    (m0 : (x, instObj 343 d) ∈ news) (m1 : (d, dictOf (peE w s1 s2 s3 s4 s5 (.ref cx) (.ref k) o g l) 5) ∈ news) (m2 : (k, tup4 X u1 Y u2 Z u3 T u4) ∈ news) (m3 : (cx, instObj 88 cd) ∈ news) (m4 : (cd, dictOf (edE w c1 c2 c3 c4 c5 (.int q tp) (.int a ta) (.int dd td) .none .none) 5) ∈ news) (hh : handedIn o = true ∧ handedIn g = true ∧ handedIn l = true) :
    Sp PR w (hd.heap_39 w.params) topProg LO mean mg mb 3 30 (call (.ref 249) [.ref x]) news (fun _ => True) (RInt (Ed.zM q a dd P n i).2 news) := by
  (try unfold PR LO); k_fill
  unfold Sp
  intro dp un gd cn cs a ccd cl outer A₀ base h₀ L M s Q E B F X N T hk hd hu hpre hret
  try dsimp only at hpre
  refine wpAny_call ?_
  k_dflt cell_enter
  have hq := hc.cv.pr
  obtain ⟨hb1, hb2⟩ := Ed.primes_int hq
  have hz := hr.1
  obtain ⟨hh1, hh2, hh3⟩ := hh
  unfold RInt at hret
  (repeat' (first | (k_unfold; (try dsimp only)) | ((with_reducible show wpAny _ _ (execs (List.cons _ _) _) _ _ (Shared.mk _ _ _ (HAdd.hAdd _ _) _)); (rename Fr _ _ _ _ => Fq); refine stm8 Fq ?_; clear Fq; intro tkq mq Fq; (try k_fold)) | with_reducible (k_here; (with_reducible show wpAny _ _ (PySem.call (Value.ref 21) _) _ _ _); k_dflt (refine' Sp.use (c_inv ?q1 ?q2 ?q3 ?q4) ?k1 ?k2 ?k3 ?k4 ?k5 ?k6 ?k7 ?k8 ?k9 ?_; walk_at "use"; (case q1 => assumption); (case q2 => assumption); (case q3 => omega); (case q4 => omega)); unfold RInv; intro i9ᵣ t9ᵣ h9ᵣ tk9ᵣ hi1ᵣ hi2ᵣ hi3ᵣ F9ᵣ N9ᵣ; (try dsimp only); (try k_sweep); (try k_fold)) | with_reducible (k_here; (with_reducible show wpAny _ _ (PySem.call (Value.ref 71) _) _ _ _); k_dflt (refine' Sp.use (c_ed_a ?q1 ?q2 ?q3) ?k1 ?k2 ?k3 ?k4 ?k5 ?k6 ?k7 ?k8 ?k9 ?_; walk_at "use"; (case q2 => k_dflt k_mem); (case q3 => k_dflt k_mem); (case q1 => k_dflt (exact ⟨rfl, rfl, rfl⟩))); unfold RV; intro h9ᵣ tk9ᵣ F9ᵣ N9ᵣ; (try dsimp only); (try k_sweep); (try k_fold)) | with_reducible (k_here; (with_reducible show wpAny _ _ (PySem.call (Value.ref 64) _) _ _ _); k_dflt (refine' Sp.use (c_ed_p ?q1 ?q2 ?q3) ?k1 ?k2 ?k3 ?k4 ?k5 ?k6 ?k7 ?k8 ?k9 ?_; walk_at "use"; (case q2 => k_dflt k_mem); (case q3 => k_dflt k_mem); (case q1 => k_dflt (exact ⟨rfl, rfl, rfl⟩))); unfold RV; intro h9ᵣ tk9ᵣ F9ᵣ N9ᵣ; (try dsimp only); (try k_sweep); (try k_fold)) | with_reducible (k_here; (with_reducible show wpAny _ _ (call (Value.builtin "len") [Value.ref _]) _ _ _); k_dflt (refine' kst_len ?q1 ?q2 ?q3 ?q4 ?_; (case q1 => k_asm); (case q2 => k_mem); (case q3 => assumption); (case q4 => omega))) | with_reducible (k_here; (with_reducible show wpAny _ _ (exec (Stmt.For _ _ _ _ _) _) _ _ _); (rename Fr _ _ _ _ => lF'); (with_unfolding_all refine' For_invVF lF' ?k1 ?k2 ?_; (case k1 => exact rfl); (case k2 => exact rfl); k_whole)) | with_reducible (k_here; (with_reducible show wpAny _ _ (subscriptTail _ _ (Value.ref _) (Value.int _ _)) _ _ _); k_dflt (refine' item_tupleT ?t ?a ?b ?c ?d ?_; (case t => exact News.isTup (by k_asm) (by k_mem)); (case a => decide); (case b => decide); (case c => rfl); (case d => rfl); k_whole)) | with_reducible (k_here; (with_reducible show wpAny _ _ (PySem.pyIter (Value.ref _)) _ _ _); refine Stop.of ?_) | walk1 | (dsimp only; walk1) | fail "no step"))
  · have hZ1 : Z = 1 := by assumption
    subst hZ1
    have := Ed.rp_fix hc hr hX hY hT
    rw [← this.2.1] at hret
    exact hret _ _ _ (by k_asm) (by (exact cb_drop (by assumption) fun q hq => by repeat (first | exact hq | apply List.mem_cons_of_mem)))
  · rw [← Ed.rp_y hc hr (by assumption)] at hret
    exact hret _ _ _ (by k_asm) (by (exact cb_drop (by assumption) fun q hq => by repeat (first | exact hq | apply List.mem_cons_of_mem)))
def RScale (q : Nat) (a dd : Int) (P : Int × Int) (n : Nat) (i : Int) (x d cx : Addr) (s1 s3 s4 s5 : Tok) (o g l : Value) (news : List (Addr × Obj)) (w : World) (h₀ : Heap) (L : Addr) (m : Str → Option Value) (s : Shared) (Q : Value → Shared → Prop) : Prop :=
  ∀ k s2 u1 u2 u3 u4 led h' tk', Fr h₀ L h' m → News h₀ L h' ((d, dictOf (peE w s1 s2 s3 s4 s5 (.ref cx) (.ref k) o g l) 5) :: led) → (k, tup4 (Ed.zM q a dd P n i).1 u1 (Ed.zM q a dd P n i).2 u2 1 u3 (((Ed.zM q a dd P n i).1 * (Ed.zM q a dd P n i).2).fmod q) u4) ∈ led → (∀ p ∈ news, p ∈ led) → (∀ p ∈ led, p.1 ≠ d) → Q (.ref x) { s with heap := h', toks := tk' }
theorem c_scale {news : List (Addr × Obj)} {x d cx cd k : Addr} {s1 s2 s3 s4 s5 c1 c2 c3 c4 c5 u1 u2 u3 u4 tp ta td : Tok} {o g l : Value} {q n : Nat} {a dd i X Y Z T : Int} {P : Int × Int} (hc : Ed.Cx q a dd P n) (hr : Ed.Rp q a dd P n i X Y Z T) (hX : 0 ≤ X ∧ X < q) (hY : 0 ≤ Y ∧ Y < q) (hZ : 0 ≤ Z ∧ Z < q) (hT : 0 ≤ T ∧ T < q)
    (l0 : ∀ p ∈ news, p.1 ≠ d) (m0 : (x, instObj 343 d) ∈ news) (m2 : (k, tup4 X u1 Y u2 Z u3 T u4) ∈ news) (m3 : (cx, instObj 88 cd) ∈ news) (m4 : (cd, dictOf (edE w c1 c2 c3 c4 c5 (.int q tp) (.int a ta) (.int dd td) .none .none) 5) ∈ news) (hh : handedIn o = true ∧ handedIn g = true ∧ handedIn l = true) :
    Sp PR w (hd.heap_39 w.params) topProg LO mean mg mb 3 30 (call (.ref 270) [.ref x]) ((d, dictOf (peE w s1 s2 s3 s4 s5 (.ref cx) (.ref k) o g l) 5) :: news) (fun _ => True) (RScale q a dd P n i x d cx s1 s3 s4 s5 o g l news w) := by
  (try unfold PR LO); k_fill
  unfold Sp
  intro dp un gd cn cs a ccd cl outer A₀ base h₀ L M s Q E B F X N T hk hd hu hpre hret
  try dsimp only at hpre
  refine wpAny_call ?_
  k_dflt cell_enter
  have hq := hc.cv.pr
  obtain ⟨hb1, hb2⟩ := Ed.primes_int hq
  have hz := hr.1
  obtain ⟨hh1, hh2, hh3⟩ := hh
  unfold RScale at hret
  (repeat' (first | (k_unfold; (try dsimp only)) | ((with_reducible show wpAny _ _ (execs (List.cons _ _) _) _ _ (Shared.mk _ _ _ (HAdd.hAdd _ _) _)); (rename Fr _ _ _ _ => Fq); refine stm8 Fq ?_; clear Fq; intro tkq mq Fq; (try k_fold)) | with_reducible (k_here; (with_reducible show wpAny _ _ (PySem.call (Value.ref 21) _) _ _ _); k_dflt (refine' Sp.use (c_inv ?q1 ?q2 ?q3 ?q4) ?k1 ?k2 ?k3 ?k4 ?k5 ?k6 ?k7 ?k8 ?k9 ?_; walk_at "use"; (case q1 => assumption); (case q2 => assumption); (case q3 => omega); (case q4 => omega)); unfold RInv; intro i9ᵣ t9ᵣ h9ᵣ tk9ᵣ hi1ᵣ hi2ᵣ hi3ᵣ F9ᵣ N9ᵣ; (try dsimp only); (try k_sweep); (try k_fold)) | with_reducible (k_here; (with_reducible show wpAny _ _ (PySem.call (Value.ref 71) _) _ _ _); k_dflt (refine' Sp.use (c_ed_a ?q1 ?q2 ?q3) ?k1 ?k2 ?k3 ?k4 ?k5 ?k6 ?k7 ?k8 ?k9 ?_; walk_at "use"; (case q2 => k_dflt k_mem); (case q3 => k_dflt k_mem); (case q1 => k_dflt (exact ⟨rfl, rfl, rfl⟩))); unfold RV; intro h9ᵣ tk9ᵣ F9ᵣ N9ᵣ; (try dsimp only); (try k_sweep); (try k_fold)) | with_reducible (k_here; (with_reducible show wpAny _ _ (PySem.call (Value.ref 64) _) _ _ _); k_dflt (refine' Sp.use (c_ed_p ?q1 ?q2 ?q3) ?k1 ?k2 ?k3 ?k4 ?k5 ?k6 ?k7 ?k8 ?k9 ?_; walk_at "use"; (case q2 => k_dflt k_mem); (case q3 => k_dflt k_mem); (case q1 => k_dflt (exact ⟨rfl, rfl, rfl⟩))); unfold RV; intro h9ᵣ tk9ᵣ F9ᵣ N9ᵣ; (try dsimp only); (try k_sweep); (try k_fold)) | with_reducible (k_here; (with_reducible show wpAny _ _ (call (Value.builtin "len") [Value.ref _]) _ _ _); k_dflt (refine' kst_len ?q1 ?q2 ?q3 ?q4 ?_; (case q1 => k_asm); (case q2 => k_mem); (case q3 => assumption); (case q4 => omega))) | with_reducible (k_here; (with_reducible show wpAny _ _ (exec (Stmt.For _ _ _ _ _) _) _ _ _); (rename Fr _ _ _ _ => lF'); (with_unfolding_all refine' For_invVF lF' ?k1 ?k2 ?_; (case k1 => exact rfl); (case k2 => exact rfl); k_whole)) | with_reducible (k_here; (with_reducible show wpAny _ _ (subscriptTail _ _ (Value.ref _) (Value.int _ _)) _ _ _); k_dflt (refine' item_tupleT ?t ?a ?b ?c ?d ?_; (case t => exact News.isTup (by k_asm) (by k_mem)); (case a => decide); (case b => decide); (case c => rfl); (case d => rfl); k_whole)) | with_reducible (k_here; (with_reducible show wpAny _ _ (PySem.pyIter (Value.ref _)) _ _ _); refine Stop.of ?_) | walk1 | (dsimp only; walk1) | fail "no step"))
  · have hZ1 : Z = 1 := by assumption
    subst hZ1
    obtain ⟨rfl, rfl, rfl⟩ := Ed.rp_fix hc hr hX hY hT
    exact hret _ _ _ _ _ _ news _ _ (by k_asm) (by (exact cb_drop (by assumption) fun q hq => by repeat (first | exact hq | apply List.mem_cons_of_mem))) m2 (fun _ h => h) l0
  · (rename Fr _ _ _ _ => F9)
    (rename News _ _ _ _ => N9)
    (rename (_ < _ ∧ AllLt _ _) => l9)
    rw [Ed.rp_x hc hr (by assumption), Ed.rp_y hc hr (by assumption)] at N9
    exact hret _ _ _ _ _ _ (_ :: news) _ _ F9 (cb_drop N9 (List.forall_mem_cons.mpr ⟨.tail _ (.head _), List.forall_mem_cons.mpr ⟨.head _, fun q hq => .tail _ (.tail _ hq)⟩⟩)) (.head _) (fun _ h => .tail _ h) (List.forall_mem_cons.mpr ⟨Nat.ne_of_gt l9.1, l0⟩)
def RDbl (q : Nat) (a dd : Int) (P : Int × Int) (n : Nat) (i : Int) (c o : Value) (news : List (Addr × Obj)) (w : World) (h₀ : Heap) (L : Addr) (m : Str → Option Value) (s : Shared) (Q : Value → Shared → Prop) : Prop :=
  ∀ X Y Z T, Ed.Rp q a dd P n i X Y Z T → (0 ≤ X ∧ X < q) → (0 ≤ Y ∧ Y < q) → (0 ≤ Z ∧ Z < q) → (0 ≤ T ∧ T < q) → RPe c (X, Y, Z, T) o (.bool false) news w h₀ L m s Q
theorem c_double {news : List (Addr × Obj)} {x d cx cd k : Addr} {s1 s2 s3 s4 s5 c1 c2 c3 c4 c5 u1 u2 u3 u4 tp ta td : Tok} {o g l : Value} {q n : Nat} {a dd i X Y Z T : Int} {P : Int × Int} (hc : Ed.Cx q a dd P n) (hr : Ed.Rp q a dd P n i X Y Z T) (hX : 0 ≤ X ∧ X < q) (hY : 0 ≤ Y ∧ Y < q) (hZ : 0 ≤ Z ∧ Z < q) (hT : 0 ≤ T ∧ T < q) (hi : i % (n : Int) ≠ 0)
    (m0 : (x, instObj 343 d) ∈ news) (m1 : (d, dictOf (peE w s1 s2 s3 s4 s5 (.ref cx) (.ref k) o g l) 5) ∈ news) (m2 : (k, tup4 X u1 Y u2 Z u3 T u4) ∈ news) (m3 : (cx, instObj 88 cd) ∈ news) (m4 : (cd, dictOf (edE w c1 c2 c3 c4 c5 (.int q tp) (.int a ta) (.int dd td) .none .none) 5) ∈ news) (hh : handedIn o = true ∧ handedIn g = true ∧ handedIn l = true) :
    Sp PR w (hd.heap_39 w.params) topProg LO mean mg mb 5 60 (call (.ref 319) [.ref x]) news (fun _ => True) (RDbl q a dd P n (2 * i) (.ref cx) o news w) := by
  have hq := hc.cv.pr
  obtain ⟨hb1, hb2⟩ := Ed.primes_int hq
  have hn := Ed.rp_ne hc hr hi
  have hn1 := hn.1
  have hn2 := hn.2
  have hr2 := Ed.rp_dbl hc hr rfl
  have hn3 := Ed.rp_ne hc hr2 (Ed.dbl_mod hc hi)
  have hn31 := hn3.1
  have hn32 := hn3.2
  have hin : Ed.In4 q (Ed.zdbl q a X Y Z) := Ed.zdbl_in (by omega)
  have hab := hc.a_bd
  (try unfold PR LO); k_fill
  unfold Sp
  intro dp un gd cn cs a ccd cl outer A₀ base h₀ L M s Q E B F X N T hk hd hu hpre hret
  try dsimp only at hpre
  refine wpAny_call ?_
  k_dflt cell_enter
  obtain ⟨hh1, hh2, hh3⟩ := hh
  unfold RDbl RPe at hret
  have hret := hret _ _ _ _ hr2 hin.1 hin.2.1 hin.2.2.1 hin.2.2.2
  clear hr2 hr hn hn3
  (repeat' (first | (k_unfold; (try dsimp only)) | ((with_reducible show wpAny _ _ (execs (List.cons _ _) _) _ _ (Shared.mk _ _ _ (HAdd.hAdd _ _) _)); (rename Fr _ _ _ _ => Fq); refine stm8 Fq ?_; clear Fq; intro tkq mq Fq; (try k_fold)) | with_reducible (k_here; (with_reducible show wpAny _ _ (PySem.call (Value.ref 343) _) _ _ _); k_dflt (refine' Sp.use c_mkPE6 ?k1 ?k2 ?k3 ?k4 ?k5 ?k6 ?k7 ?k8 ?k9 ?_; walk_at "use"); unfold RPe; intro z9ᵣ d9ᵣ l9ᵣ k9ᵣ t1ᵣ t2ᵣ t3ᵣ t4ᵣ t5ᵣ u1ᵣ u2ᵣ u3ᵣ u4ᵣ h9ᵣ tk9ᵣ F9ᵣ N9ᵣ l1ᵣ l2ᵣ l3ᵣ l4ᵣ; (try dsimp only); (try k_sweep); (try k_fold)) | with_reducible (k_here; (with_reducible show wpAny _ _ (PySem.call (Value.ref 312) _) _ _ _); k_dflt (refine' Sp.use (c_dbl ?q1 ?q2 ?q3 ?q4 ?q5 ?q6) ?k1 ?k2 ?k3 ?k4 ?k5 ?k6 ?k7 ?k8 ?k9 ?_; walk_at "use"; (case q1 => omega); (case q2 => omega); (case q3 => omega); (case q4 => omega); (case q5 => omega); (case q6 => omega)); unfold RT4; intro D9ᵣ t1ᵣ t2ᵣ t3ᵣ t4ᵣ h9ᵣ tk9ᵣ F9ᵣ N9ᵣ l1ᵣ; (try dsimp only); (try k_lt l1ᵣ); (try k_sweep); (try k_fold)) | with_reducible (k_here; (with_reducible show wpAny _ _ (PySem.call (Value.ref 21) _) _ _ _); k_dflt (refine' Sp.use (c_inv ?q1 ?q2 ?q3 ?q4) ?k1 ?k2 ?k3 ?k4 ?k5 ?k6 ?k7 ?k8 ?k9 ?_; walk_at "use"; (case q1 => assumption); (case q2 => assumption); (case q3 => omega); (case q4 => omega)); unfold RInv; intro i9ᵣ t9ᵣ h9ᵣ tk9ᵣ hi1ᵣ hi2ᵣ hi3ᵣ F9ᵣ N9ᵣ; (try dsimp only); (try k_sweep); (try k_fold)) | with_reducible (k_here; (with_reducible show wpAny _ _ (PySem.call (Value.ref 71) _) _ _ _); k_dflt (refine' Sp.use (c_ed_a ?q1 ?q2 ?q3) ?k1 ?k2 ?k3 ?k4 ?k5 ?k6 ?k7 ?k8 ?k9 ?_; walk_at "use"; (case q2 => k_dflt k_mem); (case q3 => k_dflt k_mem); (case q1 => k_dflt (exact ⟨rfl, rfl, rfl⟩))); unfold RV; intro h9ᵣ tk9ᵣ F9ᵣ N9ᵣ; (try dsimp only); (try k_sweep); (try k_fold)) | with_reducible (k_here; (with_reducible show wpAny _ _ (PySem.call (Value.ref 64) _) _ _ _); k_dflt (refine' Sp.use (c_ed_p ?q1 ?q2 ?q3) ?k1 ?k2 ?k3 ?k4 ?k5 ?k6 ?k7 ?k8 ?k9 ?_; walk_at "use"; (case q2 => k_dflt k_mem); (case q3 => k_dflt k_mem); (case q1 => k_dflt (exact ⟨rfl, rfl, rfl⟩))); unfold RV; intro h9ᵣ tk9ᵣ F9ᵣ N9ᵣ; (try dsimp only); (try k_sweep); (try k_fold)) | with_reducible (k_here; (with_reducible show wpAny _ _ (call (Value.builtin "len") [Value.ref _]) _ _ _); k_dflt (refine' kst_len ?q1 ?q2 ?q3 ?q4 ?_; (case q1 => k_asm); (case q2 => k_mem); (case q3 => assumption); (case q4 => omega))) | with_reducible (k_here; (with_reducible show wpAny _ _ (exec (Stmt.For _ _ _ _ _) _) _ _ _); (rename Fr _ _ _ _ => lF'); (with_unfolding_all refine' For_invVF lF' ?k1 ?k2 ?_; (case k1 => exact rfl); (case k2 => exact rfl); k_whole)) | with_reducible (k_here; (with_reducible show wpAny _ _ (subscriptTail _ _ (Value.ref _) (Value.int _ _)) _ _ _); k_dflt (refine' item_tupleT ?t ?a ?b ?c ?d ?_; (case t => exact News.isTup (by k_asm) (by k_mem)); (case a => decide); (case b => decide); (case c => rfl); (case d => rfl); k_whole)) | with_reducible (k_here; (with_reducible show wpAny _ _ (PySem.pyIter (Value.ref _)) _ _ _); refine Stop.of ?_) | walk1 | (dsimp only; walk1) | fail "no step"))
  all_goals (try (exfalso; omega))
  (rename (∀ (q : Addr × Obj), q ∈ _ → q.1 < _) => l9)
  exact hret _ _ _ _ _ _ _ _ _ _ _ _ _ _ _ (by k_asm) (by (exact cb_drop (by assumption) (List.forall_mem_cons.mpr ⟨.head _, List.forall_mem_cons.mpr ⟨.tail _ (.head _), List.forall_mem_cons.mpr ⟨.tail _ (.tail _ (.head _)), List.forall_mem_cons.mpr ⟨.tail _ (.tail _ (.tail _ (.head _))), fun q hq => by repeat (first | exact hq | apply List.mem_cons_of_mem)⟩⟩⟩⟩))) (fun q hq => l9 q (.tail _ (.tail _ hq))) (by assumption) (by assumption) (by assumption)
end
-- L05d
section
variable {w : World} {mean : ExcName → Option Value} {mg mb : Str → Option Value}
/-- a number's digits, the lowest first -/
def nval : List Int → Int
  | [] => 0
  | x :: r => x + 2 * nval r
theorem nval_snoc (x : Int) : ∀ l : List Int, nval (l ++ [x]) = nval l + 2 ^ l.length * x
  | [] => by simp [nval]
  | y :: l => by
    show y + 2 * nval (l ++ [x]) = _
    rw [nval_snoc x l]
    simp only [nval, List.length_cons, Int.pow_succ]
    grind
set_option genInjectivity false in
set_option genSizeOf false in
structure NafC where
  m : Int
  t : Tok
  vs : List Value
  ds : List Int
  z : Nat
structure NafI (k : Int) (c : NafC) : Prop where
  is : IntsAre c.vs c.ds
  val : nval c.ds + 2 ^ c.ds.length * c.m = k
  dig : ∀ x ∈ c.ds, x = -1 ∨ x = 0 ∨ x = 1
  bd : -2000000000000000000 ≤ c.m ∧ c.m ≤ 2000000000000000000
  len : (c.m = 0 ∧ c.ds.length ≤ 63) ∨ ∃ j : Nat, -2 ^ j ≤ c.m ∧ c.m ≤ 2 ^ j ∧ c.ds.length + j ≤ 62
theorem NafI.vl {k : Int} {c : NafC} (h : NafI k c) : c.vs.length ≤ 63 := by
  rw [h.is.length]
  rcases h.len with ⟨_, h⟩ | ⟨j, _, _, h⟩ <;> omega
theorem naf_start {k : Int} {t : Tok} (h : -2000000000000000000 ≤ k ∧ k ≤ 2000000000000000000) : NafI k ⟨k, t, [], [], 0⟩ :=
  ⟨IntsAre.nil, by simp [nval], List.forall_mem_nil _, h, .inr ⟨61, by dsimp only; omega, by dsimp only; omega, by simp⟩⟩
/-- one digit more -/
theorem naf_step {k m x m' : Int} {t t' tx : Tok} {vs : List Value} {ds : List Int} {z z' : Nat} (h : NafI k ⟨m, t, vs, ds, z⟩) (h0 : m ≠ 0) (hx : x = -1 ∨ x = 0 ∨ x = 1) (e : m = 2 * m' + x) (he : x = 0 ∨ m' % 2 = 0) : NafI k ⟨m', t', vs ++ [.int x tx], ds ++ [x], z'⟩ ∧ m'.natAbs < m.natAbs := by
  obtain ⟨h1, h2, h3, h4, h5⟩ := h
  dsimp only at h1 h2 h3 h4 h5
  have hx1 : -1 ≤ x ∧ x ≤ 1 := by clear h5 h4 he e h0; omega
  refine ⟨⟨h1.append (IntsAre.cons _ _ IntsAre.nil), ?_, ?_, ?_, ?_⟩, by clear h5 h4 hx; omega⟩
  · dsimp only
    rw [nval_snoc, ← h2, e, List.length_append]
    simp only [List.length_cons, List.length_nil, Int.pow_succ]
    grind
  · exact List.forall_mem_append.mpr ⟨h3, List.forall_mem_cons.mpr ⟨hx, List.forall_mem_nil _⟩⟩
  · dsimp only; clear h5 hx he h0; omega
  · dsimp only
    rw [List.length_append]
    simp only [List.length_cons, List.length_nil]
    rcases h5 with ⟨h5, _⟩ | ⟨j, h5, h6, h7⟩
    · exact absurd h5 h0
    · rcases j with _ | j
      · left
        simp only [Int.pow_zero] at h5 h6
        clear h4 hx1
        omega
      · right
        clear hx he h0 h4
        rw [Int.pow_succ] at h5 h6
        exact ⟨j, by omega, by omega, by omega⟩
def RNaf (k : Int) (news : List (Addr × Obj)) (h₀ : Heap) (L : Addr) (m : Str → Option Value) (s : Shared) (Q : Value → Shared → Prop) : Prop :=
  ∀ l vs ds z h' tk', IntsAre vs ds → nval ds = k → (∀ x ∈ ds, x = -1 ∨ x = 0 ∨ x = 1) → ds.length ≤ 80 → Fr h₀ L h' m → News h₀ L h' ((l, W.listOf vs.toArray z) :: news) → (∀ p ∈ news, p.1 < l) → Q (.ref l) { s with heap := h', toks := tk' }
theorem c_naf {news : List (Addr × Obj)} {k : Int} {t : Tok} (h1 : -2000000000000000000 ≤ k ∧ k ≤ 2000000000000000000) :
    Sp PR w (hd.heap_39 w.params) topProg LO mean mg mb 1 12 (call (.ref 106) [.int k t]) news (fun _ => True) (RNaf k news) := by
  (try unfold PR LO); k_fill; w_top off
  unfold Sp
  intro dp un gd cn cs a ccd cl outer A₀ base h₀ L M s Q E B F X N T hk hd hu hpre hret
  try dsimp only at hpre
  refine wpAny_call ?_
  k_dflt cell_enter
  unfold RNaf at hret
  (repeat' (first | (k_unfold; (try dsimp only)) | ((with_reducible show wpAny _ _ (execs (List.cons _ _) _) _ _ (Shared.mk _ _ _ (HAdd.hAdd _ _) _)); (rename Fr _ _ _ _ => Fq); refine stm8 Fq ?_; clear Fq; intro tkq mq Fq; (try k_fold)) | with_reducible (k_here; (with_reducible show wpAny _ _ (exec (Stmt.While (Expr.Name _ _) _ _ _) _) _ _ _); refine Stop.of ?_) | with_reducible (k_here; (with_reducible show wpAny _ _ (PySem.call (Value.ref 21) _) _ _ _); k_dflt (refine' Sp.use (c_inv ?q1 ?q2 ?q3 ?q4) ?k1 ?k2 ?k3 ?k4 ?k5 ?k6 ?k7 ?k8 ?k9 ?_; walk_at "use"; (case q1 => assumption); (case q2 => assumption); (case q3 => omega); (case q4 => omega)); unfold RInv; intro i9ᵣ t9ᵣ h9ᵣ tk9ᵣ hi1ᵣ hi2ᵣ hi3ᵣ F9ᵣ N9ᵣ; (try dsimp only); (try k_sweep); (try k_fold)) | with_reducible (k_here; (with_reducible show wpAny _ _ (PySem.call (Value.ref 71) _) _ _ _); k_dflt (refine' Sp.use (c_ed_a ?q1 ?q2 ?q3) ?k1 ?k2 ?k3 ?k4 ?k5 ?k6 ?k7 ?k8 ?k9 ?_; walk_at "use"; (case q2 => k_dflt k_mem); (case q3 => k_dflt k_mem); (case q1 => k_dflt (exact ⟨rfl, rfl, rfl⟩))); unfold RV; intro h9ᵣ tk9ᵣ F9ᵣ N9ᵣ; (try dsimp only); (try k_sweep); (try k_fold)) | with_reducible (k_here; (with_reducible show wpAny _ _ (PySem.call (Value.ref 64) _) _ _ _); k_dflt (refine' Sp.use (c_ed_p ?q1 ?q2 ?q3) ?k1 ?k2 ?k3 ?k4 ?k5 ?k6 ?k7 ?k8 ?k9 ?_; walk_at "use"; (case q2 => k_dflt k_mem); (case q3 => k_dflt k_mem); (case q1 => k_dflt (exact ⟨rfl, rfl, rfl⟩))); unfold RV; intro h9ᵣ tk9ᵣ F9ᵣ N9ᵣ; (try dsimp only); (try k_sweep); (try k_fold)) | with_reducible (k_here; (with_reducible show wpAny _ _ (call (Value.builtin "len") [Value.ref _]) _ _ _); k_dflt (refine' kst_len ?q1 ?q2 ?q3 ?q4 ?_; (case q1 => k_asm); (case q2 => k_mem); (case q3 => assumption); (case q4 => omega))) | with_reducible (k_here; (with_reducible show wpAny _ _ (exec (Stmt.For _ _ _ _ _) _) _ _ _); (rename Fr _ _ _ _ => lF'); (with_unfolding_all refine' For_invVF lF' ?k1 ?k2 ?_; (case k1 => exact rfl); (case k2 => exact rfl); k_whole)) | with_reducible (k_here; (with_reducible show wpAny _ _ (subscriptTail _ _ (Value.ref _) (Value.int _ _)) _ _ _); k_dflt (refine' item_tupleT ?t ?a ?b ?c ?d ?_; (case t => exact News.isTup (by k_asm) (by k_mem)); (case a => decide); (case b => decide); (case c => rfl); (case d => rfl); k_whole)) | with_reducible (k_here; (with_reducible show wpAny _ _ (PySem.pyIter (Value.ref _)) _ _ _); refine Stop.of ?_) | walk1 | (dsimp only; walk1) | fail "no step"))
  refine Stop.to ?_
  (rename News _ _ _ ((_, W.listOf #[] 0) :: news) => N0)
  (rename (∀ (q : Addr × Obj), q ∈ news → q.1 < _) => l0)
  with_unfolding_all refine' ksw_while (σ := NafC) (fun c => (_, W.listOf c.vs.toArray c.z) :: news) (fun c => [(Str.ofString "mult", Value.int c.m c.t)]) (fun _ => True) [Str.ofString "nd"] (NafI k) (fun c => c.m.natAbs) ⟨k, t, [], [], 0⟩ (hE := ?hE) (by k_asm) N0 trivial (by walk_at "ps") (naf_start h1) ?wt
  (case hE => first | passes_own | with_unfolding_all passes_own)
  rintro ⟨m, tm, vs, ds, z⟩ u' h tk - hI F1 N1
  dsimp only at F1 N1
  have hm := hI.bd
  have hvl := hI.vl
  dsimp only at hm hvl
  (repeat' (first | (k_unfold; (try dsimp only)) | ((with_reducible show wpAny _ _ (execs (List.cons _ _) _) _ _ (Shared.mk _ _ _ (HAdd.hAdd _ _) _)); (rename Fr _ _ _ _ => Fq); refine stm8 Fq ?_; clear Fq; intro tkq mq Fq; (try k_fold)) | with_reducible (k_here; (with_reducible show wpAny _ _ (exec (Stmt.While (Expr.Name _ _) _ _ _) _) _ _ _); refine Stop.of ?_) | with_reducible (k_here; (with_reducible show wpAny _ _ (PySem.call (Value.ref 21) _) _ _ _); k_dflt (refine' Sp.use (c_inv ?q1 ?q2 ?q3 ?q4) ?k1 ?k2 ?k3 ?k4 ?k5 ?k6 ?k7 ?k8 ?k9 ?_; walk_at "use"; (case q1 => assumption); (case q2 => assumption); (case q3 => omega); (case q4 => omega)); unfold RInv; intro i9ᵣ t9ᵣ h9ᵣ tk9ᵣ hi1ᵣ hi2ᵣ hi3ᵣ F9ᵣ N9ᵣ; (try dsimp only); (try k_sweep); (try k_fold)) | with_reducible (k_here; (with_reducible show wpAny _ _ (PySem.call (Value.ref 71) _) _ _ _); k_dflt (refine' Sp.use (c_ed_a ?q1 ?q2 ?q3) ?k1 ?k2 ?k3 ?k4 ?k5 ?k6 ?k7 ?k8 ?k9 ?_; walk_at "use"; (case q2 => k_dflt k_mem); (case q3 => k_dflt k_mem); (case q1 => k_dflt (exact ⟨rfl, rfl, rfl⟩))); unfold RV; intro h9ᵣ tk9ᵣ F9ᵣ N9ᵣ; (try dsimp only); (try k_sweep); (try k_fold)) | with_reducible (k_here; (with_reducible show wpAny _ _ (PySem.call (Value.ref 64) _) _ _ _); k_dflt (refine' Sp.use (c_ed_p ?q1 ?q2 ?q3) ?k1 ?k2 ?k3 ?k4 ?k5 ?k6 ?k7 ?k8 ?k9 ?_; walk_at "use"; (case q2 => k_dflt k_mem); (case q3 => k_dflt k_mem); (case q1 => k_dflt (exact ⟨rfl, rfl, rfl⟩))); unfold RV; intro h9ᵣ tk9ᵣ F9ᵣ N9ᵣ; (try dsimp only); (try k_sweep); (try k_fold)) | with_reducible (k_here; (with_reducible show wpAny _ _ (call (Value.builtin "len") [Value.ref _]) _ _ _); k_dflt (refine' kst_len ?q1 ?q2 ?q3 ?q4 ?_; (case q1 => k_asm); (case q2 => k_mem); (case q3 => assumption); (case q4 => omega))) | with_reducible (k_here; (with_reducible show wpAny _ _ (exec (Stmt.For _ _ _ _ _) _) _ _ _); (rename Fr _ _ _ _ => lF'); (with_unfolding_all refine' For_invVF lF' ?k1 ?k2 ?_; (case k1 => exact rfl); (case k2 => exact rfl); k_whole)) | with_reducible (k_here; (with_reducible show wpAny _ _ (subscriptTail _ _ (Value.ref _) (Value.int _ _)) _ _ _); k_dflt (refine' item_tupleT ?t ?a ?b ?c ?d ?_; (case t => exact News.isTup (by k_asm) (by k_mem)); (case a => decide); (case b => decide); (case c => rfl); (case d => rfl); k_whole)) | with_reducible (k_here; (with_reducible show wpAny _ _ (PySem.pyIter (Value.ref _)) _ _ _); refine Stop.of ?_) | walk1 | (dsimp only; walk1) | fail "no step"))
  · (rename News _ _ _ _ => N9)
    simp only [List.push_toArray] at N9
    have f2 : m.fmod 2 = m % 2 := Int.fmod_eq_emod_of_nonneg _ (by omega)
    have f4 : m.fmod 4 = m % 4 := Int.fmod_eq_emod_of_nonneg _ (by omega)
    have fd : (m - (m.fmod 4 - 4)).fdiv 2 = (m - (m.fmod 4 - 4)) / 2 := Int.fdiv_eq_ediv_of_nonneg _ (by omega)
    have hst := fun t' tx => naf_step (x := m.fmod 4 - 4) (m' := (m - (m.fmod 4 - 4)).fdiv 2) (t' := t') (tx := tx) (z' := z + 1) hI (by assumption) (by omega) (by rw [fd]; omega) (by rw [fd]; omega)
    exact ksw_end ⟨(m - (m.fmod 4 - 4)).fdiv 2, _, vs ++ [.int (m.fmod 4 - 4) _], ds ++ [m.fmod 4 - 4], z + 1⟩ (by k_asm) N9 (fun _ h => h) trivial (by walk_at "ps") (by (intro z h1 h3; (try simp only [List.contains_cons, List.contains_nil, Bool.or_false, Bool.or_eq_false_iff, beq_eq_false_iff_ne, ne_eq] at h3); (simp at h1); (simp +zetaDelta [h1, h3, kstB]; done))) (hst _ _).1 (hst 0 0).2
  · (rename News _ _ _ _ => N9)
    simp only [List.push_toArray] at N9
    have f2 : m.fmod 2 = m % 2 := Int.fmod_eq_emod_of_nonneg _ (by omega)
    have f4 : m.fmod 4 = m % 4 := Int.fmod_eq_emod_of_nonneg _ (by omega)
    have fd : (m - m.fmod 4).fdiv 2 = (m - m.fmod 4) / 2 := Int.fdiv_eq_ediv_of_nonneg _ (by omega)
    have hst := fun t' tx => naf_step (x := m.fmod 4) (m' := (m - m.fmod 4).fdiv 2) (t' := t') (tx := tx) (z' := z + 1) hI (by assumption) (by omega) (by rw [fd]; omega) (by rw [fd]; omega)
    exact ksw_end ⟨(m - m.fmod 4).fdiv 2, _, vs ++ [.int (m.fmod 4) _], ds ++ [m.fmod 4], z + 1⟩ (by k_asm) N9 (fun _ h => h) trivial (by walk_at "ps") (by (intro z h1 h3; (try simp only [List.contains_cons, List.contains_nil, Bool.or_false, Bool.or_eq_false_iff, beq_eq_false_iff_ne, ne_eq] at h3); (simp at h1); (simp +zetaDelta [h1, h3, kstB]; done))) (hst _ _).1 (hst 0 0).2
  · (rename News _ _ _ _ => N9)
    simp only [List.push_toArray] at N9
    have f2 : m.fmod 2 = m % 2 := Int.fmod_eq_emod_of_nonneg _ (by omega)
    have fd : m.fdiv 2 = m / 2 := Int.fdiv_eq_ediv_of_nonneg _ (by omega)
    have hst := fun t' tx => naf_step (x := 0) (m' := m.fdiv 2) (t' := t') (tx := tx) (z' := z + 1) hI (by assumption) (by omega) (by rw [fd]; omega) (by left; rfl)
    exact ksw_end ⟨m.fdiv 2, _, vs ++ [.int 0 _], ds ++ [0], z + 1⟩ (by k_asm) N9 (fun _ h => h) trivial (by walk_at "ps") (by (intro z h1 h3; (try simp only [List.contains_cons, List.contains_nil, Bool.or_false, Bool.or_eq_false_iff, beq_eq_false_iff_ne, ne_eq] at h3); (simp at h1); (simp +zetaDelta [h1, h3, kstB]; done))) (hst _ _).1 (hst 0 0).2
  · have hz : m = 0 := by assumption
    subst hz
    refine hret _ vs ds z _ _ hI.is ?_ hI.dig ?_ (by k_asm) (by k_asm) l0
    · have := hI.val
      dsimp only at this
      rw [← this]; omega
    · have := hI.is.length
      dsimp only at this
      omega
end
-- L05e
section
theorem b101 {x q : Int} (h : 0 ≤ x ∧ x < q) (hq : q ≤ 101) : -101 ≤ x ∧ x ≤ 101 := by omega
theorem b101n {x q : Int} (h : 0 ≤ x ∧ x < q) (hq : q ≤ 101) : -101 ≤ -x ∧ -x ≤ 101 := by omega
theorem b101o : (-101 : Int) ≤ 1 ∧ (1 : Int) ≤ 101 := by decide
variable {w : World} {mean : ExcName → Option Value} {mg mb : Str → Option Value}
theorem c_maybeA {news : List (Addr × Obj)} {x d cx k l : Addr} {s1 s2 s3 s4 s5 : Tok} {o : Value} {z : Nat} (ho : handedIn o = true)
    (m0 : (x, instObj 343 d) ∈ news) (m1 : (d, dictOf (peE w s1 s2 s3 s4 s5 (.ref cx) (.ref k) o (.bool false) (.ref l)) 5) ∈ news) :
    Sp PR w (hd.heap_39 w.params) topProg LO mean mg mb 1 8 (call (.ref 235) [.ref x]) news (fun _ => True) (RV (.ref l) news) := by
  (try unfold PR LO); k_fill; w_top off
  unfold Sp
  intro dp un gd cn cs a ccd cl outer A₀ base h₀ L M s Q E B F X N T hk hd hu hpre hret
  try dsimp only at hpre
  refine wpAny_call ?_
  k_dflt cell_enter
  unfold RV at hret
  (repeat' (first | (k_unfold; (try dsimp only)) | ((with_reducible show wpAny _ _ (execs (List.cons _ _) _) _ _ (Shared.mk _ _ _ (HAdd.hAdd _ _) _)); (rename Fr _ _ _ _ => Fq); (rename News _ _ _ _ => Nq); refine stm9 Fq Nq ?_; clear Fq Nq; intro tkq mq nq Fq Nq; (try k_fold)) | with_reducible (k_here; (with_reducible show wpAny _ _ (PySem.call (Value.ref 21) _) _ _ _); k_dflt (refine' Sp.use (c_inv ?q1 ?q2 ?q3 ?q4) ?k1 ?k2 ?k3 ?k4 ?k5 ?k6 ?k7 ?k8 ?k9 ?_; walk_at "use"; (case q1 => assumption); (case q2 => assumption); (case q3 => omega); (case q4 => omega)); unfold RInv; intro i9ᵣ t9ᵣ h9ᵣ tk9ᵣ hi1ᵣ hi2ᵣ hi3ᵣ F9ᵣ N9ᵣ; (try dsimp only); (try k_sweep); (try k_fold)) | with_reducible (k_here; (with_reducible show wpAny _ _ (PySem.call (Value.ref 71) _) _ _ _); k_dflt (refine' Sp.use (c_ed_a ?q1 ?q2 ?q3) ?k1 ?k2 ?k3 ?k4 ?k5 ?k6 ?k7 ?k8 ?k9 ?_; walk_at "use"; (case q2 => k_dflt k_mem); (case q3 => k_dflt k_mem); (case q1 => k_dflt (exact ⟨rfl, rfl, rfl⟩))); unfold RV; intro h9ᵣ tk9ᵣ F9ᵣ N9ᵣ; (try dsimp only); (try k_sweep); (try k_fold)) | with_reducible (k_here; (with_reducible show wpAny _ _ (PySem.call (Value.ref 64) _) _ _ _); k_dflt (refine' Sp.use (c_ed_p ?q1 ?q2 ?q3) ?k1 ?k2 ?k3 ?k4 ?k5 ?k6 ?k7 ?k8 ?k9 ?_; walk_at "use"; (case q2 => k_dflt k_mem); (case q3 => k_dflt k_mem); (case q1 => k_dflt (exact ⟨rfl, rfl, rfl⟩))); unfold RV; intro h9ᵣ tk9ᵣ F9ᵣ N9ᵣ; (try dsimp only); (try k_sweep); (try k_fold)) | with_reducible (k_here; (with_reducible show wpAny _ _ (call (Value.builtin "len") [Value.ref _]) _ _ _); k_dflt (refine' kst_len ?q1 ?q2 ?q3 ?q4 ?_; (case q1 => k_asm); (case q2 => k_mem); (case q3 => assumption); (case q4 => omega))) | with_reducible (k_here; (with_reducible show wpAny _ _ (exec (Stmt.For _ _ _ _ _) _) _ _ _); (rename Fr _ _ _ _ => lF'); (with_unfolding_all refine' For_invVF lF' ?k1 ?k2 ?_; (case k1 => exact rfl); (case k2 => exact rfl); k_whole)) | with_reducible (k_here; (with_reducible show wpAny _ _ (subscriptTail _ _ (Value.ref _) (Value.int _ _)) _ _ _); k_dflt (refine' item_tupleT ?t ?a ?b ?c ?d ?_; (case t => exact News.isTup (by k_asm) (by k_mem)); (case a => decide); (case b => decide); (case c => rfl); (case d => rfl); k_whole)) | with_reducible (k_here; (with_reducible show wpAny _ _ (PySem.pyIter (Value.ref _)) _ _ _); refine Stop.of ?_) | walk1 | (dsimp only; walk1) | fail "no step"))
  exact hret _ _ (by assumption) (by assumption)
theorem fr_same {h₀ h : Heap} {L : Addr} {m : Str → Option Value} {y : Str} {v : Value} (hm : m y = some v) (F : Fr h₀ L h m) : Fr h₀ L h (fun z => if z = y then some v else m z) := by
  have e : (fun z => if z = y then some v else m z) = m := funext fun z => by
    by_cases h : z = y
    · rw [if_pos h, h, hm]
    · rw [if_neg h]
  rw [e]; exact F
def RMul (q : Nat) (a dd : Int) (P : Int × Int) (n : Nat) (k : Int) (x cx : Addr) (o : Value) (news : List (Addr × Obj)) (w : World) (h₀ : Heap) (L : Addr) (m : Str → Option Value) (s : Shared) (Q : Value → Shared → Prop) : Prop :=
  (k % (n : Int) = 0 → RV (.ref 347) news h₀ L m s Q) ∧ (k = 1 → RV (.ref x) news h₀ L m s Q) ∧
  (k % (n : Int) ≠ 0 → k ≠ 1 → ∀ X Y Z T, Ed.Rp q a dd P n k X Y Z T → (0 ≤ X ∧ X < q) → (0 ≤ Y ∧ Y < q) → (0 ≤ Z ∧ Z < q) → (0 ≤ T ∧ T < q) → RPe (.ref cx) (X, Y, Z, T) o (.bool false) news w h₀ L m s Q)
abbrev dsOf {vs : List Value} {ds : List Int} (_ : IntsAre vs ds) : List Int := ds
set_option genInjectivity false in
set_option genSizeOf false in
structure NafL where
  X : Int
  t1 : Tok
  Y : Int
  t2 : Tok
  Z : Int
  t3 : Tok
  T : Int
  t4 : Tok
def NafLI (q : Nat) (a dd : Int) (P : Int × Int) (n : Nat) (ds : List Int) (i : Nat) (c : NafL) : Prop :=
  Ed.Rp q a dd P n (nval (ds.drop (ds.length - i))) c.X c.Y c.Z c.T ∧ (0 ≤ c.X ∧ c.X < q) ∧ (0 ≤ c.Y ∧ c.Y < q) ∧ (0 ≤ c.Z ∧ c.Z < q) ∧ 0 ≤ c.T ∧ c.T < q
theorem nafL_next {ds : List Int} {i : Nat} {x : Int} (hi : i < ds.length) (hx : ds[ds.length - 1 - i]? = some x) : nval (ds.drop (ds.length - (i + 1))) = x + 2 * nval (ds.drop (ds.length - i)) := by
  have h1 : ds.length - (i + 1) < ds.length := by omega
  rw [List.drop_eq_getElem_cons h1]
  have e : ds.length - (i + 1) + 1 = ds.length - i := by omega
  rw [e]
  have e2 : ds[ds.length - (i + 1)] = x := by
    have h2 := List.getElem?_eq_getElem h1
    have h3 : ds.length - 1 - i = ds.length - (i + 1) := by omega
    rw [h3, h2] at hx
    exact Option.some.inj hx
  rw [e2]; rfl
theorem c_mulA {news : List (Addr × Obj)} {x d cx cd k l : Addr} {s1 s2 s3 s4 s5 c1 c2 c3 c4 c5 u1 u2 u3 u4 tp ta td tk : Tok} {o : Value} {q n zl : Nat} {av dd Xv Yv Zv Tv kv : Int} {P : Int × Int} (hc : Ed.Cx q av dd P n) (hr : Ed.Rp q av dd P n 1 Xv Yv Zv Tv) (hX : 0 ≤ Xv ∧ Xv < q) (hY : 0 ≤ Yv ∧ Yv < q) (hZ : 0 ≤ Zv ∧ Zv < q) (hT : 0 ≤ Tv ∧ Tv < q) (hn9 : n ≤ 1000) (ho : o = .none ∨ ∃ tn, o = .int n tn) (hkv : -1000000000000000000 ≤ kv ∧ kv ≤ 1000000000000000000)
    (m0 : (x, instObj 343 d) ∈ news) (m1 : (d, dictOf (peE w s1 s2 s3 s4 s5 (.ref cx) (.ref k) o (.bool false) (.ref l)) 5) ∈ news) (m2 : (k, tup4 Xv u1 Yv u2 Zv u3 Tv u4) ∈ news) (m3 : (cx, instObj 88 cd) ∈ news) (m4 : (cd, dictOf (edE w c1 c2 c3 c4 c5 (.int q tp) (.int av ta) (.int dd td) .none .none) 5) ∈ news) (m5 : (l, W.listOf #[] zl) ∈ news) :
    SpC PR w (hd.heap_39 w.params) topProg LO mean mg mb 6 100 (.ref 340) [.ref x, .int kv tk] news (fun _ => True) (RMul q av dd P n kv x cx o news w) := by
  have hq := hc.cv.pr
  obtain ⟨hb1, hb2⟩ := Ed.primes_int hq
  have hab := hc.a_bd
  have hb0 : (0 : Int) < q := by omega
  have hab9 : 0 ≤ av ∧ av ≤ 101 := by omega
  have h1n : (1 : Int) % (n : Int) ≠ 0 := by rw [Int.emod_eq_of_lt (by omega) (by have := hc.big; omega)]; omega
  have hn := Ed.rp_ne hc hr h1n
  have hbig : (1 : Int) < n := by have := hc.big; omega
  have hn9' : (n : Int) ≤ 1000 := by omega
  have hfm := Ed.fm_bd (show (0 : Int) < n * 2 by omega) kv
  have hfk : (kv.fmod (n * 2)) % (n : Int) = kv % n := by
    rw [Int.fmod_eq_emod_of_nonneg _ (by omega)]
    exact Int.emod_emod_of_dvd _ ⟨2, rfl⟩
  have hn1 := hn.1
  have hn2 := hn.2
  have hho : handedIn o = true := by rcases ho with rfl | ⟨_, rfl⟩ <;> rfl
  (try unfold PR LO); k_fill
  unfold SpC
  intro dp un gd cn cs a ccd cl outer A₀ base h₀ L M s Q E B F X N T hk hd hu hpre hret
  try dsimp only at hpre
  k_dflt cell_enter
  (repeat' (first | (k_unfold; (try dsimp only)) | ((with_reducible show wpAny _ _ (execs (List.cons _ _) _) _ _ (Shared.mk _ _ _ (HAdd.hAdd _ _) _)); (rename Fr _ _ _ _ => Fq); (rename News _ _ _ _ => Nq); refine stm9 Fq Nq ?_; clear Fq Nq; intro tkq mq nq Fq Nq; (try k_fold)) | with_reducible (k_here; (with_reducible show wpAny _ _ (PySem.call (Value.ref 343) _) _ _ _); k_dflt (refine' Sp.use c_mkPE6 ?k1 ?k2 ?k3 ?k4 ?k5 ?k6 ?k7 ?k8 ?k9 ?_; walk_at "use"); unfold RPe; intro z9ᵣ d9ᵣ l9ᵣ k9ᵣ t1ᵣ t2ᵣ t3ᵣ t4ᵣ t5ᵣ u1ᵣ u2ᵣ u3ᵣ u4ᵣ h9ᵣ tk9ᵣ F9ᵣ N9ᵣ l1ᵣ l2ᵣ l3ᵣ l4ᵣ; (try dsimp only); (try k_sweep); (try k_fold)) | with_reducible (k_here; (with_reducible show wpAny _ _ (PySem.call (Value.ref _) _) _ _ _); k_dflt (refine' Sp.use (SpC.meth ?q0 (c_addC ?m0 ?m1 ?q1 ?q2 ?q3 ?q4 ?q5 ?q6 ?q7 ?q8 ?q9 ?qa ?qb)) ?k1 ?k2 ?k3 ?k4 ?k5 ?k6 ?k7 ?k8 ?k9 ?_; walk_at "use"; (case q0 => k_dflt k_mem); (case m0 => k_dflt k_mem); (case m1 => k_dflt k_mem); (case q1 => (first | assumption | exact b101 (by assumption) (by assumption) | exact b101n (by assumption) (by assumption) | exact b101o | omega)); (case q2 => (first | assumption | exact b101 (by assumption) (by assumption) | exact b101n (by assumption) (by assumption) | exact b101o | omega)); (case q3 => (first | assumption | exact b101 (by assumption) (by assumption) | exact b101n (by assumption) (by assumption) | exact b101o | omega)); (case q4 => (first | assumption | exact b101 (by assumption) (by assumption) | exact b101n (by assumption) (by assumption) | exact b101o | omega)); (case q5 => (first | assumption | exact b101 (by assumption) (by assumption) | exact b101n (by assumption) (by assumption) | exact b101o | omega)); (case q6 => (first | assumption | exact b101 (by assumption) (by assumption) | exact b101n (by assumption) (by assumption) | exact b101o | omega)); (case q7 => (first | assumption | exact b101 (by assumption) (by assumption) | exact b101n (by assumption) (by assumption) | exact b101o | omega)); (case q8 => (first | assumption | exact b101 (by assumption) (by assumption) | exact b101n (by assumption) (by assumption) | exact b101o | omega)); (case q9 => (first | assumption | exact b101 (by assumption) (by assumption) | exact b101n (by assumption) (by assumption) | exact b101o | omega)); (case qa => (first | assumption | exact b101 (by assumption) (by assumption) | exact b101n (by assumption) (by assumption) | exact b101o | omega)); (case qb => (first | assumption | exact b101 (by assumption) (by assumption) | exact b101n (by assumption) (by assumption) | exact b101o | omega))); unfold RT4; intro D9ᵣ t1ᵣ t2ᵣ t3ᵣ t4ᵣ h9ᵣ tk9ᵣ F9ᵣ N9ᵣ l1ᵣ; (try dsimp only); (try k_lt l1ᵣ); (try k_sweep); (try k_fold)) | with_reducible (k_here; (with_reducible show wpAny _ _ (PySem.call (Value.ref _) _) _ _ _); k_dflt (refine' Sp.use (SpC.meth ?q0 (c_dblC ?q1 ?q2 ?q3 ?q4 ?q5 ?q6)) ?k1 ?k2 ?k3 ?k4 ?k5 ?k6 ?k7 ?k8 ?k9 ?_; walk_at "use"; (case q0 => k_dflt k_mem); (case q1 => (first | assumption | exact b101 (by assumption) (by assumption) | exact b101n (by assumption) (by assumption) | exact b101o | omega)); (case q2 => (first | assumption | exact b101 (by assumption) (by assumption) | exact b101n (by assumption) (by assumption) | exact b101o | omega)); (case q3 => (first | assumption | exact b101 (by assumption) (by assumption) | exact b101n (by assumption) (by assumption) | exact b101o | omega)); (case q4 => (first | assumption | exact b101 (by assumption) (by assumption) | exact b101n (by assumption) (by assumption) | exact b101o | omega)); (case q5 => (first | assumption | exact b101 (by assumption) (by assumption) | exact b101n (by assumption) (by assumption) | exact b101o | omega)); (case q6 => (first | assumption | exact b101 (by assumption) (by assumption) | exact b101n (by assumption) (by assumption) | exact b101o | omega))); unfold RT4; intro D9ᵣ t1ᵣ t2ᵣ t3ᵣ t4ᵣ h9ᵣ tk9ᵣ F9ᵣ N9ᵣ l1ᵣ; (try dsimp only); (try k_lt l1ᵣ); (try k_sweep); (try k_fold)) | with_reducible (k_here; (with_reducible show wpAny _ _ (exec (Stmt.If (Expr.Attribute _ _ _) _ _ _) _) _ _ _); goal_lacks CutV; refine Stop.of ?_) | with_reducible (k_here; (with_reducible show wpAny _ _ (PySem.truthy (Value.ref _)) _ _ _); k_dflt (refine' truthy_L false ?q1 ?q2 ?q3 ?q4 ?_; (case q1 => k_asm); (case q2 => k_mem); (case q3 => exact Nat.le_of_ble_eq_true rfl); (case q4 => rfl))) | with_reducible (k_here; (with_reducible show wpAny _ _ (PySem.call (Value.ref 106) _) _ _ _); k_dflt (refine' Sp.use (c_naf ?q1) ?k1 ?k2 ?k3 ?k4 ?k5 ?k6 ?k7 ?k8 ?k9 ?_; walk_at "use"; (case q1 => omega)); unfold RNaf; intro l9ᵣ vs9ᵣ ds9ᵣ z9ᵣ h9ᵣ tk9ᵣ hi9ᵣ hv9ᵣ hd9ᵣ hl9ᵣ F9ᵣ N9ᵣ l1ᵣ; (try dsimp only); (try k_lt l1ᵣ); (try k_sweep); (try k_fold)) | with_reducible (k_here; (with_reducible show wpAny _ _ (PySem.call (Value.ref 235) _) _ _ _); k_dflt (refine' Sp.use (c_maybeA ?q1 ?q2 ?q3) ?k1 ?k2 ?k3 ?k4 ?k5 ?k6 ?k7 ?k8 ?k9 ?_; walk_at "use"; (case q2 => k_dflt k_mem); (case q3 => k_dflt k_mem); (case q1 => first | assumption | rfl)); unfold RV; intro h9ᵣ tk9ᵣ F9ᵣ N9ᵣ; (try dsimp only); (try k_sweep); (try k_fold)) | with_reducible (k_here; (with_reducible show wpAny _ _ (PySem.call (Value.ref 21) _) _ _ _); k_dflt (refine' Sp.use (c_inv ?q1 ?q2 ?q3 ?q4) ?k1 ?k2 ?k3 ?k4 ?k5 ?k6 ?k7 ?k8 ?k9 ?_; walk_at "use"; (case q1 => assumption); (case q2 => assumption); (case q3 => omega); (case q4 => omega)); unfold RInv; intro i9ᵣ t9ᵣ h9ᵣ tk9ᵣ hi1ᵣ hi2ᵣ hi3ᵣ F9ᵣ N9ᵣ; (try dsimp only); (try k_sweep); (try k_fold)) | with_reducible (k_here; (with_reducible show wpAny _ _ (PySem.call (Value.ref 71) _) _ _ _); k_dflt (refine' Sp.use (c_ed_a ?q1 ?q2 ?q3) ?k1 ?k2 ?k3 ?k4 ?k5 ?k6 ?k7 ?k8 ?k9 ?_; walk_at "use"; (case q2 => k_dflt k_mem); (case q3 => k_dflt k_mem); (case q1 => k_dflt (exact ⟨rfl, rfl, rfl⟩))); unfold RV; intro h9ᵣ tk9ᵣ F9ᵣ N9ᵣ; (try dsimp only); (try k_sweep); (try k_fold)) | with_reducible (k_here; (with_reducible show wpAny _ _ (PySem.call (Value.ref 64) _) _ _ _); k_dflt (refine' Sp.use (c_ed_p ?q1 ?q2 ?q3) ?k1 ?k2 ?k3 ?k4 ?k5 ?k6 ?k7 ?k8 ?k9 ?_; walk_at "use"; (case q2 => k_dflt k_mem); (case q3 => k_dflt k_mem); (case q1 => k_dflt (exact ⟨rfl, rfl, rfl⟩))); unfold RV; intro h9ᵣ tk9ᵣ F9ᵣ N9ᵣ; (try dsimp only); (try k_sweep); (try k_fold)) | with_reducible (k_here; (with_reducible show wpAny _ _ (call (Value.builtin "len") [Value.ref _]) _ _ _); k_dflt (refine' kst_len ?q1 ?q2 ?q3 ?q4 ?_; (case q1 => k_asm); (case q2 => k_mem); (case q3 => assumption); (case q4 => omega))) | with_reducible (k_here; (with_reducible show wpAny _ _ (exec (Stmt.For _ _ _ _ _) _) _ _ _); (rename Fr _ _ _ _ => lF'); (with_unfolding_all refine' For_invVF lF' ?k1 ?k2 ?_; (case k1 => exact rfl); (case k2 => exact rfl); k_whole)) | with_reducible (k_here; (with_reducible show wpAny _ _ (subscriptTail _ _ (Value.ref _) (Value.int _ _)) _ _ _); k_dflt (refine' item_tupleT ?t ?a ?b ?c ?d ?_; (case t => exact News.isTup (by k_asm) (by k_mem)); (case a => decide); (case b => decide); (case c => rfl); (case d => rfl); k_whole)) | with_reducible (k_here; (with_reducible show wpAny _ _ (PySem.pyIter (Value.ref _)) _ _ _); refine Stop.of ?_) | walk1 | (dsimp only; walk1) | fail "no step"))
  · unfold RMul RV at hret
    exact hret.2.1 (by assumption) _ _ (by k_asm) (by k_asm)
  · refine Stop.to ?_
    k_dflt (refine' cut_val (fun v => ∃ kr tr, v = .int kr tr ∧ kr % (n : Int) = kv % n ∧ -1000000000000000000 ≤ kr ∧ kr ≤ 1000000000000000000) (Str.ofString "other") ?zf ?zn ?_ ?_)
    (case zf => k_asm)
    (case zn => k_asm)
    · rcases ho with rfl | ⟨tn, rfl⟩
      · (repeat' (first | (k_unfold; (try dsimp only)) | ((with_reducible show wpAny _ _ (execs (List.cons _ _) _) _ _ (Shared.mk _ _ _ (HAdd.hAdd _ _) _)); (rename Fr _ _ _ _ => Fq); (rename News _ _ _ _ => Nq); refine stm9 Fq Nq ?_; clear Fq Nq; intro tkq mq nq Fq Nq; (try k_fold)) | with_reducible (k_here; (with_reducible show wpAny _ _ (PySem.call (Value.ref 343) _) _ _ _); k_dflt (refine' Sp.use c_mkPE6 ?k1 ?k2 ?k3 ?k4 ?k5 ?k6 ?k7 ?k8 ?k9 ?_; walk_at "use"); unfold RPe; intro z9ᵣ d9ᵣ l9ᵣ k9ᵣ t1ᵣ t2ᵣ t3ᵣ t4ᵣ t5ᵣ u1ᵣ u2ᵣ u3ᵣ u4ᵣ h9ᵣ tk9ᵣ F9ᵣ N9ᵣ l1ᵣ l2ᵣ l3ᵣ l4ᵣ; (try dsimp only); (try k_sweep); (try k_fold)) | with_reducible (k_here; (with_reducible show wpAny _ _ (PySem.call (Value.ref _) _) _ _ _); k_dflt (refine' Sp.use (SpC.meth ?q0 (c_addC ?m0 ?m1 ?q1 ?q2 ?q3 ?q4 ?q5 ?q6 ?q7 ?q8 ?q9 ?qa ?qb)) ?k1 ?k2 ?k3 ?k4 ?k5 ?k6 ?k7 ?k8 ?k9 ?_; walk_at "use"; (case q0 => k_dflt k_mem); (case m0 => k_dflt k_mem); (case m1 => k_dflt k_mem); (case q1 => (first | assumption | exact b101 (by assumption) (by assumption) | exact b101n (by assumption) (by assumption) | exact b101o | omega)); (case q2 => (first | assumption | exact b101 (by assumption) (by assumption) | exact b101n (by assumption) (by assumption) | exact b101o | omega)); (case q3 => (first | assumption | exact b101 (by assumption) (by assumption) | exact b101n (by assumption) (by assumption) | exact b101o | omega)); (case q4 => (first | assumption | exact b101 (by assumption) (by assumption) | exact b101n (by assumption) (by assumption) | exact b101o | omega)); (case q5 => (first | assumption | exact b101 (by assumption) (by assumption) | exact b101n (by assumption) (by assumption) | exact b101o | omega)); (case q6 => (first | assumption | exact b101 (by assumption) (by assumption) | exact b101n (by assumption) (by assumption) | exact b101o | omega)); (case q7 => (first | assumption | exact b101 (by assumption) (by assumption) | exact b101n (by assumption) (by assumption) | exact b101o | omega)); (case q8 => (first | assumption | exact b101 (by assumption) (by assumption) | exact b101n (by assumption) (by assumption) | exact b101o | omega)); (case q9 => (first | assumption | exact b101 (by assumption) (by assumption) | exact b101n (by assumption) (by assumption) | exact b101o | omega)); (case qa => (first | assumption | exact b101 (by assumption) (by assumption) | exact b101n (by assumption) (by assumption) | exact b101o | omega)); (case qb => (first | assumption | exact b101 (by assumption) (by assumption) | exact b101n (by assumption) (by assumption) | exact b101o | omega))); unfold RT4; intro D9ᵣ t1ᵣ t2ᵣ t3ᵣ t4ᵣ h9ᵣ tk9ᵣ F9ᵣ N9ᵣ l1ᵣ; (try dsimp only); (try k_lt l1ᵣ); (try k_sweep); (try k_fold)) | with_reducible (k_here; (with_reducible show wpAny _ _ (PySem.call (Value.ref _) _) _ _ _); k_dflt (refine' Sp.use (SpC.meth ?q0 (c_dblC ?q1 ?q2 ?q3 ?q4 ?q5 ?q6)) ?k1 ?k2 ?k3 ?k4 ?k5 ?k6 ?k7 ?k8 ?k9 ?_; walk_at "use"; (case q0 => k_dflt k_mem); (case q1 => (first | assumption | exact b101 (by assumption) (by assumption) | exact b101n (by assumption) (by assumption) | exact b101o | omega)); (case q2 => (first | assumption | exact b101 (by assumption) (by assumption) | exact b101n (by assumption) (by assumption) | exact b101o | omega)); (case q3 => (first | assumption | exact b101 (by assumption) (by assumption) | exact b101n (by assumption) (by assumption) | exact b101o | omega)); (case q4 => (first | assumption | exact b101 (by assumption) (by assumption) | exact b101n (by assumption) (by assumption) | exact b101o | omega)); (case q5 => (first | assumption | exact b101 (by assumption) (by assumption) | exact b101n (by assumption) (by assumption) | exact b101o | omega)); (case q6 => (first | assumption | exact b101 (by assumption) (by assumption) | exact b101n (by assumption) (by assumption) | exact b101o | omega))); unfold RT4; intro D9ᵣ t1ᵣ t2ᵣ t3ᵣ t4ᵣ h9ᵣ tk9ᵣ F9ᵣ N9ᵣ l1ᵣ; (try dsimp only); (try k_lt l1ᵣ); (try k_sweep); (try k_fold)) | with_reducible (k_here; (with_reducible show wpAny _ _ (exec (Stmt.If (Expr.Attribute _ _ _) _ _ _) _) _ _ _); goal_lacks CutV; refine Stop.of ?_) | with_reducible (k_here; (with_reducible show wpAny _ _ (PySem.truthy (Value.ref _)) _ _ _); k_dflt (refine' truthy_L false ?q1 ?q2 ?q3 ?q4 ?_; (case q1 => k_asm); (case q2 => k_mem); (case q3 => exact Nat.le_of_ble_eq_true rfl); (case q4 => rfl))) | with_reducible (k_here; (with_reducible show wpAny _ _ (PySem.call (Value.ref 106) _) _ _ _); k_dflt (refine' Sp.use (c_naf ?q1) ?k1 ?k2 ?k3 ?k4 ?k5 ?k6 ?k7 ?k8 ?k9 ?_; walk_at "use"; (case q1 => omega)); unfold RNaf; intro l9ᵣ vs9ᵣ ds9ᵣ z9ᵣ h9ᵣ tk9ᵣ hi9ᵣ hv9ᵣ hd9ᵣ hl9ᵣ F9ᵣ N9ᵣ l1ᵣ; (try dsimp only); (try k_lt l1ᵣ); (try k_sweep); (try k_fold)) | with_reducible (k_here; (with_reducible show wpAny _ _ (PySem.call (Value.ref 235) _) _ _ _); k_dflt (refine' Sp.use (c_maybeA ?q1 ?q2 ?q3) ?k1 ?k2 ?k3 ?k4 ?k5 ?k6 ?k7 ?k8 ?k9 ?_; walk_at "use"; (case q2 => k_dflt k_mem); (case q3 => k_dflt k_mem); (case q1 => first | assumption | rfl)); unfold RV; intro h9ᵣ tk9ᵣ F9ᵣ N9ᵣ; (try dsimp only); (try k_sweep); (try k_fold)) | with_reducible (k_here; (with_reducible show wpAny _ _ (PySem.call (Value.ref 21) _) _ _ _); k_dflt (refine' Sp.use (c_inv ?q1 ?q2 ?q3 ?q4) ?k1 ?k2 ?k3 ?k4 ?k5 ?k6 ?k7 ?k8 ?k9 ?_; walk_at "use"; (case q1 => assumption); (case q2 => assumption); (case q3 => omega); (case q4 => omega)); unfold RInv; intro i9ᵣ t9ᵣ h9ᵣ tk9ᵣ hi1ᵣ hi2ᵣ hi3ᵣ F9ᵣ N9ᵣ; (try dsimp only); (try k_sweep); (try k_fold)) | with_reducible (k_here; (with_reducible show wpAny _ _ (PySem.call (Value.ref 71) _) _ _ _); k_dflt (refine' Sp.use (c_ed_a ?q1 ?q2 ?q3) ?k1 ?k2 ?k3 ?k4 ?k5 ?k6 ?k7 ?k8 ?k9 ?_; walk_at "use"; (case q2 => k_dflt k_mem); (case q3 => k_dflt k_mem); (case q1 => k_dflt (exact ⟨rfl, rfl, rfl⟩))); unfold RV; intro h9ᵣ tk9ᵣ F9ᵣ N9ᵣ; (try dsimp only); (try k_sweep); (try k_fold)) | with_reducible (k_here; (with_reducible show wpAny _ _ (PySem.call (Value.ref 64) _) _ _ _); k_dflt (refine' Sp.use (c_ed_p ?q1 ?q2 ?q3) ?k1 ?k2 ?k3 ?k4 ?k5 ?k6 ?k7 ?k8 ?k9 ?_; walk_at "use"; (case q2 => k_dflt k_mem); (case q3 => k_dflt k_mem); (case q1 => k_dflt (exact ⟨rfl, rfl, rfl⟩))); unfold RV; intro h9ᵣ tk9ᵣ F9ᵣ N9ᵣ; (try dsimp only); (try k_sweep); (try k_fold)) | with_reducible (k_here; (with_reducible show wpAny _ _ (call (Value.builtin "len") [Value.ref _]) _ _ _); k_dflt (refine' kst_len ?q1 ?q2 ?q3 ?q4 ?_; (case q1 => k_asm); (case q2 => k_mem); (case q3 => assumption); (case q4 => omega))) | with_reducible (k_here; (with_reducible show wpAny _ _ (exec (Stmt.For _ _ _ _ _) _) _ _ _); (rename Fr _ _ _ _ => lF'); (with_unfolding_all refine' For_invVF lF' ?k1 ?k2 ?_; (case k1 => exact rfl); (case k2 => exact rfl); k_whole)) | with_reducible (k_here; (with_reducible show wpAny _ _ (subscriptTail _ _ (Value.ref _) (Value.int _ _)) _ _ _); k_dflt (refine' item_tupleT ?t ?a ?b ?c ?d ?_; (case t => exact News.isTup (by k_asm) (by k_mem)); (case a => decide); (case b => decide); (case c => rfl); (case d => rfl); k_whole)) | with_reducible (k_here; (with_reducible show wpAny _ _ (PySem.pyIter (Value.ref _)) _ _ _); refine Stop.of ?_) | walk1 | (dsimp only; walk1) | fail "no step"))
        exact cutV_end (fr_same rfl (by k_asm)) (by k_asm) (fun _ h => h) ⟨kv, _, rfl, rfl, hkv⟩
      · (repeat' (first | (k_unfold; (try dsimp only)) | ((with_reducible show wpAny _ _ (execs (List.cons _ _) _) _ _ (Shared.mk _ _ _ (HAdd.hAdd _ _) _)); (rename Fr _ _ _ _ => Fq); (rename News _ _ _ _ => Nq); refine stm9 Fq Nq ?_; clear Fq Nq; intro tkq mq nq Fq Nq; (try k_fold)) | with_reducible (k_here; (with_reducible show wpAny _ _ (PySem.call (Value.ref 343) _) _ _ _); k_dflt (refine' Sp.use c_mkPE6 ?k1 ?k2 ?k3 ?k4 ?k5 ?k6 ?k7 ?k8 ?k9 ?_; walk_at "use"); unfold RPe; intro z9ᵣ d9ᵣ l9ᵣ k9ᵣ t1ᵣ t2ᵣ t3ᵣ t4ᵣ t5ᵣ u1ᵣ u2ᵣ u3ᵣ u4ᵣ h9ᵣ tk9ᵣ F9ᵣ N9ᵣ l1ᵣ l2ᵣ l3ᵣ l4ᵣ; (try dsimp only); (try k_sweep); (try k_fold)) | with_reducible (k_here; (with_reducible show wpAny _ _ (PySem.call (Value.ref _) _) _ _ _); k_dflt (refine' Sp.use (SpC.meth ?q0 (c_addC ?m0 ?m1 ?q1 ?q2 ?q3 ?q4 ?q5 ?q6 ?q7 ?q8 ?q9 ?qa ?qb)) ?k1 ?k2 ?k3 ?k4 ?k5 ?k6 ?k7 ?k8 ?k9 ?_; walk_at "use"; (case q0 => k_dflt k_mem); (case m0 => k_dflt k_mem); (case m1 => k_dflt k_mem); (case q1 => (first | assumption | exact b101 (by assumption) (by assumption) | exact b101n (by assumption) (by assumption) | exact b101o | omega)); (case q2 => (first | assumption | exact b101 (by assumption) (by assumption) | exact b101n (by assumption) (by assumption) | exact b101o | omega)); (case q3 => (first | assumption | exact b101 (by assumption) (by assumption) | exact b101n (by assumption) (by assumption) | exact b101o | omega)); (case q4 => (first | assumption | exact b101 (by assumption) (by assumption) | exact b101n (by assumption) (by assumption) | exact b101o | omega)); (case q5 => (first | assumption | exact b101 (by assumption) (by assumption) | exact b101n (by assumption) (by assumption) | exact b101o | omega)); (case q6 => (first | assumption | exact b101 (by assumption) (by assumption) | exact b101n (by assumption) (by assumption) | exact b101o | omega)); (case q7 => (first | assumption | exact b101 (by assumption) (by assumption) | exact b101n (by assumption) (by assumption) | exact b101o | omega)); (case q8 => (first | assumption | exact b101 (by assumption) (by assumption) | exact b101n (by assumption) (by assumption) | exact b101o | omega)); (case q9 => (first | assumption | exact b101 (by assumption) (by assumption) | exact b101n (by assumption) (by assumption) | exact b101o | omega)); (case qa => (first | assumption | exact b101 (by assumption) (by assumption) | exact b101n (by assumption) (by assumption) | exact b101o | omega)); (case qb => (first | assumption | exact b101 (by assumption) (by assumption) | exact b101n (by assumption) (by assumption) | exact b101o | omega))); unfold RT4; intro D9ᵣ t1ᵣ t2ᵣ t3ᵣ t4ᵣ h9ᵣ tk9ᵣ F9ᵣ N9ᵣ l1ᵣ; (try dsimp only); (try k_lt l1ᵣ); (try k_sweep); (try k_fold)) | with_reducible (k_here; (with_reducible show wpAny _ _ (PySem.call (Value.ref _) _) _ _ _); k_dflt (refine' Sp.use (SpC.meth ?q0 (c_dblC ?q1 ?q2 ?q3 ?q4 ?q5 ?q6)) ?k1 ?k2 ?k3 ?k4 ?k5 ?k6 ?k7 ?k8 ?k9 ?_; walk_at "use"; (case q0 => k_dflt k_mem); (case q1 => (first | assumption | exact b101 (by assumption) (by assumption) | exact b101n (by assumption) (by assumption) | exact b101o | omega)); (case q2 => (first | assumption | exact b101 (by assumption) (by assumption) | exact b101n (by assumption) (by assumption) | exact b101o | omega)); (case q3 => (first | assumption | exact b101 (by assumption) (by assumption) | exact b101n (by assumption) (by assumption) | exact b101o | omega)); (case q4 => (first | assumption | exact b101 (by assumption) (by assumption) | exact b101n (by assumption) (by assumption) | exact b101o | omega)); (case q5 => (first | assumption | exact b101 (by assumption) (by assumption) | exact b101n (by assumption) (by assumption) | exact b101o | omega)); (case q6 => (first | assumption | exact b101 (by assumption) (by assumption) | exact b101n (by assumption) (by assumption) | exact b101o | omega))); unfold RT4; intro D9ᵣ t1ᵣ t2ᵣ t3ᵣ t4ᵣ h9ᵣ tk9ᵣ F9ᵣ N9ᵣ l1ᵣ; (try dsimp only); (try k_lt l1ᵣ); (try k_sweep); (try k_fold)) | with_reducible (k_here; (with_reducible show wpAny _ _ (exec (Stmt.If (Expr.Attribute _ _ _) _ _ _) _) _ _ _); goal_lacks CutV; refine Stop.of ?_) | with_reducible (k_here; (with_reducible show wpAny _ _ (PySem.truthy (Value.ref _)) _ _ _); k_dflt (refine' truthy_L false ?q1 ?q2 ?q3 ?q4 ?_; (case q1 => k_asm); (case q2 => k_mem); (case q3 => exact Nat.le_of_ble_eq_true rfl); (case q4 => rfl))) | with_reducible (k_here; (with_reducible show wpAny _ _ (PySem.call (Value.ref 106) _) _ _ _); k_dflt (refine' Sp.use (c_naf ?q1) ?k1 ?k2 ?k3 ?k4 ?k5 ?k6 ?k7 ?k8 ?k9 ?_; walk_at "use"; (case q1 => omega)); unfold RNaf; intro l9ᵣ vs9ᵣ ds9ᵣ z9ᵣ h9ᵣ tk9ᵣ hi9ᵣ hv9ᵣ hd9ᵣ hl9ᵣ F9ᵣ N9ᵣ l1ᵣ; (try dsimp only); (try k_lt l1ᵣ); (try k_sweep); (try k_fold)) | with_reducible (k_here; (with_reducible show wpAny _ _ (PySem.call (Value.ref 235) _) _ _ _); k_dflt (refine' Sp.use (c_maybeA ?q1 ?q2 ?q3) ?k1 ?k2 ?k3 ?k4 ?k5 ?k6 ?k7 ?k8 ?k9 ?_; walk_at "use"; (case q2 => k_dflt k_mem); (case q3 => k_dflt k_mem); (case q1 => first | assumption | rfl)); unfold RV; intro h9ᵣ tk9ᵣ F9ᵣ N9ᵣ; (try dsimp only); (try k_sweep); (try k_fold)) | with_reducible (k_here; (with_reducible show wpAny _ _ (PySem.call (Value.ref 21) _) _ _ _); k_dflt (refine' Sp.use (c_inv ?q1 ?q2 ?q3 ?q4) ?k1 ?k2 ?k3 ?k4 ?k5 ?k6 ?k7 ?k8 ?k9 ?_; walk_at "use"; (case q1 => assumption); (case q2 => assumption); (case q3 => omega); (case q4 => omega)); unfold RInv; intro i9ᵣ t9ᵣ h9ᵣ tk9ᵣ hi1ᵣ hi2ᵣ hi3ᵣ F9ᵣ N9ᵣ; (try dsimp only); (try k_sweep); (try k_fold)) | with_reducible (k_here; (with_reducible show wpAny _ _ (PySem.call (Value.ref 71) _) _ _ _); k_dflt (refine' Sp.use (c_ed_a ?q1 ?q2 ?q3) ?k1 ?k2 ?k3 ?k4 ?k5 ?k6 ?k7 ?k8 ?k9 ?_; walk_at "use"; (case q2 => k_dflt k_mem); (case q3 => k_dflt k_mem); (case q1 => k_dflt (exact ⟨rfl, rfl, rfl⟩))); unfold RV; intro h9ᵣ tk9ᵣ F9ᵣ N9ᵣ; (try dsimp only); (try k_sweep); (try k_fold)) | with_reducible (k_here; (with_reducible show wpAny _ _ (PySem.call (Value.ref 64) _) _ _ _); k_dflt (refine' Sp.use (c_ed_p ?q1 ?q2 ?q3) ?k1 ?k2 ?k3 ?k4 ?k5 ?k6 ?k7 ?k8 ?k9 ?_; walk_at "use"; (case q2 => k_dflt k_mem); (case q3 => k_dflt k_mem); (case q1 => k_dflt (exact ⟨rfl, rfl, rfl⟩))); unfold RV; intro h9ᵣ tk9ᵣ F9ᵣ N9ᵣ; (try dsimp only); (try k_sweep); (try k_fold)) | with_reducible (k_here; (with_reducible show wpAny _ _ (call (Value.builtin "len") [Value.ref _]) _ _ _); k_dflt (refine' kst_len ?q1 ?q2 ?q3 ?q4 ?_; (case q1 => k_asm); (case q2 => k_mem); (case q3 => assumption); (case q4 => omega))) | with_reducible (k_here; (with_reducible show wpAny _ _ (exec (Stmt.For _ _ _ _ _) _) _ _ _); (rename Fr _ _ _ _ => lF'); (with_unfolding_all refine' For_invVF lF' ?k1 ?k2 ?_; (case k1 => exact rfl); (case k2 => exact rfl); k_whole)) | with_reducible (k_here; (with_reducible show wpAny _ _ (subscriptTail _ _ (Value.ref _) (Value.int _ _)) _ _ _); k_dflt (refine' item_tupleT ?t ?a ?b ?c ?d ?_; (case t => exact News.isTup (by k_asm) (by k_mem)); (case a => decide); (case b => decide); (case c => rfl); (case d => rfl); k_whole)) | with_reducible (k_here; (with_reducible show wpAny _ _ (PySem.pyIter (Value.ref _)) _ _ _); refine Stop.of ?_) | walk1 | (dsimp only; walk1) | fail "no step"))
        · exact cutV_end (by k_asm) (by k_asm) (fun _ h => h) ⟨_, _, rfl, hfk, by omega, by omega⟩
        · exfalso; omega
    rintro v8 h8 tk8 ⟨kr, tr, rfl, hfk, hkr1, hkr2⟩ F8 N8
    try dsimp only [envOf] at F8 N8
    clear hfm
    (repeat' (first | (k_unfold; (try dsimp only)) | ((with_reducible show wpAny _ _ (execs (List.cons _ _) _) _ _ (Shared.mk _ _ _ (HAdd.hAdd _ _) _)); (rename Fr _ _ _ _ => Fq); (rename News _ _ _ _ => Nq); refine stm9 Fq Nq ?_; clear Fq Nq; intro tkq mq nq Fq Nq; (try k_fold)) | with_reducible (k_here; (with_reducible show wpAny _ _ (PySem.call (Value.ref 343) _) _ _ _); k_dflt (refine' Sp.use c_mkPE6 ?k1 ?k2 ?k3 ?k4 ?k5 ?k6 ?k7 ?k8 ?k9 ?_; walk_at "use"); unfold RPe; intro z9ᵣ d9ᵣ l9ᵣ k9ᵣ t1ᵣ t2ᵣ t3ᵣ t4ᵣ t5ᵣ u1ᵣ u2ᵣ u3ᵣ u4ᵣ h9ᵣ tk9ᵣ F9ᵣ N9ᵣ l1ᵣ l2ᵣ l3ᵣ l4ᵣ; (try dsimp only); (try k_sweep); (try k_fold)) | with_reducible (k_here; (with_reducible show wpAny _ _ (PySem.call (Value.ref _) _) _ _ _); k_dflt (refine' Sp.use (SpC.meth ?q0 (c_addC ?m0 ?m1 ?q1 ?q2 ?q3 ?q4 ?q5 ?q6 ?q7 ?q8 ?q9 ?qa ?qb)) ?k1 ?k2 ?k3 ?k4 ?k5 ?k6 ?k7 ?k8 ?k9 ?_; walk_at "use"; (case q0 => k_dflt k_mem); (case m0 => k_dflt k_mem); (case m1 => k_dflt k_mem); (case q1 => (first | assumption | exact b101 (by assumption) (by assumption) | exact b101n (by assumption) (by assumption) | exact b101o | omega)); (case q2 => (first | assumption | exact b101 (by assumption) (by assumption) | exact b101n (by assumption) (by assumption) | exact b101o | omega)); (case q3 => (first | assumption | exact b101 (by assumption) (by assumption) | exact b101n (by assumption) (by assumption) | exact b101o | omega)); (case q4 => (first | assumption | exact b101 (by assumption) (by assumption) | exact b101n (by assumption) (by assumption) | exact b101o | omega)); (case q5 => (first | assumption | exact b101 (by assumption) (by assumption) | exact b101n (by assumption) (by assumption) | exact b101o | omega)); (case q6 => (first | assumption | exact b101 (by assumption) (by assumption) | exact b101n (by assumption) (by assumption) | exact b101o | omega)); (case q7 => (first | assumption | exact b101 (by assumption) (by assumption) | exact b101n (by assumption) (by assumption) | exact b101o | omega)); (case q8 => (first | assumption | exact b101 (by assumption) (by assumption) | exact b101n (by assumption) (by assumption) | exact b101o | omega)); (case q9 => (first | assumption | exact b101 (by assumption) (by assumption) | exact b101n (by assumption) (by assumption) | exact b101o | omega)); (case qa => (first | assumption | exact b101 (by assumption) (by assumption) | exact b101n (by assumption) (by assumption) | exact b101o | omega)); (case qb => (first | assumption | exact b101 (by assumption) (by assumption) | exact b101n (by assumption) (by assumption) | exact b101o | omega))); unfold RT4; intro D9ᵣ t1ᵣ t2ᵣ t3ᵣ t4ᵣ h9ᵣ tk9ᵣ F9ᵣ N9ᵣ l1ᵣ; (try dsimp only); (try k_lt l1ᵣ); (try k_sweep); (try k_fold)) | with_reducible (k_here; (with_reducible show wpAny _ _ (PySem.call (Value.ref _) _) _ _ _); k_dflt (refine' Sp.use (SpC.meth ?q0 (c_dblC ?q1 ?q2 ?q3 ?q4 ?q5 ?q6)) ?k1 ?k2 ?k3 ?k4 ?k5 ?k6 ?k7 ?k8 ?k9 ?_; walk_at "use"; (case q0 => k_dflt k_mem); (case q1 => (first | assumption | exact b101 (by assumption) (by assumption) | exact b101n (by assumption) (by assumption) | exact b101o | omega)); (case q2 => (first | assumption | exact b101 (by assumption) (by assumption) | exact b101n (by assumption) (by assumption) | exact b101o | omega)); (case q3 => (first | assumption | exact b101 (by assumption) (by assumption) | exact b101n (by assumption) (by assumption) | exact b101o | omega)); (case q4 => (first | assumption | exact b101 (by assumption) (by assumption) | exact b101n (by assumption) (by assumption) | exact b101o | omega)); (case q5 => (first | assumption | exact b101 (by assumption) (by assumption) | exact b101n (by assumption) (by assumption) | exact b101o | omega)); (case q6 => (first | assumption | exact b101 (by assumption) (by assumption) | exact b101n (by assumption) (by assumption) | exact b101o | omega))); unfold RT4; intro D9ᵣ t1ᵣ t2ᵣ t3ᵣ t4ᵣ h9ᵣ tk9ᵣ F9ᵣ N9ᵣ l1ᵣ; (try dsimp only); (try k_lt l1ᵣ); (try k_sweep); (try k_fold)) | with_reducible (k_here; (with_reducible show wpAny _ _ (exec (Stmt.If (Expr.Attribute _ _ _) _ _ _) _) _ _ _); goal_lacks CutV; refine Stop.of ?_) | with_reducible (k_here; (with_reducible show wpAny _ _ (PySem.truthy (Value.ref _)) _ _ _); k_dflt (refine' truthy_L false ?q1 ?q2 ?q3 ?q4 ?_; (case q1 => k_asm); (case q2 => k_mem); (case q3 => exact Nat.le_of_ble_eq_true rfl); (case q4 => rfl))) | with_reducible (k_here; (with_reducible show wpAny _ _ (PySem.call (Value.ref 106) _) _ _ _); k_dflt (refine' Sp.use (c_naf ?q1) ?k1 ?k2 ?k3 ?k4 ?k5 ?k6 ?k7 ?k8 ?k9 ?_; walk_at "use"; (case q1 => omega)); unfold RNaf; intro l9ᵣ vs9ᵣ ds9ᵣ z9ᵣ h9ᵣ tk9ᵣ hi9ᵣ hv9ᵣ hd9ᵣ hl9ᵣ F9ᵣ N9ᵣ l1ᵣ; (try dsimp only); (try k_lt l1ᵣ); (try k_sweep); (try k_fold)) | with_reducible (k_here; (with_reducible show wpAny _ _ (PySem.call (Value.ref 235) _) _ _ _); k_dflt (refine' Sp.use (c_maybeA ?q1 ?q2 ?q3) ?k1 ?k2 ?k3 ?k4 ?k5 ?k6 ?k7 ?k8 ?k9 ?_; walk_at "use"; (case q2 => k_dflt k_mem); (case q3 => k_dflt k_mem); (case q1 => first | assumption | rfl)); unfold RV; intro h9ᵣ tk9ᵣ F9ᵣ N9ᵣ; (try dsimp only); (try k_sweep); (try k_fold)) | with_reducible (k_here; (with_reducible show wpAny _ _ (PySem.call (Value.ref 21) _) _ _ _); k_dflt (refine' Sp.use (c_inv ?q1 ?q2 ?q3 ?q4) ?k1 ?k2 ?k3 ?k4 ?k5 ?k6 ?k7 ?k8 ?k9 ?_; walk_at "use"; (case q1 => assumption); (case q2 => assumption); (case q3 => omega); (case q4 => omega)); unfold RInv; intro i9ᵣ t9ᵣ h9ᵣ tk9ᵣ hi1ᵣ hi2ᵣ hi3ᵣ F9ᵣ N9ᵣ; (try dsimp only); (try k_sweep); (try k_fold)) | with_reducible (k_here; (with_reducible show wpAny _ _ (PySem.call (Value.ref 71) _) _ _ _); k_dflt (refine' Sp.use (c_ed_a ?q1 ?q2 ?q3) ?k1 ?k2 ?k3 ?k4 ?k5 ?k6 ?k7 ?k8 ?k9 ?_; walk_at "use"; (case q2 => k_dflt k_mem); (case q3 => k_dflt k_mem); (case q1 => k_dflt (exact ⟨rfl, rfl, rfl⟩))); unfold RV; intro h9ᵣ tk9ᵣ F9ᵣ N9ᵣ; (try dsimp only); (try k_sweep); (try k_fold)) | with_reducible (k_here; (with_reducible show wpAny _ _ (PySem.call (Value.ref 64) _) _ _ _); k_dflt (refine' Sp.use (c_ed_p ?q1 ?q2 ?q3) ?k1 ?k2 ?k3 ?k4 ?k5 ?k6 ?k7 ?k8 ?k9 ?_; walk_at "use"; (case q2 => k_dflt k_mem); (case q3 => k_dflt k_mem); (case q1 => k_dflt (exact ⟨rfl, rfl, rfl⟩))); unfold RV; intro h9ᵣ tk9ᵣ F9ᵣ N9ᵣ; (try dsimp only); (try k_sweep); (try k_fold)) | with_reducible (k_here; (with_reducible show wpAny _ _ (call (Value.builtin "len") [Value.ref _]) _ _ _); k_dflt (refine' kst_len ?q1 ?q2 ?q3 ?q4 ?_; (case q1 => k_asm); (case q2 => k_mem); (case q3 => assumption); (case q4 => omega))) | with_reducible (k_here; (with_reducible show wpAny _ _ (exec (Stmt.For _ _ _ _ _) _) _ _ _); (rename Fr _ _ _ _ => lF'); (with_unfolding_all refine' For_invVF lF' ?k1 ?k2 ?_; (case k1 => exact rfl); (case k2 => exact rfl); k_whole)) | with_reducible (k_here; (with_reducible show wpAny _ _ (subscriptTail _ _ (Value.ref _) (Value.int _ _)) _ _ _); k_dflt (refine' item_tupleT ?t ?a ?b ?c ?d ?_; (case t => exact News.isTup (by k_asm) (by k_mem)); (case a => decide); (case b => decide); (case c => rfl); (case d => rfl); k_whole)) | with_reducible (k_here; (with_reducible show wpAny _ _ (PySem.pyIter (Value.ref _)) _ _ _); refine Stop.of ?_) | walk1 | (dsimp only; walk1) | fail "no step"))
    refine Stop.to ?_
    (rename News _ _ _ ((_, revObj _ _) :: _) => N0)
    (rename IntsAre _ _ => hi9)
    (rename (∀ x ∈ _, x = -1 ∨ x = 0 ∨ x = 1) => hd9)
    (rename (_ < _ ∧ _ < _ ∧ _ < _ ∧ _ < _ ∧ _ < _ ∧ AllLt _ _) => l9)
    rename nval _ = _ => hv9
    k_dflt (refine' lp_revC (σ := NafL) (fun c => [(Str.ofString "X3", Value.int c.X c.t1), (Str.ofString "Y3", Value.int c.Y c.t2), (Str.ofString "Z3", Value.int c.Z c.t3), (Str.ofString "T3", Value.int c.T c.t4)]) (NafLI q av dd P n (dsOf hi9)) [Str.ofString "X3", Str.ofString "Y3", Str.ofString "Z3", Str.ofString "T3"] ⟨0, _, 1, _, 1, _, 0, _⟩ ?zh (by k_asm) N0 ?zne (by walk_at "ps") ⟨?zi, ?zi2⟩ ?zt ?zd)
    (case zh => exact rfl)
    (case zne => refine fun p hp => Nat.ne_of_lt (allLt_all ?_ p hp); exact l9)
    (case zi => dsimp only; rw [Nat.sub_zero, List.drop_length]; exact Ed.rp_zero hc)
    (case zi2 => dsimp only; omega)
    (case zt =>
      rintro i v ⟨X, t1, Y, t2, Z, t3, T, t4⟩ u h tk it hlt hv hI hne' F1 N1
      obtain ⟨dg, tdg, rfl, hdg⟩ := ints_at hi9 hv
      rw [hi9.length] at hdg
      have hlt' := hlt
      rw [hi9.length] at hlt'
      have hnx := nafL_next hlt' hdg
      have hdd := hd9 dg (List.mem_of_getElem? hdg)
      obtain ⟨hI1, hI2, hI3, hI4, hI5⟩ := hI
      dsimp only at hI1 hI2 hI3 hI4 hI5 F1
      have hD1 := Ed.rp_dbl hc hI1 rfl
      have hDi : Ed.In4 q (Ed.zdbl q av X Y Z) := Ed.zdbl_in (by omega)
      obtain ⟨hDi1, hDi2, hDi3, hDi4⟩ := hDi
      clear hret hI1
      (repeat' (first | (k_unfold; (try dsimp only)) | ((with_reducible show wpAny _ _ (execs (List.cons _ _) _) _ _ (Shared.mk _ _ _ (HAdd.hAdd _ _) _)); (rename Fr _ _ _ _ => Fq); (rename News _ _ _ _ => Nq); refine stm9 Fq Nq ?_; clear Fq Nq; intro tkq mq nq Fq Nq; (try k_fold)) | with_reducible (k_here; (with_reducible show wpAny _ _ (PySem.call (Value.ref 343) _) _ _ _); k_dflt (refine' Sp.use c_mkPE6 ?k1 ?k2 ?k3 ?k4 ?k5 ?k6 ?k7 ?k8 ?k9 ?_; walk_at "use"); unfold RPe; intro z9ᵣ d9ᵣ l9ᵣ k9ᵣ t1ᵣ t2ᵣ t3ᵣ t4ᵣ t5ᵣ u1ᵣ u2ᵣ u3ᵣ u4ᵣ h9ᵣ tk9ᵣ F9ᵣ N9ᵣ l1ᵣ l2ᵣ l3ᵣ l4ᵣ; (try dsimp only); (try k_sweep); (try k_fold)) | with_reducible (k_here; (with_reducible show wpAny _ _ (PySem.call (Value.ref _) _) _ _ _); k_dflt (refine' Sp.use (SpC.meth ?q0 (c_addC ?m0 ?m1 ?q1 ?q2 ?q3 ?q4 ?q5 ?q6 ?q7 ?q8 ?q9 ?qa ?qb)) ?k1 ?k2 ?k3 ?k4 ?k5 ?k6 ?k7 ?k8 ?k9 ?_; walk_at "use"; (case q0 => k_dflt k_mem); (case m0 => k_dflt k_mem); (case m1 => k_dflt k_mem); (case q1 => (first | assumption | exact b101 (by assumption) (by assumption) | exact b101n (by assumption) (by assumption) | exact b101o | omega)); (case q2 => (first | assumption | exact b101 (by assumption) (by assumption) | exact b101n (by assumption) (by assumption) | exact b101o | omega)); (case q3 => (first | assumption | exact b101 (by assumption) (by assumption) | exact b101n (by assumption) (by assumption) | exact b101o | omega)); (case q4 => (first | assumption | exact b101 (by assumption) (by assumption) | exact b101n (by assumption) (by assumption) | exact b101o | omega)); (case q5 => (first | assumption | exact b101 (by assumption) (by assumption) | exact b101n (by assumption) (by assumption) | exact b101o | omega)); (case q6 => (first | assumption | exact b101 (by assumption) (by assumption) | exact b101n (by assumption) (by assumption) | exact b101o | omega)); (case q7 => (first | assumption | exact b101 (by assumption) (by assumption) | exact b101n (by assumption) (by assumption) | exact b101o | omega)); (case q8 => (first | assumption | exact b101 (by assumption) (by assumption) | exact b101n (by assumption) (by assumption) | exact b101o | omega)); (case q9 => (first | assumption | exact b101 (by assumption) (by assumption) | exact b101n (by assumption) (by assumption) | exact b101o | omega)); (case qa => (first | assumption | exact b101 (by assumption) (by assumption) | exact b101n (by assumption) (by assumption) | exact b101o | omega)); (case qb => (first | assumption | exact b101 (by assumption) (by assumption) | exact b101n (by assumption) (by assumption) | exact b101o | omega))); unfold RT4; intro D9ᵣ t1ᵣ t2ᵣ t3ᵣ t4ᵣ h9ᵣ tk9ᵣ F9ᵣ N9ᵣ l1ᵣ; (try dsimp only); (try k_lt l1ᵣ); (try k_sweep); (try k_fold)) | with_reducible (k_here; (with_reducible show wpAny _ _ (PySem.call (Value.ref _) _) _ _ _); k_dflt (refine' Sp.use (SpC.meth ?q0 (c_dblC ?q1 ?q2 ?q3 ?q4 ?q5 ?q6)) ?k1 ?k2 ?k3 ?k4 ?k5 ?k6 ?k7 ?k8 ?k9 ?_; walk_at "use"; (case q0 => k_dflt k_mem); (case q1 => (first | assumption | exact b101 (by assumption) (by assumption) | exact b101n (by assumption) (by assumption) | exact b101o | omega)); (case q2 => (first | assumption | exact b101 (by assumption) (by assumption) | exact b101n (by assumption) (by assumption) | exact b101o | omega)); (case q3 => (first | assumption | exact b101 (by assumption) (by assumption) | exact b101n (by assumption) (by assumption) | exact b101o | omega)); (case q4 => (first | assumption | exact b101 (by assumption) (by assumption) | exact b101n (by assumption) (by assumption) | exact b101o | omega)); (case q5 => (first | assumption | exact b101 (by assumption) (by assumption) | exact b101n (by assumption) (by assumption) | exact b101o | omega)); (case q6 => (first | assumption | exact b101 (by assumption) (by assumption) | exact b101n (by assumption) (by assumption) | exact b101o | omega))); unfold RT4; intro D9ᵣ t1ᵣ t2ᵣ t3ᵣ t4ᵣ h9ᵣ tk9ᵣ F9ᵣ N9ᵣ l1ᵣ; (try dsimp only); (try k_lt l1ᵣ); (try k_sweep); (try k_fold)) | with_reducible (k_here; (with_reducible show wpAny _ _ (exec (Stmt.If (Expr.Attribute _ _ _) _ _ _) _) _ _ _); goal_lacks CutV; refine Stop.of ?_) | with_reducible (k_here; (with_reducible show wpAny _ _ (PySem.truthy (Value.ref _)) _ _ _); k_dflt (refine' truthy_L false ?q1 ?q2 ?q3 ?q4 ?_; (case q1 => k_asm); (case q2 => k_mem); (case q3 => exact Nat.le_of_ble_eq_true rfl); (case q4 => rfl))) | with_reducible (k_here; (with_reducible show wpAny _ _ (PySem.call (Value.ref 106) _) _ _ _); k_dflt (refine' Sp.use (c_naf ?q1) ?k1 ?k2 ?k3 ?k4 ?k5 ?k6 ?k7 ?k8 ?k9 ?_; walk_at "use"; (case q1 => omega)); unfold RNaf; intro l9ᵣ vs9ᵣ ds9ᵣ z9ᵣ h9ᵣ tk9ᵣ hi9ᵣ hv9ᵣ hd9ᵣ hl9ᵣ F9ᵣ N9ᵣ l1ᵣ; (try dsimp only); (try k_lt l1ᵣ); (try k_sweep); (try k_fold)) | with_reducible (k_here; (with_reducible show wpAny _ _ (PySem.call (Value.ref 235) _) _ _ _); k_dflt (refine' Sp.use (c_maybeA ?q1 ?q2 ?q3) ?k1 ?k2 ?k3 ?k4 ?k5 ?k6 ?k7 ?k8 ?k9 ?_; walk_at "use"; (case q2 => k_dflt k_mem); (case q3 => k_dflt k_mem); (case q1 => first | assumption | rfl)); unfold RV; intro h9ᵣ tk9ᵣ F9ᵣ N9ᵣ; (try dsimp only); (try k_sweep); (try k_fold)) | with_reducible (k_here; (with_reducible show wpAny _ _ (PySem.call (Value.ref 21) _) _ _ _); k_dflt (refine' Sp.use (c_inv ?q1 ?q2 ?q3 ?q4) ?k1 ?k2 ?k3 ?k4 ?k5 ?k6 ?k7 ?k8 ?k9 ?_; walk_at "use"; (case q1 => assumption); (case q2 => assumption); (case q3 => omega); (case q4 => omega)); unfold RInv; intro i9ᵣ t9ᵣ h9ᵣ tk9ᵣ hi1ᵣ hi2ᵣ hi3ᵣ F9ᵣ N9ᵣ; (try dsimp only); (try k_sweep); (try k_fold)) | with_reducible (k_here; (with_reducible show wpAny _ _ (PySem.call (Value.ref 71) _) _ _ _); k_dflt (refine' Sp.use (c_ed_a ?q1 ?q2 ?q3) ?k1 ?k2 ?k3 ?k4 ?k5 ?k6 ?k7 ?k8 ?k9 ?_; walk_at "use"; (case q2 => k_dflt k_mem); (case q3 => k_dflt k_mem); (case q1 => k_dflt (exact ⟨rfl, rfl, rfl⟩))); unfold RV; intro h9ᵣ tk9ᵣ F9ᵣ N9ᵣ; (try dsimp only); (try k_sweep); (try k_fold)) | with_reducible (k_here; (with_reducible show wpAny _ _ (PySem.call (Value.ref 64) _) _ _ _); k_dflt (refine' Sp.use (c_ed_p ?q1 ?q2 ?q3) ?k1 ?k2 ?k3 ?k4 ?k5 ?k6 ?k7 ?k8 ?k9 ?_; walk_at "use"; (case q2 => k_dflt k_mem); (case q3 => k_dflt k_mem); (case q1 => k_dflt (exact ⟨rfl, rfl, rfl⟩))); unfold RV; intro h9ᵣ tk9ᵣ F9ᵣ N9ᵣ; (try dsimp only); (try k_sweep); (try k_fold)) | with_reducible (k_here; (with_reducible show wpAny _ _ (call (Value.builtin "len") [Value.ref _]) _ _ _); k_dflt (refine' kst_len ?q1 ?q2 ?q3 ?q4 ?_; (case q1 => k_asm); (case q2 => k_mem); (case q3 => assumption); (case q4 => omega))) | with_reducible (k_here; (with_reducible show wpAny _ _ (exec (Stmt.For _ _ _ _ _) _) _ _ _); (rename Fr _ _ _ _ => lF'); (with_unfolding_all refine' For_invVF lF' ?k1 ?k2 ?_; (case k1 => exact rfl); (case k2 => exact rfl); k_whole)) | with_reducible (k_here; (with_reducible show wpAny _ _ (subscriptTail _ _ (Value.ref _) (Value.int _ _)) _ _ _); k_dflt (refine' item_tupleT ?t ?a ?b ?c ?d ?_; (case t => exact News.isTup (by k_asm) (by k_mem)); (case a => decide); (case b => decide); (case c => rfl); (case d => rfl); k_whole)) | with_reducible (k_here; (with_reducible show wpAny _ _ (PySem.pyIter (Value.ref _)) _ _ _); refine Stop.of ?_) | walk1 | (dsimp only; walk1) | fail "no step"))
      · have hA := Ed.rp_add hc hD1 (Ed.rp_neg hc hr) rfl
        have hAi : Ed.In4 q (Ed.zadd q av (Ed.zdbl q av X Y Z).1 (Ed.zdbl q av X Y Z).2.1 (Ed.zdbl q av X Y Z).2.2.1 (Ed.zdbl q av X Y Z).2.2.2 (-Xv) Yv Zv (-Tv)) := Ed.zadd_in (by omega)
        refine lp_end ⟨_, _, _, _, _, _, _, _⟩ (by k_asm) (by k_asm) (fun p hp => by repeat (first | exact hp | apply List.mem_cons_of_mem)) (by k_dflt k_mem) hne' (by walk_at "ps") (by walk_at "same") ⟨?_, hAi.1, hAi.2.1, hAi.2.2.1, hAi.2.2.2⟩
        dsimp only [dsOf]
        rw [hnx, show dg = -1 by omega, Int.add_comm]
        exact hA
      · have hA := Ed.rp_add hc hD1 hr rfl
        have hAi : Ed.In4 q (Ed.zadd q av (Ed.zdbl q av X Y Z).1 (Ed.zdbl q av X Y Z).2.1 (Ed.zdbl q av X Y Z).2.2.1 (Ed.zdbl q av X Y Z).2.2.2 Xv Yv Zv Tv) := Ed.zadd_in (by omega)
        refine lp_end ⟨_, _, _, _, _, _, _, _⟩ (by k_asm) (by k_asm) (fun p hp => by repeat (first | exact hp | apply List.mem_cons_of_mem)) (by k_dflt k_mem) hne' (by walk_at "ps") (by walk_at "same") ⟨?_, hAi.1, hAi.2.1, hAi.2.2.1, hAi.2.2.2⟩
        dsimp only [dsOf]
        rw [hnx, show dg = 1 by omega, Int.add_comm]
        exact hA
      · refine lp_end ⟨_, _, _, _, _, _, _, _⟩ (by k_asm) (by k_asm) (fun p hp => by repeat (first | exact hp | apply List.mem_cons_of_mem)) (by k_dflt k_mem) hne' (by walk_at "ps") (by walk_at "same") ⟨?_, hDi1, hDi2, hDi3, hDi4⟩
        dsimp only [dsOf]
        rw [hnx, show dg = 0 by omega, Int.zero_add]
        exact hD1)
    (case zd =>
      rintro ⟨X, t1, Y, t2, Z, t3, T, t4⟩ u h tk hI F1 N1
      obtain ⟨hI1, hI2, hI3, hI4, hI5⟩ := hI
      dsimp only [dsOf] at hI1 hI2 hI3 hI4 hI5 F1
      rw [hi9.length, Nat.sub_self, List.drop_zero, hv9] at hI1
      replace hI1 := Ed.rp_mod hfk hI1
      have hnul := Ed.rp_null0 hc hI1 hI2 hI5
      (repeat' (first | (k_unfold; (try dsimp only)) | ((with_reducible show wpAny _ _ (execs (List.cons _ _) _) _ _ (Shared.mk _ _ _ (HAdd.hAdd _ _) _)); (rename Fr _ _ _ _ => Fq); (rename News _ _ _ _ => Nq); refine stm9 Fq Nq ?_; clear Fq Nq; intro tkq mq nq Fq Nq; (try k_fold)) | with_reducible (k_here; (with_reducible show wpAny _ _ (PySem.call (Value.ref 343) _) _ _ _); k_dflt (refine' Sp.use c_mkPE6 ?k1 ?k2 ?k3 ?k4 ?k5 ?k6 ?k7 ?k8 ?k9 ?_; walk_at "use"); unfold RPe; intro z9ᵣ d9ᵣ l9ᵣ k9ᵣ t1ᵣ t2ᵣ t3ᵣ t4ᵣ t5ᵣ u1ᵣ u2ᵣ u3ᵣ u4ᵣ h9ᵣ tk9ᵣ F9ᵣ N9ᵣ l1ᵣ l2ᵣ l3ᵣ l4ᵣ; (try dsimp only); (try k_sweep); (try k_fold)) | with_reducible (k_here; (with_reducible show wpAny _ _ (PySem.call (Value.ref _) _) _ _ _); k_dflt (refine' Sp.use (SpC.meth ?q0 (c_addC ?m0 ?m1 ?q1 ?q2 ?q3 ?q4 ?q5 ?q6 ?q7 ?q8 ?q9 ?qa ?qb)) ?k1 ?k2 ?k3 ?k4 ?k5 ?k6 ?k7 ?k8 ?k9 ?_; walk_at "use"; (case q0 => k_dflt k_mem); (case m0 => k_dflt k_mem); (case m1 => k_dflt k_mem); (case q1 => (first | assumption | exact b101 (by assumption) (by assumption) | exact b101n (by assumption) (by assumption) | exact b101o | omega)); (case q2 => (first | assumption | exact b101 (by assumption) (by assumption) | exact b101n (by assumption) (by assumption) | exact b101o | omega)); (case q3 => (first | assumption | exact b101 (by assumption) (by assumption) | exact b101n (by assumption) (by assumption) | exact b101o | omega)); (case q4 => (first | assumption | exact b101 (by assumption) (by assumption) | exact b101n (by assumption) (by assumption) | exact b101o | omega)); (case q5 => (first | assumption | exact b101 (by assumption) (by assumption) | exact b101n (by assumption) (by assumption) | exact b101o | omega)); (case q6 => (first | assumption | exact b101 (by assumption) (by assumption) | exact b101n (by assumption) (by assumption) | exact b101o | omega)); (case q7 => (first | assumption | exact b101 (by assumption) (by assumption) | exact b101n (by assumption) (by assumption) | exact b101o | omega)); (case q8 => (first | assumption | exact b101 (by assumption) (by assumption) | exact b101n (by assumption) (by assumption) | exact b101o | omega)); (case q9 => (first | assumption | exact b101 (by assumption) (by assumption) | exact b101n (by assumption) (by assumption) | exact b101o | omega)); (case qa => (first | assumption | exact b101 (by assumption) (by assumption) | exact b101n (by assumption) (by assumption) | exact b101o | omega)); (case qb => (first | assumption | exact b101 (by assumption) (by assumption) | exact b101n (by assumption) (by assumption) | exact b101o | omega))); unfold RT4; intro D9ᵣ t1ᵣ t2ᵣ t3ᵣ t4ᵣ h9ᵣ tk9ᵣ F9ᵣ N9ᵣ l1ᵣ; (try dsimp only); (try k_lt l1ᵣ); (try k_sweep); (try k_fold)) | with_reducible (k_here; (with_reducible show wpAny _ _ (PySem.call (Value.ref _) _) _ _ _); k_dflt (refine' Sp.use (SpC.meth ?q0 (c_dblC ?q1 ?q2 ?q3 ?q4 ?q5 ?q6)) ?k1 ?k2 ?k3 ?k4 ?k5 ?k6 ?k7 ?k8 ?k9 ?_; walk_at "use"; (case q0 => k_dflt k_mem); (case q1 => (first | assumption | exact b101 (by assumption) (by assumption) | exact b101n (by assumption) (by assumption) | exact b101o | omega)); (case q2 => (first | assumption | exact b101 (by assumption) (by assumption) | exact b101n (by assumption) (by assumption) | exact b101o | omega)); (case q3 => (first | assumption | exact b101 (by assumption) (by assumption) | exact b101n (by assumption) (by assumption) | exact b101o | omega)); (case q4 => (first | assumption | exact b101 (by assumption) (by assumption) | exact b101n (by assumption) (by assumption) | exact b101o | omega)); (case q5 => (first | assumption | exact b101 (by assumption) (by assumption) | exact b101n (by assumption) (by assumption) | exact b101o | omega)); (case q6 => (first | assumption | exact b101 (by assumption) (by assumption) | exact b101n (by assumption) (by assumption) | exact b101o | omega))); unfold RT4; intro D9ᵣ t1ᵣ t2ᵣ t3ᵣ t4ᵣ h9ᵣ tk9ᵣ F9ᵣ N9ᵣ l1ᵣ; (try dsimp only); (try k_lt l1ᵣ); (try k_sweep); (try k_fold)) | with_reducible (k_here; (with_reducible show wpAny _ _ (exec (Stmt.If (Expr.Attribute _ _ _) _ _ _) _) _ _ _); goal_lacks CutV; refine Stop.of ?_) | with_reducible (k_here; (with_reducible show wpAny _ _ (PySem.truthy (Value.ref _)) _ _ _); k_dflt (refine' truthy_L false ?q1 ?q2 ?q3 ?q4 ?_; (case q1 => k_asm); (case q2 => k_mem); (case q3 => exact Nat.le_of_ble_eq_true rfl); (case q4 => rfl))) | with_reducible (k_here; (with_reducible show wpAny _ _ (PySem.call (Value.ref 106) _) _ _ _); k_dflt (refine' Sp.use (c_naf ?q1) ?k1 ?k2 ?k3 ?k4 ?k5 ?k6 ?k7 ?k8 ?k9 ?_; walk_at "use"; (case q1 => omega)); unfold RNaf; intro l9ᵣ vs9ᵣ ds9ᵣ z9ᵣ h9ᵣ tk9ᵣ hi9ᵣ hv9ᵣ hd9ᵣ hl9ᵣ F9ᵣ N9ᵣ l1ᵣ; (try dsimp only); (try k_lt l1ᵣ); (try k_sweep); (try k_fold)) | with_reducible (k_here; (with_reducible show wpAny _ _ (PySem.call (Value.ref 235) _) _ _ _); k_dflt (refine' Sp.use (c_maybeA ?q1 ?q2 ?q3) ?k1 ?k2 ?k3 ?k4 ?k5 ?k6 ?k7 ?k8 ?k9 ?_; walk_at "use"; (case q2 => k_dflt k_mem); (case q3 => k_dflt k_mem); (case q1 => first | assumption | rfl)); unfold RV; intro h9ᵣ tk9ᵣ F9ᵣ N9ᵣ; (try dsimp only); (try k_sweep); (try k_fold)) | with_reducible (k_here; (with_reducible show wpAny _ _ (PySem.call (Value.ref 21) _) _ _ _); k_dflt (refine' Sp.use (c_inv ?q1 ?q2 ?q3 ?q4) ?k1 ?k2 ?k3 ?k4 ?k5 ?k6 ?k7 ?k8 ?k9 ?_; walk_at "use"; (case q1 => assumption); (case q2 => assumption); (case q3 => omega); (case q4 => omega)); unfold RInv; intro i9ᵣ t9ᵣ h9ᵣ tk9ᵣ hi1ᵣ hi2ᵣ hi3ᵣ F9ᵣ N9ᵣ; (try dsimp only); (try k_sweep); (try k_fold)) | with_reducible (k_here; (with_reducible show wpAny _ _ (PySem.call (Value.ref 71) _) _ _ _); k_dflt (refine' Sp.use (c_ed_a ?q1 ?q2 ?q3) ?k1 ?k2 ?k3 ?k4 ?k5 ?k6 ?k7 ?k8 ?k9 ?_; walk_at "use"; (case q2 => k_dflt k_mem); (case q3 => k_dflt k_mem); (case q1 => k_dflt (exact ⟨rfl, rfl, rfl⟩))); unfold RV; intro h9ᵣ tk9ᵣ F9ᵣ N9ᵣ; (try dsimp only); (try k_sweep); (try k_fold)) | with_reducible (k_here; (with_reducible show wpAny _ _ (PySem.call (Value.ref 64) _) _ _ _); k_dflt (refine' Sp.use (c_ed_p ?q1 ?q2 ?q3) ?k1 ?k2 ?k3 ?k4 ?k5 ?k6 ?k7 ?k8 ?k9 ?_; walk_at "use"; (case q2 => k_dflt k_mem); (case q3 => k_dflt k_mem); (case q1 => k_dflt (exact ⟨rfl, rfl, rfl⟩))); unfold RV; intro h9ᵣ tk9ᵣ F9ᵣ N9ᵣ; (try dsimp only); (try k_sweep); (try k_fold)) | with_reducible (k_here; (with_reducible show wpAny _ _ (call (Value.builtin "len") [Value.ref _]) _ _ _); k_dflt (refine' kst_len ?q1 ?q2 ?q3 ?q4 ?_; (case q1 => k_asm); (case q2 => k_mem); (case q3 => assumption); (case q4 => omega))) | with_reducible (k_here; (with_reducible show wpAny _ _ (exec (Stmt.For _ _ _ _ _) _) _ _ _); (rename Fr _ _ _ _ => lF'); (with_unfolding_all refine' For_invVF lF' ?k1 ?k2 ?_; (case k1 => exact rfl); (case k2 => exact rfl); k_whole)) | with_reducible (k_here; (with_reducible show wpAny _ _ (subscriptTail _ _ (Value.ref _) (Value.int _ _)) _ _ _); k_dflt (refine' item_tupleT ?t ?a ?b ?c ?d ?_; (case t => exact News.isTup (by k_asm) (by k_mem)); (case a => decide); (case b => decide); (case c => rfl); (case d => rfl); k_whole)) | with_reducible (k_here; (with_reducible show wpAny _ _ (PySem.pyIter (Value.ref _)) _ _ _); refine Stop.of ?_) | walk1 | (dsimp only; walk1) | fail "no step"))
      · (rename (∀ (q : Addr × Obj), q ∈ _ → q.1 < _) => l9)
        exact hret.2.2 (fun e => by have := hnul.mpr e; omega) (by assumption) X Y Z T hI1 hI2 hI3 hI4 hI5 _ _ _ _ _ _ _ _ _ _ _ _ _ _ _ (by k_asm) (by (exact cb_drop (by assumption) (List.forall_mem_cons.mpr ⟨.head _, List.forall_mem_cons.mpr ⟨.tail _ (.head _), List.forall_mem_cons.mpr ⟨.tail _ (.tail _ (.head _)), List.forall_mem_cons.mpr ⟨.tail _ (.tail _ (.tail _ (.head _))), fun q hq => by repeat (first | exact hq | apply List.mem_cons_of_mem)⟩⟩⟩⟩))) (fun q hq => l9 q (by repeat (first | exact hq | apply List.mem_cons_of_mem))) (by assumption) (by assumption) (by assumption)
      · exact hret.1 (hnul.mp (by omega)) _ _ (by k_asm) (by (exact cb_drop (by assumption) fun q hq => by repeat (first | exact hq | apply List.mem_cons_of_mem)))
      · exact hret.1 (hnul.mp (by omega)) _ _ (by k_asm) (by (exact cb_drop (by assumption) fun q hq => by repeat (first | exact hq | apply List.mem_cons_of_mem))))
  · exact hret.1 (by rw [show kv = 0 by assumption]; exact Int.zero_emod _) _ _ (by k_asm) (by k_asm)
  · exfalso; omega
  · exfalso; omega
end
-- L05f
section
abbrev tup3 (x : Int) (t : Tok) (y : Int) (u : Tok) (z : Int) (v : Tok) : Obj := { cls := .type "tuple", data := .seq #[.int x t, .int y u, .int z v] 0 }
/-- a table of doublings, affine -/
def TabAre5 (q : Nat) (a dd : Int) (P : Int × Int) (n : Nat) (led : List (Addr × Obj)) (vs : List Value) : Prop :=
  ∀ i v, vs[i]? = some v → ∃ r t u x, v = .ref r ∧ (r, tup3 (Ed.zM q a dd P n (2 ^ i)).1 t (Ed.zM q a dd P n (2 ^ i)).2 u (((Ed.zM q a dd P n (2 ^ i)).1 * (Ed.zM q a dd P n (2 ^ i)).2).fmod q) x) ∈ led
theorem TabAre5.mono {q : Nat} {a dd : Int} {P : Int × Int} {n : Nat} {led led' : List (Addr × Obj)} {vs : List Value} (hs : ∀ p ∈ led, p ∈ led') (h : TabAre5 q a dd P n led vs) : TabAre5 q a dd P n led' vs := fun i v hv => by
  obtain ⟨r, t, u, x, e, hm⟩ := h i v hv
  exact ⟨r, t, u, x, e, hs _ hm⟩
set_option genInjectivity false in
set_option genSizeOf false in
structure PreC where
  X : Int
  t1 : Tok
  Y : Int
  t2 : Tok
  Z : Int
  t3 : Tok
  T : Int
  t4 : Tok
  o : Int
  t5 : Tok
def PreI (q : Nat) (a dd : Int) (P : Int × Int) (n : Nat) (k : Int) (m : Nat) (i : Nat) (c : PreC) : Prop :=
  Ed.Rp q a dd P n (k - c.o * 2 ^ i) c.X c.Y c.Z c.T ∧ ((0 ≤ c.X ∧ c.X < q) ∧ (0 ≤ c.Y ∧ c.Y < q) ∧ (0 ≤ c.Z ∧ c.Z < q) ∧ 0 ≤ c.T ∧ c.T < q) ∧ 0 ≤ c.o ∧ c.o ≤ k ∧ (i < m → c.o ≤ 2 ^ (m - 1 - i)) ∧ (m ≤ i → c.o = 0)
theorem pre_next {k o o' x : Int} {m i : Nat} (hi : i < m) (h0 : 0 ≤ o) (hk : o ≤ k) (hb : i < m → o ≤ 2 ^ (m - 1 - i)) (e : o = 2 * o' + x) (hx : x = -1 ∧ 3 ≤ o ∨ x = 0 ∨ x = 1) :
    k - o' * 2 ^ (i + 1) = (k - o * 2 ^ i) + x * 2 ^ i ∧ 0 ≤ o' ∧ o' ≤ k ∧ (i + 1 < m → o' ≤ 2 ^ (m - 1 - (i + 1))) ∧ (m ≤ i + 1 → o' = 0) := by
  have hx1 : -1 ≤ x ∧ x ≤ 1 ∧ 0 ≤ o + x := by clear hb e hk; omega
  refine ⟨by rw [Int.pow_succ, e]; grind, by clear hx hb; omega, by clear hx hb; omega, fun h => ?_, fun h => ?_⟩
  · have h1 := hb hi
    obtain ⟨j, hj⟩ : ∃ j, m - 1 - i = j + 1 := ⟨m - 1 - i - 1, by omega⟩
    rw [hj, Int.pow_succ] at h1
    rw [show m - 1 - (i + 1) = j by clear hx hx1 h1; omega]
    clear hx hb hj
    omega
  · have h1 := hb hi
    rw [show m - 1 - i = 0 by omega, Int.pow_zero] at h1
    omega
variable {w : World} {mean : ExcName → Option Value} {mg mb : Str → Option Value}
def RMulP (q : Nat) (a dd : Int) (P : Int × Int) (n : Nat) (k : Int) (cx : Addr) (o : Value) (news : List (Addr × Obj)) (w : World) (h₀ : Heap) (L : Addr) (m : Str → Option Value) (s : Shared) (Q : Value → Shared → Prop) : Prop :=
  (k % (n : Int) = 0 → RV (.ref 347) news h₀ L m s Q) ∧
  (k % (n : Int) ≠ 0 → ∀ X Y Z T, Ed.Rp q a dd P n k X Y Z T → (0 ≤ X ∧ X < q) → (0 ≤ Y ∧ Y < q) → (0 ≤ Z ∧ Z < q) → (0 ≤ T ∧ T < q) → RPe (.ref cx) (X, Y, Z, T) o (.bool false) news w h₀ L m s Q)
theorem c_mulpre {news : List (Addr × Obj)} {x d cx cd k l : Addr} {s1 s2 s3 s4 s5 c1 c2 c3 c4 c5 tp ta td tk tn : Tok} {q n zl : Nat} {av dd kv : Int} {P : Int × Int} {vs : List Value} (hc : Ed.Cx q av dd P n) (hkv : 0 ≤ kv ∧ kv ≤ 100000) (hm1 : 1 ≤ vs.length ∧ vs.length ≤ 60) (hkm : kv ≤ 2 ^ (vs.length - 1)) (ht : TabAre5 q av dd P n news vs)
    (m0 : (x, instObj 343 d) ∈ news) (m1 : (d, dictOf (peE w s1 s2 s3 s4 s5 (.ref cx) (.ref k) (.int n tn) (.bool true) (.ref l)) 5) ∈ news) (m3 : (cx, instObj 88 cd) ∈ news) (m4 : (cd, dictOf (edE w c1 c2 c3 c4 c5 (.int q tp) (.int av ta) (.int dd td) .none .none) 5) ∈ news) (m5 : (l, W.listOf vs.toArray zl) ∈ news) :
    Sp PR w (hd.heap_39 w.params) topProg LO mean mg mb 5 60 (call (.ref 333) [.ref x, .int kv tk]) news (fun _ => True) (RMulP q av dd P n kv cx (.int n tn) news w) := by
  have hq := hc.cv.pr
  obtain ⟨hb1, hb2⟩ := Ed.primes_int hq
  have hab := hc.a_bd
  have hb0 : (0 : Int) < q := by omega
  have hab9 : 0 ≤ av ∧ av ≤ 101 := by omega
  (try unfold PR LO); k_fill; w_top off
  unfold Sp
  intro dp un gd cn cs a ccd cl outer A₀ base h₀ L M s Q E B F X N T hk hd hu hpre hret
  try dsimp only at hpre
  refine wpAny_call ?_
  k_dflt cell_enter
  unfold RMulP RV RPe at hret
  (repeat' (first | (k_unfold; (try dsimp only)) | ((with_reducible show wpAny _ _ (execs (List.cons _ _) _) _ _ (Shared.mk _ _ _ (HAdd.hAdd _ _) _)); (rename Fr _ _ _ _ => Fq); (rename News _ _ _ _ => Nq); refine stm9 Fq Nq ?_; clear Fq Nq; intro tkq mq nq Fq Nq; (try k_fold)) | with_reducible (k_here; (with_reducible show wpAny _ _ (PySem.call (Value.ref 343) _) _ _ _); k_dflt (refine' Sp.use c_mkPE6 ?k1 ?k2 ?k3 ?k4 ?k5 ?k6 ?k7 ?k8 ?k9 ?_; walk_at "use"); unfold RPe; intro z9ᵣ d9ᵣ l9ᵣ k9ᵣ t1ᵣ t2ᵣ t3ᵣ t4ᵣ t5ᵣ u1ᵣ u2ᵣ u3ᵣ u4ᵣ h9ᵣ tk9ᵣ F9ᵣ N9ᵣ l1ᵣ l2ᵣ l3ᵣ l4ᵣ; (try dsimp only); (try k_sweep); (try k_fold)) | with_reducible (k_here; (with_reducible show wpAny _ _ (PySem.call (Value.ref _) _) _ _ _); k_dflt (refine' Sp.use (SpC.meth ?q0 (c_addC ?m0 ?m1 ?q1 ?q2 ?q3 ?q4 ?q5 ?q6 ?q7 ?q8 ?q9 ?qa ?qb)) ?k1 ?k2 ?k3 ?k4 ?k5 ?k6 ?k7 ?k8 ?k9 ?_; walk_at "use"; (case q0 => k_dflt k_mem); (case m0 => k_dflt k_mem); (case m1 => k_dflt k_mem); (case q1 => (first | assumption | exact b101 (by assumption) (by assumption) | exact b101n (by assumption) (by assumption) | exact b101o | omega)); (case q2 => (first | assumption | exact b101 (by assumption) (by assumption) | exact b101n (by assumption) (by assumption) | exact b101o | omega)); (case q3 => (first | assumption | exact b101 (by assumption) (by assumption) | exact b101n (by assumption) (by assumption) | exact b101o | omega)); (case q4 => (first | assumption | exact b101 (by assumption) (by assumption) | exact b101n (by assumption) (by assumption) | exact b101o | omega)); (case q5 => (first | assumption | exact b101 (by assumption) (by assumption) | exact b101n (by assumption) (by assumption) | exact b101o | omega)); (case q6 => (first | assumption | exact b101 (by assumption) (by assumption) | exact b101n (by assumption) (by assumption) | exact b101o | omega)); (case q7 => (first | assumption | exact b101 (by assumption) (by assumption) | exact b101n (by assumption) (by assumption) | exact b101o | omega)); (case q8 => (first | assumption | exact b101 (by assumption) (by assumption) | exact b101n (by assumption) (by assumption) | exact b101o | omega)); (case q9 => (first | assumption | exact b101 (by assumption) (by assumption) | exact b101n (by assumption) (by assumption) | exact b101o | omega)); (case qa => (first | assumption | exact b101 (by assumption) (by assumption) | exact b101n (by assumption) (by assumption) | exact b101o | omega)); (case qb => (first | assumption | exact b101 (by assumption) (by assumption) | exact b101n (by assumption) (by assumption) | exact b101o | omega))); unfold RT4; intro D9ᵣ t1ᵣ t2ᵣ t3ᵣ t4ᵣ h9ᵣ tk9ᵣ F9ᵣ N9ᵣ l1ᵣ; (try dsimp only); (try k_lt l1ᵣ); (try k_sweep); (try k_fold)) | with_reducible (k_here; (with_reducible show wpAny _ _ (exec (Stmt.For (Expr.Tuple _ _ _) (Expr.Attribute _ _ _) _ _ _) _) _ _ _); (rename Fr _ _ _ _ => lF'); k_dflt (refine For_turns lF' ?_)) | with_reducible (k_here; (with_reducible show wpAny _ _ (PySem.call (Value.ref 21) _) _ _ _); k_dflt (refine' Sp.use (c_inv ?q1 ?q2 ?q3 ?q4) ?k1 ?k2 ?k3 ?k4 ?k5 ?k6 ?k7 ?k8 ?k9 ?_; walk_at "use"; (case q1 => assumption); (case q2 => assumption); (case q3 => omega); (case q4 => omega)); unfold RInv; intro i9ᵣ t9ᵣ h9ᵣ tk9ᵣ hi1ᵣ hi2ᵣ hi3ᵣ F9ᵣ N9ᵣ; (try dsimp only); (try k_sweep); (try k_fold)) | with_reducible (k_here; (with_reducible show wpAny _ _ (PySem.call (Value.ref 71) _) _ _ _); k_dflt (refine' Sp.use (c_ed_a ?q1 ?q2 ?q3) ?k1 ?k2 ?k3 ?k4 ?k5 ?k6 ?k7 ?k8 ?k9 ?_; walk_at "use"; (case q2 => k_dflt k_mem); (case q3 => k_dflt k_mem); (case q1 => k_dflt (exact ⟨rfl, rfl, rfl⟩))); unfold RV; intro h9ᵣ tk9ᵣ F9ᵣ N9ᵣ; (try dsimp only); (try k_sweep); (try k_fold)) | with_reducible (k_here; (with_reducible show wpAny _ _ (PySem.call (Value.ref 64) _) _ _ _); k_dflt (refine' Sp.use (c_ed_p ?q1 ?q2 ?q3) ?k1 ?k2 ?k3 ?k4 ?k5 ?k6 ?k7 ?k8 ?k9 ?_; walk_at "use"; (case q2 => k_dflt k_mem); (case q3 => k_dflt k_mem); (case q1 => k_dflt (exact ⟨rfl, rfl, rfl⟩))); unfold RV; intro h9ᵣ tk9ᵣ F9ᵣ N9ᵣ; (try dsimp only); (try k_sweep); (try k_fold)) | with_reducible (k_here; (with_reducible show wpAny _ _ (call (Value.builtin "len") [Value.ref _]) _ _ _); k_dflt (refine' kst_len ?q1 ?q2 ?q3 ?q4 ?_; (case q1 => k_asm); (case q2 => k_mem); (case q3 => assumption); (case q4 => omega))) | with_reducible (k_here; (with_reducible show wpAny _ _ (exec (Stmt.For _ _ _ _ _) _) _ _ _); (rename Fr _ _ _ _ => lF'); (with_unfolding_all refine' For_invVF lF' ?k1 ?k2 ?_; (case k1 => exact rfl); (case k2 => exact rfl); k_whole)) | with_reducible (k_here; (with_reducible show wpAny _ _ (subscriptTail _ _ (Value.ref _) (Value.int _ _)) _ _ _); k_dflt (refine' item_tupleT ?t ?a ?b ?c ?d ?_; (case t => exact News.isTup (by k_asm) (by k_mem)); (case a => decide); (case b => decide); (case c => rfl); (case d => rfl); k_whole)) | with_reducible (k_here; (with_reducible show wpAny _ _ (PySem.pyIter (Value.ref _)) _ _ _); refine Stop.of ?_) | walk1 | (dsimp only; walk1) | fail "no step"))
  refine Stop.to ?_
  (rename News _ _ _ ((_, methodObj _ _) :: _) => N0)
  have hp0 : (1 : Int) ≤ 2 ^ (vs.length - 1) := by
    have := Nat.one_le_two_pow (n := vs.length - 1)
    have e : ((2 ^ (vs.length - 1) : Nat) : Int) = 2 ^ (vs.length - 1) := by simp
    omega
  k_dflt (refine' lt_listD (σ := PreC) (x := Str.ofString "X2") (fun c => [(Str.ofString "X3", Value.int c.X c.t1), (Str.ofString "Y3", Value.int c.Y c.t2), (Str.ofString "Z3", Value.int c.Z c.t3), (Str.ofString "T3", Value.int c.T c.t4), (Str.ofString "other", Value.int c.o c.t5)]) (PreI q av dd P n kv vs.length) [Str.ofString "X3", Str.ofString "Y3", Str.ofString "Z3", Str.ofString "T3", Str.ofString "other", Str.ofString "X2", Str.ofString "Y2", Str.ofString "T2", Str.ofString "rem"] ⟨0, _, 1, _, 1, _, 0, _, kv, _⟩ ?zx ?zh ?zm (by k_asm) N0 (by walk_at "ps") ?zi ?zt ?zd)
  (case zx => rfl)
  (case zh => exact rfl)
  (case zm => repeat (first | exact m5 | apply List.mem_cons_of_mem))
  (case zi => exact ⟨by dsimp only; rw [Int.pow_zero, Int.mul_one, Int.sub_self]; exact Ed.rp_zero hc, by dsimp only; omega, by dsimp only; omega, by dsimp only; omega, fun _ => by dsimp only; rw [Nat.sub_zero]; exact hkm, fun h => by omega⟩)
  (case zt =>
    rintro I i v ⟨X, t1, Y, t2, Z, t3, T, t4, o, t5⟩ u h tk it hv ⟨hI1, ⟨hI2, hI3, hI4, hI5⟩, hI6, hI7, hI8, hI9⟩ hne' F1 N1
    dsimp only at hI1 hI2 hI3 hI4 hI5 hI6 hI7 hI8 hI9 F1
    have hi : i < vs.length := (List.getElem?_eq_some_iff.mp hv).1
    obtain ⟨r, tx, ty, tt, rfl, hmr⟩ := ht i v hv
    have hzin := Ed.zM_in hc (2 ^ i)
    unfold Ed.InB at hzin
    have hzr := Ed.rp_scaled hc (2 ^ i)
    generalize (Ed.zM q av dd P n (2 ^ i)).1 = ex at *
    generalize (Ed.zM q av dd P n (2 ^ i)).2 = ey at *
    have hft := Ed.fm_bd (show (0 : Int) < q by omega) (ex * ey)
    generalize (ex * ey).fmod q = et at *
    have f4 : o.fmod 4 = o % 4 := Int.fmod_eq_emod_of_nonneg _ (by omega)
    have fd : ∀ y : Int, y.fdiv 2 = y / 2 := fun y => Int.fdiv_eq_ediv_of_nonneg _ (by omega)
    (repeat' (first | (k_unfold; (try dsimp only)) | ((with_reducible show wpAny _ _ (execs (List.cons _ _) _) _ _ (Shared.mk _ _ _ (HAdd.hAdd _ _) _)); (rename Fr _ _ _ _ => Fq); (rename News _ _ _ _ => Nq); refine stm9 Fq Nq ?_; clear Fq Nq; intro tkq mq nq Fq Nq; (try k_fold)) | with_reducible (k_here; (with_reducible show wpAny _ _ (PySem.call (Value.ref 343) _) _ _ _); k_dflt (refine' Sp.use c_mkPE6 ?k1 ?k2 ?k3 ?k4 ?k5 ?k6 ?k7 ?k8 ?k9 ?_; walk_at "use"); unfold RPe; intro z9ᵣ d9ᵣ l9ᵣ k9ᵣ t1ᵣ t2ᵣ t3ᵣ t4ᵣ t5ᵣ u1ᵣ u2ᵣ u3ᵣ u4ᵣ h9ᵣ tk9ᵣ F9ᵣ N9ᵣ l1ᵣ l2ᵣ l3ᵣ l4ᵣ; (try dsimp only); (try k_sweep); (try k_fold)) | with_reducible (k_here; (with_reducible show wpAny _ _ (PySem.call (Value.ref _) _) _ _ _); k_dflt (refine' Sp.use (SpC.meth ?q0 (c_addC ?m0 ?m1 ?q1 ?q2 ?q3 ?q4 ?q5 ?q6 ?q7 ?q8 ?q9 ?qa ?qb)) ?k1 ?k2 ?k3 ?k4 ?k5 ?k6 ?k7 ?k8 ?k9 ?_; walk_at "use"; (case q0 => k_dflt k_mem); (case m0 => k_dflt k_mem); (case m1 => k_dflt k_mem); (case q1 => (first | assumption | exact b101 (by assumption) (by assumption) | exact b101n (by assumption) (by assumption) | exact b101o | omega)); (case q2 => (first | assumption | exact b101 (by assumption) (by assumption) | exact b101n (by assumption) (by assumption) | exact b101o | omega)); (case q3 => (first | assumption | exact b101 (by assumption) (by assumption) | exact b101n (by assumption) (by assumption) | exact b101o | omega)); (case q4 => (first | assumption | exact b101 (by assumption) (by assumption) | exact b101n (by assumption) (by assumption) | exact b101o | omega)); (case q5 => (first | assumption | exact b101 (by assumption) (by assumption) | exact b101n (by assumption) (by assumption) | exact b101o | omega)); (case q6 => (first | assumption | exact b101 (by assumption) (by assumption) | exact b101n (by assumption) (by assumption) | exact b101o | omega)); (case q7 => (first | assumption | exact b101 (by assumption) (by assumption) | exact b101n (by assumption) (by assumption) | exact b101o | omega)); (case q8 => (first | assumption | exact b101 (by assumption) (by assumption) | exact b101n (by assumption) (by assumption) | exact b101o | omega)); (case q9 => (first | assumption | exact b101 (by assumption) (by assumption) | exact b101n (by assumption) (by assumption) | exact b101o | omega)); (case qa => (first | assumption | exact b101 (by assumption) (by assumption) | exact b101n (by assumption) (by assumption) | exact b101o | omega)); (case qb => (first | assumption | exact b101 (by assumption) (by assumption) | exact b101n (by assumption) (by assumption) | exact b101o | omega))); unfold RT4; intro D9ᵣ t1ᵣ t2ᵣ t3ᵣ t4ᵣ h9ᵣ tk9ᵣ F9ᵣ N9ᵣ l1ᵣ; (try dsimp only); (try k_lt l1ᵣ); (try k_sweep); (try k_fold)) | with_reducible (k_here; (with_reducible show wpAny _ _ (exec (Stmt.For (Expr.Tuple _ _ _) (Expr.Attribute _ _ _) _ _ _) _) _ _ _); (rename Fr _ _ _ _ => lF'); k_dflt (refine For_turns lF' ?_)) | with_reducible (k_here; (with_reducible show wpAny _ _ (PySem.call (Value.ref 21) _) _ _ _); k_dflt (refine' Sp.use (c_inv ?q1 ?q2 ?q3 ?q4) ?k1 ?k2 ?k3 ?k4 ?k5 ?k6 ?k7 ?k8 ?k9 ?_; walk_at "use"; (case q1 => assumption); (case q2 => assumption); (case q3 => omega); (case q4 => omega)); unfold RInv; intro i9ᵣ t9ᵣ h9ᵣ tk9ᵣ hi1ᵣ hi2ᵣ hi3ᵣ F9ᵣ N9ᵣ; (try dsimp only); (try k_sweep); (try k_fold)) | with_reducible (k_here; (with_reducible show wpAny _ _ (PySem.call (Value.ref 71) _) _ _ _); k_dflt (refine' Sp.use (c_ed_a ?q1 ?q2 ?q3) ?k1 ?k2 ?k3 ?k4 ?k5 ?k6 ?k7 ?k8 ?k9 ?_; walk_at "use"; (case q2 => k_dflt k_mem); (case q3 => k_dflt k_mem); (case q1 => k_dflt (exact ⟨rfl, rfl, rfl⟩))); unfold RV; intro h9ᵣ tk9ᵣ F9ᵣ N9ᵣ; (try dsimp only); (try k_sweep); (try k_fold)) | with_reducible (k_here; (with_reducible show wpAny _ _ (PySem.call (Value.ref 64) _) _ _ _); k_dflt (refine' Sp.use (c_ed_p ?q1 ?q2 ?q3) ?k1 ?k2 ?k3 ?k4 ?k5 ?k6 ?k7 ?k8 ?k9 ?_; walk_at "use"; (case q2 => k_dflt k_mem); (case q3 => k_dflt k_mem); (case q1 => k_dflt (exact ⟨rfl, rfl, rfl⟩))); unfold RV; intro h9ᵣ tk9ᵣ F9ᵣ N9ᵣ; (try dsimp only); (try k_sweep); (try k_fold)) | with_reducible (k_here; (with_reducible show wpAny _ _ (call (Value.builtin "len") [Value.ref _]) _ _ _); k_dflt (refine' kst_len ?q1 ?q2 ?q3 ?q4 ?_; (case q1 => k_asm); (case q2 => k_mem); (case q3 => assumption); (case q4 => omega))) | with_reducible (k_here; (with_reducible show wpAny _ _ (exec (Stmt.For _ _ _ _ _) _) _ _ _); (rename Fr _ _ _ _ => lF'); (with_unfolding_all refine' For_invVF lF' ?k1 ?k2 ?_; (case k1 => exact rfl); (case k2 => exact rfl); k_whole)) | with_reducible (k_here; (with_reducible show wpAny _ _ (subscriptTail _ _ (Value.ref _) (Value.int _ _)) _ _ _); k_dflt (refine' item_tupleT ?t ?a ?b ?c ?d ?_; (case t => exact News.isTup (by k_asm) (by k_mem)); (case a => decide); (case b => decide); (case c => rfl); (case d => rfl); k_whole)) | with_reducible (k_here; (with_reducible show wpAny _ _ (PySem.pyIter (Value.ref _)) _ _ _); refine Stop.of ?_) | walk1 | (dsimp only; walk1) | fail "no step"))
    · have hx := pre_next (k := kv) (o := o) (o' := o.fdiv 2) (x := 0) hi hI6 hI7 hI8 (by rw [fd]; omega) (by omega)
      refine lp_end ⟨_, _, _, _, _, _, _, _, o.fdiv 2, _⟩ (by k_asm) (by k_asm) (fun p hp => by repeat (first | exact hp | apply List.mem_cons_of_mem)) (by k_dflt k_mem) hne' (by walk_at "ps") (by walk_at "same") ⟨?_, ⟨hI2, hI3, hI4, hI5⟩, hx.2⟩
      dsimp only
      rw [hx.1, Int.zero_mul, Int.add_zero]
      exact hI1
    · have hx := pre_next (k := kv) (o := o) (o' := o.fdiv 2) (x := 0) hi hI6 hI7 hI8 (by rw [fd]; omega) (by omega)
      refine lp_end ⟨_, _, _, _, _, _, _, _, o.fdiv 2, _⟩ (by k_asm) (by k_asm) (fun p hp => by repeat (first | exact hp | apply List.mem_cons_of_mem)) (by k_dflt k_mem) hne' (by walk_at "ps") (by walk_at "same") ⟨?_, ⟨hI2, hI3, hI4, hI5⟩, hx.2⟩
      dsimp only
      rw [hx.1, Int.zero_mul, Int.add_zero]
      exact hI1
    · have hx := pre_next (k := kv) (o := o) (o' := (o + 1).fdiv 2) (x := -1) hi hI6 hI7 hI8 (by rw [fd]; omega) (by omega)
      have hA := Ed.rp_add hc hI1 (Ed.rp_neg hc hzr) rfl
      have hAi : Ed.In4 q (Ed.zadd q av X Y Z T (-ex) ey 1 (-et)) := Ed.zadd_in (by omega)
      refine lp_end ⟨_, _, _, _, _, _, _, _, (o + 1).fdiv 2, _⟩ (by k_asm) (by k_asm) (fun p hp => by repeat (first | exact hp | apply List.mem_cons_of_mem)) (by k_dflt k_mem) hne' (by walk_at "ps") (by walk_at "same") ⟨?_, hAi, hx.2⟩
      dsimp only
      rw [hx.1, Int.neg_mul, Int.one_mul]
      exact hA
    · have hx := pre_next (k := kv) (o := o) (o' := (o - 1).fdiv 2) (x := 1) hi hI6 hI7 hI8 (by rw [fd]; omega) (by omega)
      have hA := Ed.rp_add hc hI1 hzr rfl
      have hAi : Ed.In4 q (Ed.zadd q av X Y Z T ex ey 1 et) := Ed.zadd_in (by omega)
      refine lp_end ⟨_, _, _, _, _, _, _, _, (o - 1).fdiv 2, _⟩ (by k_asm) (by k_asm) (fun p hp => by repeat (first | exact hp | apply List.mem_cons_of_mem)) (by k_dflt k_mem) hne' (by walk_at "ps") (by walk_at "same") ⟨?_, hAi, hx.2⟩
      dsimp only
      rw [hx.1, Int.one_mul]
      exact hA
    · exfalso; omega)
  (case zd =>
    rintro ⟨X, t1, Y, t2, Z, t3, T, t4, o, t5⟩ u h tk ⟨hI1, ⟨hI2, hI3, hI4, hI5⟩, hI6, hI7, hI8, hI9⟩ F1 N1
    dsimp only at hI1 hI2 hI3 hI4 hI5 hI6 hI7 hI8 hI9 F1
    have ho := hI9 (Nat.le_refl _)
    rw [ho, Int.zero_mul, Int.sub_zero] at hI1
    have hnul := Ed.rp_null0 hc hI1 hI2 hI5
    (repeat' (first | (k_unfold; (try dsimp only)) | ((with_reducible show wpAny _ _ (execs (List.cons _ _) _) _ _ (Shared.mk _ _ _ (HAdd.hAdd _ _) _)); (rename Fr _ _ _ _ => Fq); (rename News _ _ _ _ => Nq); refine stm9 Fq Nq ?_; clear Fq Nq; intro tkq mq nq Fq Nq; (try k_fold)) | with_reducible (k_here; (with_reducible show wpAny _ _ (PySem.call (Value.ref 343) _) _ _ _); k_dflt (refine' Sp.use c_mkPE6 ?k1 ?k2 ?k3 ?k4 ?k5 ?k6 ?k7 ?k8 ?k9 ?_; walk_at "use"); unfold RPe; intro z9ᵣ d9ᵣ l9ᵣ k9ᵣ t1ᵣ t2ᵣ t3ᵣ t4ᵣ t5ᵣ u1ᵣ u2ᵣ u3ᵣ u4ᵣ h9ᵣ tk9ᵣ F9ᵣ N9ᵣ l1ᵣ l2ᵣ l3ᵣ l4ᵣ; (try dsimp only); (try k_sweep); (try k_fold)) | with_reducible (k_here; (with_reducible show wpAny _ _ (PySem.call (Value.ref _) _) _ _ _); k_dflt (refine' Sp.use (SpC.meth ?q0 (c_addC ?m0 ?m1 ?q1 ?q2 ?q3 ?q4 ?q5 ?q6 ?q7 ?q8 ?q9 ?qa ?qb)) ?k1 ?k2 ?k3 ?k4 ?k5 ?k6 ?k7 ?k8 ?k9 ?_; walk_at "use"; (case q0 => k_dflt k_mem); (case m0 => k_dflt k_mem); (case m1 => k_dflt k_mem); (case q1 => (first | assumption | exact b101 (by assumption) (by assumption) | exact b101n (by assumption) (by assumption) | exact b101o | omega)); (case q2 => (first | assumption | exact b101 (by assumption) (by assumption) | exact b101n (by assumption) (by assumption) | exact b101o | omega)); (case q3 => (first | assumption | exact b101 (by assumption) (by assumption) | exact b101n (by assumption) (by assumption) | exact b101o | omega)); (case q4 => (first | assumption | exact b101 (by assumption) (by assumption) | exact b101n (by assumption) (by assumption) | exact b101o | omega)); (case q5 => (first | assumption | exact b101 (by assumption) (by assumption) | exact b101n (by assumption) (by assumption) | exact b101o | omega)); (case q6 => (first | assumption | exact b101 (by assumption) (by assumption) | exact b101n (by assumption) (by assumption) | exact b101o | omega)); (case q7 => (first | assumption | exact b101 (by assumption) (by assumption) | exact b101n (by assumption) (by assumption) | exact b101o | omega)); (case q8 => (first | assumption | exact b101 (by assumption) (by assumption) | exact b101n (by assumption) (by assumption) | exact b101o | omega)); (case q9 => (first | assumption | exact b101 (by assumption) (by assumption) | exact b101n (by assumption) (by assumption) | exact b101o | omega)); (case qa => (first | assumption | exact b101 (by assumption) (by assumption) | exact b101n (by assumption) (by assumption) | exact b101o | omega)); (case qb => (first | assumption | exact b101 (by assumption) (by assumption) | exact b101n (by assumption) (by assumption) | exact b101o | omega))); unfold RT4; intro D9ᵣ t1ᵣ t2ᵣ t3ᵣ t4ᵣ h9ᵣ tk9ᵣ F9ᵣ N9ᵣ l1ᵣ; (try dsimp only); (try k_lt l1ᵣ); (try k_sweep); (try k_fold)) | with_reducible (k_here; (with_reducible show wpAny _ _ (exec (Stmt.For (Expr.Tuple _ _ _) (Expr.Attribute _ _ _) _ _ _) _) _ _ _); (rename Fr _ _ _ _ => lF'); k_dflt (refine For_turns lF' ?_)) | with_reducible (k_here; (with_reducible show wpAny _ _ (PySem.call (Value.ref 21) _) _ _ _); k_dflt (refine' Sp.use (c_inv ?q1 ?q2 ?q3 ?q4) ?k1 ?k2 ?k3 ?k4 ?k5 ?k6 ?k7 ?k8 ?k9 ?_; walk_at "use"; (case q1 => assumption); (case q2 => assumption); (case q3 => omega); (case q4 => omega)); unfold RInv; intro i9ᵣ t9ᵣ h9ᵣ tk9ᵣ hi1ᵣ hi2ᵣ hi3ᵣ F9ᵣ N9ᵣ; (try dsimp only); (try k_sweep); (try k_fold)) | with_reducible (k_here; (with_reducible show wpAny _ _ (PySem.call (Value.ref 71) _) _ _ _); k_dflt (refine' Sp.use (c_ed_a ?q1 ?q2 ?q3) ?k1 ?k2 ?k3 ?k4 ?k5 ?k6 ?k7 ?k8 ?k9 ?_; walk_at "use"; (case q2 => k_dflt k_mem); (case q3 => k_dflt k_mem); (case q1 => k_dflt (exact ⟨rfl, rfl, rfl⟩))); unfold RV; intro h9ᵣ tk9ᵣ F9ᵣ N9ᵣ; (try dsimp only); (try k_sweep); (try k_fold)) | with_reducible (k_here; (with_reducible show wpAny _ _ (PySem.call (Value.ref 64) _) _ _ _); k_dflt (refine' Sp.use (c_ed_p ?q1 ?q2 ?q3) ?k1 ?k2 ?k3 ?k4 ?k5 ?k6 ?k7 ?k8 ?k9 ?_; walk_at "use"; (case q2 => k_dflt k_mem); (case q3 => k_dflt k_mem); (case q1 => k_dflt (exact ⟨rfl, rfl, rfl⟩))); unfold RV; intro h9ᵣ tk9ᵣ F9ᵣ N9ᵣ; (try dsimp only); (try k_sweep); (try k_fold)) | with_reducible (k_here; (with_reducible show wpAny _ _ (call (Value.builtin "len") [Value.ref _]) _ _ _); k_dflt (refine' kst_len ?q1 ?q2 ?q3 ?q4 ?_; (case q1 => k_asm); (case q2 => k_mem); (case q3 => assumption); (case q4 => omega))) | with_reducible (k_here; (with_reducible show wpAny _ _ (exec (Stmt.For _ _ _ _ _) _) _ _ _); (rename Fr _ _ _ _ => lF'); (with_unfolding_all refine' For_invVF lF' ?k1 ?k2 ?_; (case k1 => exact rfl); (case k2 => exact rfl); k_whole)) | with_reducible (k_here; (with_reducible show wpAny _ _ (subscriptTail _ _ (Value.ref _) (Value.int _ _)) _ _ _); k_dflt (refine' item_tupleT ?t ?a ?b ?c ?d ?_; (case t => exact News.isTup (by k_asm) (by k_mem)); (case a => decide); (case b => decide); (case c => rfl); (case d => rfl); k_whole)) | with_reducible (k_here; (with_reducible show wpAny _ _ (PySem.pyIter (Value.ref _)) _ _ _); refine Stop.of ?_) | walk1 | (dsimp only; walk1) | fail "no step"))
    · (rename (∀ (q : Addr × Obj), q ∈ _ → q.1 < _) => l9)
      exact hret.2 (fun e => by have := hnul.mpr e; omega) X Y Z T hI1 hI2 hI3 hI4 hI5 _ _ _ _ _ _ _ _ _ _ _ _ _ _ _ (by k_asm) (by (exact cb_drop (by assumption) (List.forall_mem_cons.mpr ⟨.head _, List.forall_mem_cons.mpr ⟨.tail _ (.head _), List.forall_mem_cons.mpr ⟨.tail _ (.tail _ (.head _)), List.forall_mem_cons.mpr ⟨.tail _ (.tail _ (.tail _ (.head _))), fun q hq => by repeat (first | exact hq | apply List.mem_cons_of_mem)⟩⟩⟩⟩))) (fun q hq => l9 q (by repeat (first | exact hq | apply List.mem_cons_of_mem))) (by assumption) (by assumption) (by assumption)
    · exact hret.1 (hnul.mp (by omega)) _ _ (by k_asm) (by (exact cb_drop (by assumption) fun q hq => by repeat (first | exact hq | apply List.mem_cons_of_mem)))
    · exact hret.1 (hnul.mp (by omega)) _ _ (by k_asm) (by (exact cb_drop (by assumption) fun q hq => by repeat (first | exact hq | apply List.mem_cons_of_mem))))
end
-- L05g
section
variable {w : World} {mean : ExcName → Option Value} {mg mb : Str → Option Value}
theorem c_maybeF {news : List (Addr × Obj)} {x d cx k l : Addr} {s1 s2 s3 s4 s5 : Tok} {o : Value} {z : Nat} {vs : List Value} (hv : vs.isEmpty = false) (hz : vs.length ≤ 1000) (ho : handedIn o = true)
    (m0 : (x, instObj 343 d) ∈ news) (m1 : (d, dictOf (peE w s1 s2 s3 s4 s5 (.ref cx) (.ref k) o (.bool true) (.ref l)) 5) ∈ news) (m5 : (l, W.listOf vs.toArray z) ∈ news) :
    Sp PR w (hd.heap_39 w.params) topProg LO mean mg mb 1 8 (call (.ref 235) [.ref x]) news (fun _ => True) (RV (.ref l) news) := by
  (try unfold PR LO); k_fill; w_top off
  unfold Sp
  intro dp un gd cn cs a ccd cl outer A₀ base h₀ L M s Q E B F X N T hk hd hu hpre hret
  try dsimp only at hpre
  refine wpAny_call ?_
  k_dflt cell_enter
  unfold RV at hret
  (repeat' (first | (k_unfold; (try dsimp only)) | ((with_reducible show wpAny _ _ (execs (List.cons _ _) _) _ _ (Shared.mk _ _ _ (HAdd.hAdd _ _) _)); (rename Fr _ _ _ _ => Fq); refine stm8 Fq ?_; clear Fq; intro tkq mq Fq; (try k_fold)) | with_reducible (k_here; (with_reducible show wpAny _ _ (PySem.truthy (Value.ref _)) _ _ _); k_dflt (refine' truthy_L true ?q1 ?q2 ?q3 ?q4 ?_; (case q1 => k_asm); (case q2 => k_mem); (case q3 => omega); (case q4 => (show _ = false); assumption))) | with_reducible (k_here; (with_reducible show wpAny _ _ (PySem.call (Value.ref 21) _) _ _ _); k_dflt (refine' Sp.use (c_inv ?q1 ?q2 ?q3 ?q4) ?k1 ?k2 ?k3 ?k4 ?k5 ?k6 ?k7 ?k8 ?k9 ?_; walk_at "use"; (case q1 => assumption); (case q2 => assumption); (case q3 => omega); (case q4 => omega)); unfold RInv; intro i9ᵣ t9ᵣ h9ᵣ tk9ᵣ hi1ᵣ hi2ᵣ hi3ᵣ F9ᵣ N9ᵣ; (try dsimp only); (try k_sweep); (try k_fold)) | with_reducible (k_here; (with_reducible show wpAny _ _ (PySem.call (Value.ref 71) _) _ _ _); k_dflt (refine' Sp.use (c_ed_a ?q1 ?q2 ?q3) ?k1 ?k2 ?k3 ?k4 ?k5 ?k6 ?k7 ?k8 ?k9 ?_; walk_at "use"; (case q2 => k_dflt k_mem); (case q3 => k_dflt k_mem); (case q1 => k_dflt (exact ⟨rfl, rfl, rfl⟩))); unfold RV; intro h9ᵣ tk9ᵣ F9ᵣ N9ᵣ; (try dsimp only); (try k_sweep); (try k_fold)) | with_reducible (k_here; (with_reducible show wpAny _ _ (PySem.call (Value.ref 64) _) _ _ _); k_dflt (refine' Sp.use (c_ed_p ?q1 ?q2 ?q3) ?k1 ?k2 ?k3 ?k4 ?k5 ?k6 ?k7 ?k8 ?k9 ?_; walk_at "use"; (case q2 => k_dflt k_mem); (case q3 => k_dflt k_mem); (case q1 => k_dflt (exact ⟨rfl, rfl, rfl⟩))); unfold RV; intro h9ᵣ tk9ᵣ F9ᵣ N9ᵣ; (try dsimp only); (try k_sweep); (try k_fold)) | with_reducible (k_here; (with_reducible show wpAny _ _ (call (Value.builtin "len") [Value.ref _]) _ _ _); k_dflt (refine' kst_len ?q1 ?q2 ?q3 ?q4 ?_; (case q1 => k_asm); (case q2 => k_mem); (case q3 => assumption); (case q4 => omega))) | with_reducible (k_here; (with_reducible show wpAny _ _ (exec (Stmt.For _ _ _ _ _) _) _ _ _); (rename Fr _ _ _ _ => lF'); (with_unfolding_all refine' For_invVF lF' ?k1 ?k2 ?_; (case k1 => exact rfl); (case k2 => exact rfl); k_whole)) | with_reducible (k_here; (with_reducible show wpAny _ _ (subscriptTail _ _ (Value.ref _) (Value.int _ _)) _ _ _); k_dflt (refine' item_tupleT ?t ?a ?b ?c ?d ?_; (case t => exact News.isTup (by k_asm) (by k_mem)); (case a => decide); (case b => decide); (case c => rfl); (case d => rfl); k_whole)) | with_reducible (k_here; (with_reducible show wpAny _ _ (PySem.pyIter (Value.ref _)) _ _ _); refine Stop.of ?_) | walk1 | (dsimp only; walk1) | fail "no step"))
  exact hret _ _ (by assumption) (by assumption)
end
-- L05h
section
/-- entries brought to the front of a ledger -/
theorem frontN {G : Prop} {h₀ h : Heap} {L : Addr} {led : List (Addr × Obj)} (as : List (Addr × Obj)) (N : News h₀ L h led) (has : ∀ p ∈ as, p ∈ led)
    (k : ∀ led', News h₀ L h (as ++ led') → (∀ a ∈ as, ∀ p ∈ led', p.1 ≠ a.1) → (∀ p ∈ led', p ∈ led) → (∀ p ∈ led, (∀ a ∈ as, p.1 ≠ a.1) → p ∈ led') → (∀ p ∈ led, (∀ a ∈ as, p.2.cls ≠ a.2.cls) → p ∈ led') → G) : G := by
  have mk : ∀ p ∈ led, (∀ a ∈ as, p.1 ≠ a.1) → p ∈ led.filter fun q => as.all fun a => q.1 != a.1 := fun p hp h => List.mem_filter.mpr ⟨hp, by simp only [List.all_eq_true, bne_iff_ne]; exact h⟩
  have out : ∀ p ∈ led.filter (fun q => as.all fun a => q.1 != a.1), p ∈ led ∧ ∀ a ∈ as, p.1 ≠ a.1 := fun p hp => by
    have h := List.mem_filter.mp hp
    simp only [List.all_eq_true, bne_iff_ne] at h
    exact h
  refine k (led.filter fun q => as.all fun a => q.1 != a.1) (fun p hp => ?_) (fun a ha p hp => (out p hp).2 a ha) (fun p hp => (out p hp).1) mk (fun p hp hc => mk p hp fun a ha e => hc a ha (congrArg Obj.cls ?_))
  · rcases List.mem_append.mp hp with h | h
    · exact N _ (has p h)
    · exact N _ (out p h).1
  · have h1 := (N p hp).1
    have h2 := (N a (has a ha)).1
    rw [e] at h1
    exact Option.some.inj (h1.symm.trans h2)
theorem TabAre5.snoc {q : Nat} {a dd : Int} {P : Int × Int} {n : Nat} {led : List (Addr × Obj)} {vs : List Value} {r : Addr} {t u x : Tok} (h : TabAre5 q a dd P n led vs) (hm : (r, tup3 (Ed.zM q a dd P n (2 ^ vs.length)).1 t (Ed.zM q a dd P n (2 ^ vs.length)).2 u (((Ed.zM q a dd P n (2 ^ vs.length)).1 * (Ed.zM q a dd P n (2 ^ vs.length)).2).fmod q) x) ∈ led) : TabAre5 q a dd P n led (vs ++ [.ref r]) := fun i v hv => by
  by_cases hi : i < vs.length
  · rw [List.getElem?_append_left hi] at hv
    exact h i v hv
  · have h2 := (List.getElem?_eq_some_iff.mp hv).1
    simp only [List.length_append, List.length_cons, List.length_nil] at h2
    have e : i = vs.length := by omega
    subst e
    rw [List.getElem?_append_right (Nat.le_refl _)] at hv
    simp at hv
    exact ⟨r, t, u, x, hv.symm, hm⟩
theorem TabAre5.snoc2 {q : Nat} {a dd : Int} {P : Int × Int} {n : Nat} {led : List (Addr × Obj)} {vs : List Value} {r : Addr} {t u x : Tok} {i : Int} (h : TabAre5 q a dd P n led vs) (e : i = 2 ^ vs.length) (hm : (r, tup3 (Ed.zM q a dd P n i).1 t (Ed.zM q a dd P n i).2 u (((Ed.zM q a dd P n i).1 * (Ed.zM q a dd P n i).2).fmod q) x) ∈ led) : TabAre5 q a dd P n led (vs ++ [.ref r]) := by
  subst e; exact h.snoc hm
theorem withAddrH {G : Prop} {h₀ h : Heap} {L a : Addr} {oa : Obj} {led : List (Addr × Obj)} (_N : News h₀ L h ((a, oa) :: led)) (k : ∀ x, x = a → G) : G := k a rfl
theorem pow2_mod {q : Nat} {a d : Int} {P : Int × Int} {n : Nat} (hc : Ed.Cx q a d P n) : ∀ k : Nat, (2 : Int) ^ k % (n : Int) ≠ 0
  | 0 => by
    have := hc.big
    rw [Int.pow_zero, Int.emod_eq_of_lt (by omega) (by omega)]; omega
  | k + 1 => by
    rw [Int.pow_succ, Int.mul_comm]
    exact Ed.dbl_mod hc (pow2_mod hc k)
set_option genInjectivity false in
set_option genSizeOf false in
structure MbC where
  zz : Addr
  dd : Addr
  kk : Addr
  ll : Addr
  s1 : Tok
  s2 : Tok
  s3 : Tok
  s4 : Tok
  s5 : Tok
  u1 : Tok
  u2 : Tok
  u3 : Tok
  u4 : Tok
  X : Int
  Y : Int
  Z : Int
  T : Int
  i : Int
  ti : Tok
  vs : List Value
  z : Nat
  led : List (Addr × Obj)
structure MbI (q : Nat) (a dv : Int) (P : Int × Int) (n : Nat) (news : List (Addr × Obj)) (Ld d : Addr) (c : MbC) : Prop where
  hi : c.i = 2 ^ c.vs.length
  hn : c.i ≤ 16 * (n : Int)
  rp : Ed.Rp q a dv P n c.i c.X c.Y c.Z c.T
  hX : 0 ≤ c.X ∧ c.X < q
  hY : 0 ≤ c.Y ∧ c.Y < q
  hZ : 0 ≤ c.Z ∧ c.Z < q
  hT : 0 ≤ c.T ∧ c.T < q
  tab : TabAre5 q a dv P n c.led c.vs
  mz : (c.zz, instObj 343 c.dd) ∈ c.led
  mt : (c.kk, tup4 c.X c.u1 c.Y c.u2 c.Z c.u3 c.T c.u4) ∈ c.led
  sub : ∀ p ∈ news, p ∈ c.led
  nd : ∀ p ∈ c.led, p.1 ≠ c.dd
  nL : ∀ p ∈ c.led, p.1 ≠ Ld
  ns : ∀ p ∈ c.led, p.1 ≠ d
  dL : @Ne Nat c.dd Ld
  ds : @Ne Nat c.dd d
theorem withMb {G : Prop} {w : World} {h₀ h : Heap} {L l9 k9 z9 d9 Ld d cx : Addr} {t1 t2 t3 t4 t5 u1 u2 u3 u4 : Tok} {X Y Z T : Int} {o2 : Value} {SD : Obj} {rest : List (Addr × Obj)}
    (N : News h₀ L h ((l9, W.listOf #[] 0) :: (k9, tup4 X u1 Y u2 Z u3 T u4) :: (z9, instObj 343 d9) :: (d9, dictOf (peE w t1 t2 t3 t4 t5 (.ref cx) (.ref k9) o2 (.bool false) (.ref l9)) 5) :: (Ld, W.listOf #[] 0) :: (d, SD) :: rest))
    (k : ∀ l9' k9' z9' d9' Ld' o2' t1 t2 t3 t4 t5 u1 u2 u3 u4, l9' = l9 → k9' = k9 → z9' = z9 → d9' = d9 → Ld' = Ld → o2' = o2 → News h₀ L h ((d9', dictOf (peE w t1 t2 t3 t4 t5 (.ref cx) (.ref k9') o2' (.bool false) (.ref l9')) 5) :: (Ld', W.listOf #[] 0) :: (d, SD) :: (l9', W.listOf #[] 0) :: (k9', tup4 X u1 Y u2 Z u3 T u4) :: (z9', instObj 343 d9') :: rest) → G) : G :=
  k l9 k9 z9 d9 Ld o2 t1 t2 t3 t4 t5 u1 u2 u3 u4 rfl rfl rfl rfl rfl rfl (cb_drop N (List.forall_mem_cons.mpr ⟨by k_dflt k_mem, List.forall_mem_cons.mpr ⟨by k_dflt k_mem, List.forall_mem_cons.mpr ⟨by k_dflt k_mem, List.forall_mem_cons.mpr ⟨by k_dflt k_mem, List.forall_mem_cons.mpr ⟨by k_dflt k_mem, List.forall_mem_cons.mpr ⟨by k_dflt k_mem, fun p hp => by repeat (first | exact hp | apply List.mem_cons_of_mem)⟩⟩⟩⟩⟩⟩))
abbrev dblD (w : World) (cx : Addr) (o2 : Value) (c : MbC) : Obj := dictOf (peE w c.s1 c.s2 c.s3 c.s4 c.s5 (.ref cx) (.ref c.kk) o2 (.bool false) (.ref c.ll)) 5
variable {w : World} {mean : ExcName → Option Value} {mg mb : Str → Option Value}
def RMaybe (q : Nat) (a dv : Int) (P : Int × Int) (n : Nat) (d cx k : Addr) (s1 s2 s3 s4 s5 : Tok) (o : Value) (news : List (Addr × Obj)) (w : World) (h₀ : Heap) (L : Addr) (m : Str → Option Value) (s : Shared) (Q : Value → Shared → Prop) : Prop :=
  ∀ l' (vs : List Value) z led h' tk', TabAre5 q a dv P n led vs → 1 ≤ vs.length → vs.length ≤ 60 → 2 * (n : Int) ≤ 2 ^ (vs.length - 1) → (l', W.listOf vs.toArray z) ∈ led → (∀ p ∈ news, p ∈ led) → (∀ p ∈ led, p.1 ≠ d) →
    Fr h₀ L h' m → News h₀ L h' ((d, dictOf (peE w s1 s2 s3 s4 s5 (.ref cx) (.ref k) o (.bool true) (.ref l')) 5) :: led) → Q (.ref l') { s with heap := h', toks := tk' }
theorem c_maybe1 {news : List (Addr × Obj)} {x d cx cd k l : Addr} {s1 s2 s3 s4 s5 c1 c2 c3 c4 c5 u1 u2 u3 u4 tp ta td tn : Tok} {q n zl : Nat} {av dv Xv Yv Zv Tv : Int} {P : Int × Int} (hc : Ed.Cx q av dv P n) (hr : Ed.Rp q av dv P n 1 Xv Yv Zv Tv) (hX : 0 ≤ Xv ∧ Xv < q) (hY : 0 ≤ Yv ∧ Yv < q) (hZ : 0 ≤ Zv ∧ Zv < q) (hT : 0 ≤ Tv ∧ Tv < q) (hn9 : n ≤ 1000)
    (l0 : ∀ p ∈ news, p.1 ≠ d) (m0 : (x, instObj 343 d) ∈ news) (m2 : (k, tup4 Xv u1 Yv u2 Zv u3 Tv u4) ∈ news) (m3 : (cx, instObj 88 cd) ∈ news) (m4 : (cd, dictOf (edE w c1 c2 c3 c4 c5 (.int q tp) (.int av ta) (.int dv td) .none .none) 5) ∈ news) (m5 : (l, W.listOf #[] zl) ∈ news) :
    Sp PR w (hd.heap_39 w.params) topProg LO mean mg mb 6 100 (call (.ref 235) [.ref x]) ((d, dictOf (peE w s1 s2 s3 s4 s5 (.ref cx) (.ref k) (.int n tn) (.bool true) (.ref l)) 5) :: news) (fun _ => True) (RMaybe q av dv P n d cx k s1 s2 s3 s4 s5 (.int n tn) news w) := by
  have hq := hc.cv.pr
  obtain ⟨hb1, hb2⟩ := Ed.primes_int hq
  have hab := hc.a_bd
  have hbig : (1 : Int) < n := by have := hc.big; omega
  have hn9' : (n : Int) ≤ 1000 := by omega
  (try unfold PR LO); k_fill; w_top off
  unfold Sp
  intro dp un gd cn cs a ccd cl outer A₀ base h₀ L M s Q E B F X N T hk hd hu hpre hret
  try dsimp only at hpre
  refine wpAny_call ?_
  k_dflt cell_enter
  unfold RMaybe at hret
  (repeat' (first | (k_unfold; (try dsimp only)) | ((with_reducible show wpAny _ _ (execs (List.cons _ _) _) _ _ (Shared.mk _ _ _ (HAdd.hAdd _ _) _)); (rename Fr _ _ _ _ => Fq); refine stm8 Fq ?_; clear Fq; intro tkq mq Fq; (try k_fold)) | with_reducible (k_here; (with_reducible show wpAny _ _ (exec (Stmt.While (Expr.Compare _ _ _ _) _ _ _) _) _ _ _); refine Stop.of ?_) | with_reducible (k_here; (with_reducible show wpAny _ _ (PySem.truthy (Value.ref _)) _ _ _); k_dflt (refine' truthy_L false ?q1 ?q2 ?q3 ?q4 ?_; (case q1 => k_asm); (case q2 => k_mem); (case q3 => exact Nat.le_of_ble_eq_true rfl); (case q4 => rfl))) | with_reducible (k_here; (with_reducible show wpAny _ _ (PySem.call (Value.ref 249) _) _ _ _); k_dflt (refine' Sp.use (c_pe_y ?q1 ?q2 ?q3 ?q4 ?q5 ?q6 ?m0 ?m1 ?m2 ?m3 ?m4 ?q7) ?k1 ?k2 ?k3 ?k4 ?k5 ?k6 ?k7 ?k8 ?k9 ?_; walk_at "use"; (case m0 => k_dflt k_mem); (case m1 => k_dflt k_mem); (case m2 => k_dflt k_mem); (case m3 => k_dflt k_mem); (case m4 => k_dflt k_mem); (case q1 => assumption); (case q2 => assumption); (case q3 => omega); (case q4 => omega); (case q5 => omega); (case q6 => omega); (case q7 => k_dflt (exact ⟨rfl, rfl, rfl⟩))); unfold RInt; intro t9ᵣ h9ᵣ tk9ᵣ F9ᵣ N9ᵣ; (try dsimp only); (try k_sweep); (try k_fold)) | with_reducible (k_here; (with_reducible show wpAny _ _ (PySem.call (Value.ref 242) _) _ _ _); k_dflt (refine' Sp.use (c_pe_x ?q1 ?q2 ?q3 ?q4 ?q5 ?q6 ?m0 ?m1 ?m2 ?m3 ?m4 ?q7) ?k1 ?k2 ?k3 ?k4 ?k5 ?k6 ?k7 ?k8 ?k9 ?_; walk_at "use"; (case m0 => k_dflt k_mem); (case m1 => k_dflt k_mem); (case m2 => k_dflt k_mem); (case m3 => k_dflt k_mem); (case m4 => k_dflt k_mem); (case q1 => assumption); (case q2 => assumption); (case q3 => omega); (case q4 => omega); (case q5 => omega); (case q6 => omega); (case q7 => k_dflt (exact ⟨rfl, rfl, rfl⟩))); unfold RInt; intro t9ᵣ h9ᵣ tk9ᵣ F9ᵣ N9ᵣ; (try dsimp only); (try k_sweep); (try k_fold)) | with_reducible (k_here; (with_reducible show wpAny _ _ (PySem.call (Value.ref 319) _) _ _ _); refine Stop.of ?_) | with_reducible (k_here; (with_reducible show wpAny _ _ (PySem.call (Value.ref 270) _) _ _ _); refine Stop.of ?_) | with_reducible (k_here; (with_reducible show wpAny _ _ (PySem.call (Value.ref 343) _) _ _ _); k_dflt (refine' Sp.use c_mkPE6 ?k1 ?k2 ?k3 ?k4 ?k5 ?k6 ?k7 ?k8 ?k9 ?_; walk_at "use"); unfold RPe; intro z9ᵣ d9ᵣ l9ᵣ k9ᵣ t1ᵣ t2ᵣ t3ᵣ t4ᵣ t5ᵣ u1ᵣ u2ᵣ u3ᵣ u4ᵣ h9ᵣ tk9ᵣ F9ᵣ N9ᵣ l1ᵣ l2ᵣ l3ᵣ l4ᵣ; (try dsimp only); (try k_lt l1ᵣ); (try k_sweep); (try k_fold)) | with_reducible (k_here; (with_reducible show wpAny _ _ (PySem.call (Value.ref 21) _) _ _ _); k_dflt (refine' Sp.use (c_inv ?q1 ?q2 ?q3 ?q4) ?k1 ?k2 ?k3 ?k4 ?k5 ?k6 ?k7 ?k8 ?k9 ?_; walk_at "use"; (case q1 => assumption); (case q2 => assumption); (case q3 => omega); (case q4 => omega)); unfold RInv; intro i9ᵣ t9ᵣ h9ᵣ tk9ᵣ hi1ᵣ hi2ᵣ hi3ᵣ F9ᵣ N9ᵣ; (try dsimp only); (try k_sweep); (try k_fold)) | with_reducible (k_here; (with_reducible show wpAny _ _ (PySem.call (Value.ref 71) _) _ _ _); k_dflt (refine' Sp.use (c_ed_a ?q1 ?q2 ?q3) ?k1 ?k2 ?k3 ?k4 ?k5 ?k6 ?k7 ?k8 ?k9 ?_; walk_at "use"; (case q2 => k_dflt k_mem); (case q3 => k_dflt k_mem); (case q1 => k_dflt (exact ⟨rfl, rfl, rfl⟩))); unfold RV; intro h9ᵣ tk9ᵣ F9ᵣ N9ᵣ; (try dsimp only); (try k_sweep); (try k_fold)) | with_reducible (k_here; (with_reducible show wpAny _ _ (PySem.call (Value.ref 64) _) _ _ _); k_dflt (refine' Sp.use (c_ed_p ?q1 ?q2 ?q3) ?k1 ?k2 ?k3 ?k4 ?k5 ?k6 ?k7 ?k8 ?k9 ?_; walk_at "use"; (case q2 => k_dflt k_mem); (case q3 => k_dflt k_mem); (case q1 => k_dflt (exact ⟨rfl, rfl, rfl⟩))); unfold RV; intro h9ᵣ tk9ᵣ F9ᵣ N9ᵣ; (try dsimp only); (try k_sweep); (try k_fold)) | with_reducible (k_here; (with_reducible show wpAny _ _ (call (Value.builtin "len") [Value.ref _]) _ _ _); k_dflt (refine' kst_len ?q1 ?q2 ?q3 ?q4 ?_; (case q1 => k_asm); (case q2 => k_mem); (case q3 => assumption); (case q4 => omega))) | with_reducible (k_here; (with_reducible show wpAny _ _ (exec (Stmt.For _ _ _ _ _) _) _ _ _); (rename Fr _ _ _ _ => lF'); (with_unfolding_all refine' For_invVF lF' ?k1 ?k2 ?_; (case k1 => exact rfl); (case k2 => exact rfl); k_whole)) | with_reducible (k_here; (with_reducible show wpAny _ _ (subscriptTail _ _ (Value.ref _) (Value.int _ _)) _ _ _); k_dflt (refine' item_tupleT ?t ?a ?b ?c ?d ?_; (case t => exact News.isTup (by k_asm) (by k_mem)); (case a => decide); (case b => decide); (case c => rfl); (case d => rfl); k_whole)) | with_reducible (k_here; (with_reducible show wpAny _ _ (PySem.pyIter (Value.ref _)) _ _ _); refine Stop.of ?_) | walk1 | (dsimp only; walk1) | fail "no step"))
  · refine Stop.to ?_
    (rename News _ _ _ _ => N0)
    (try dsimp only at N0)
    (rename (_ < _ ∧ AllLt _ _) => lL)
    (rename (_ < _ ∧ _ < _ ∧ AllLt _ _) => lD)
    revert lL lD
    refine withMb N0 ?_
    rintro l9 k9 z9 d9 Ld o2 g1 g2 g3 g4 g5 v1 v2 v3 v4 rfl rfl rfl rfl rfl e2 N1 lL lD
    have ho2 : handedIn o2 = true := by rw [e2]; rfl
    have lL' := allLt_all lL.2
    have lD' := allLt_all lD.2.2
    have q2 : @LT.lt Nat _ d9 z9 := by assumption
    have q3 : @LT.lt Nat _ z9 k9 := by assumption
    have q4 : @LT.lt Nat _ k9 l9 := by assumption
    have hs0 : MbI q av dv P n news Ld d ⟨z9, d9, k9, l9, g1, g2, g3, g4, g5, v1, v2, v3, v4, Xv, Yv, Zv, Tv, 1, 0, [], 0, (l9, W.listOf #[] 0) :: (k9, tup4 Xv v1 Yv v2 Zv v3 Tv v4) :: (z9, instObj 343 d9) :: news⟩ :=
      ⟨rfl, by dsimp only; omega, hr, hX, hY, hZ, hT, fun i v h => by simp at h, .tail _ (.tail _ (.head _)), .tail _ (.head _), fun p hp => .tail _ (.tail _ (.tail _ hp)),
        List.forall_mem_cons.mpr ⟨by k_ne, List.forall_mem_cons.mpr ⟨by k_ne, List.forall_mem_cons.mpr ⟨by k_ne, fun p hp => Nat.ne_of_lt (lD' p hp)⟩⟩⟩,
        List.forall_mem_cons.mpr ⟨by k_ne, List.forall_mem_cons.mpr ⟨by k_ne, List.forall_mem_cons.mpr ⟨by k_ne, fun p hp => Nat.ne_of_lt (lL' p hp)⟩⟩⟩,
        List.forall_mem_cons.mpr ⟨by k_ne, List.forall_mem_cons.mpr ⟨by k_ne, List.forall_mem_cons.mpr ⟨by k_ne, l0⟩⟩⟩, by k_ne, by k_ne⟩
    have hLd : @Ne Nat Ld d := by k_ne
    with_unfolding_all refine' ksw_while (σ := MbC) (fun c => (c.dd, dblD w cx o2 c) :: (Ld, W.listOf c.vs.toArray c.z) :: (d, _) :: c.led) (fun c => [(Str.ofString "doubler", Value.ref c.zz), (Str.ofString "i", Value.int c.i c.ti)]) (fun _ => True) [Str.ofString "coord_x", Str.ofString "coord_y", Str.ofString "coord_t"] (MbI q av dv P n news Ld d) (fun c => (8 * (n : Int) - c.i).toNat) ⟨z9, d9, k9, l9, g1, g2, g3, g4, g5, v1, v2, v3, v4, Xv, Yv, Zv, Tv, 1, _, [], 0, (l9, W.listOf #[] 0) :: (k9, tup4 Xv v1 Yv v2 Zv v3 Tv v4) :: (z9, instObj 343 d9) :: news⟩ (hE := ?hE) (by k_asm) N1 trivial (by walk_at "ps") ?hs0 ?wt
    (case hE => first | passes_own | with_unfolding_all passes_own)
    (case hs0 => exact ⟨hs0.hi, hs0.hn, hs0.rp, hs0.hX, hs0.hY, hs0.hZ, hs0.hT, hs0.tab, hs0.mz, hs0.mt, hs0.sub, hs0.nd, hs0.nL, hs0.ns, hs0.dL, hs0.ds⟩)
    clear hs0
    rintro c u' h tk - hI F1 N1
    dsimp only [dblD] at F1 N1
    have hi0 : 1 ≤ c.i := by
      rw [hI.hi]
      have := Nat.one_le_two_pow (n := c.vs.length)
      have e : ((2 ^ c.vs.length : Nat) : Int) = 2 ^ c.vs.length := by simp
      omega
    have hin := hI.hn
    have hX9 := hI.hX
    have hvlen : c.vs.length ≤ 60 := by
      rcases Nat.lt_or_ge 60 c.vs.length with h9 | h9
      · exfalso
        have h1 := Nat.pow_le_pow_right (n := 2) (by omega) h9
        have e : ((2 ^ c.vs.length : Nat) : Int) = 2 ^ c.vs.length := by simp
        rw [← hI.hi] at e
        have e2 : (2 : Nat) ^ (60 + 1) = 2305843009213693952 := by decide
        omega
      · exact h9
    have mz := hI.mz
    have mt := hI.mt
    have dL := hI.dL
    have ds := hI.ds
    have nd1 := hI.nd
    have nL1 := hI.nL
    have ns1 := hI.ns
    have m09 := hI.sub _ m0
    (repeat' (first | (k_unfold; (try dsimp only)) | ((with_reducible show wpAny _ _ (execs (List.cons _ _) _) _ _ (Shared.mk _ _ _ (HAdd.hAdd _ _) _)); (rename Fr _ _ _ _ => Fq); refine stm8 Fq ?_; clear Fq; intro tkq mq Fq; (try k_fold)) | with_reducible (k_here; (with_reducible show wpAny _ _ (exec (Stmt.While (Expr.Compare _ _ _ _) _ _ _) _) _ _ _); refine Stop.of ?_) | with_reducible (k_here; (with_reducible show wpAny _ _ (PySem.truthy (Value.ref _)) _ _ _); k_dflt (refine' truthy_L false ?q1 ?q2 ?q3 ?q4 ?_; (case q1 => k_asm); (case q2 => k_mem); (case q3 => exact Nat.le_of_ble_eq_true rfl); (case q4 => rfl))) | with_reducible (k_here; (with_reducible show wpAny _ _ (PySem.call (Value.ref 249) _) _ _ _); k_dflt (refine' Sp.use (c_pe_y ?q1 ?q2 ?q3 ?q4 ?q5 ?q6 ?m0 ?m1 ?m2 ?m3 ?m4 ?q7) ?k1 ?k2 ?k3 ?k4 ?k5 ?k6 ?k7 ?k8 ?k9 ?_; walk_at "use"; (case m0 => k_dflt k_mem); (case m1 => k_dflt k_mem); (case m2 => k_dflt k_mem); (case m3 => k_dflt k_mem); (case m4 => k_dflt k_mem); (case q1 => assumption); (case q2 => assumption); (case q3 => omega); (case q4 => omega); (case q5 => omega); (case q6 => omega); (case q7 => k_dflt (exact ⟨rfl, rfl, rfl⟩))); unfold RInt; intro t9ᵣ h9ᵣ tk9ᵣ F9ᵣ N9ᵣ; (try dsimp only); (try k_sweep); (try k_fold)) | with_reducible (k_here; (with_reducible show wpAny _ _ (PySem.call (Value.ref 242) _) _ _ _); k_dflt (refine' Sp.use (c_pe_x ?q1 ?q2 ?q3 ?q4 ?q5 ?q6 ?m0 ?m1 ?m2 ?m3 ?m4 ?q7) ?k1 ?k2 ?k3 ?k4 ?k5 ?k6 ?k7 ?k8 ?k9 ?_; walk_at "use"; (case m0 => k_dflt k_mem); (case m1 => k_dflt k_mem); (case m2 => k_dflt k_mem); (case m3 => k_dflt k_mem); (case m4 => k_dflt k_mem); (case q1 => assumption); (case q2 => assumption); (case q3 => omega); (case q4 => omega); (case q5 => omega); (case q6 => omega); (case q7 => k_dflt (exact ⟨rfl, rfl, rfl⟩))); unfold RInt; intro t9ᵣ h9ᵣ tk9ᵣ F9ᵣ N9ᵣ; (try dsimp only); (try k_sweep); (try k_fold)) | with_reducible (k_here; (with_reducible show wpAny _ _ (PySem.call (Value.ref 319) _) _ _ _); refine Stop.of ?_) | with_reducible (k_here; (with_reducible show wpAny _ _ (PySem.call (Value.ref 270) _) _ _ _); refine Stop.of ?_) | with_reducible (k_here; (with_reducible show wpAny _ _ (PySem.call (Value.ref 343) _) _ _ _); k_dflt (refine' Sp.use c_mkPE6 ?k1 ?k2 ?k3 ?k4 ?k5 ?k6 ?k7 ?k8 ?k9 ?_; walk_at "use"); unfold RPe; intro z9ᵣ d9ᵣ l9ᵣ k9ᵣ t1ᵣ t2ᵣ t3ᵣ t4ᵣ t5ᵣ u1ᵣ u2ᵣ u3ᵣ u4ᵣ h9ᵣ tk9ᵣ F9ᵣ N9ᵣ l1ᵣ l2ᵣ l3ᵣ l4ᵣ; (try dsimp only); (try k_lt l1ᵣ); (try k_sweep); (try k_fold)) | with_reducible (k_here; (with_reducible show wpAny _ _ (PySem.call (Value.ref 21) _) _ _ _); k_dflt (refine' Sp.use (c_inv ?q1 ?q2 ?q3 ?q4) ?k1 ?k2 ?k3 ?k4 ?k5 ?k6 ?k7 ?k8 ?k9 ?_; walk_at "use"; (case q1 => assumption); (case q2 => assumption); (case q3 => omega); (case q4 => omega)); unfold RInv; intro i9ᵣ t9ᵣ h9ᵣ tk9ᵣ hi1ᵣ hi2ᵣ hi3ᵣ F9ᵣ N9ᵣ; (try dsimp only); (try k_sweep); (try k_fold)) | with_reducible (k_here; (with_reducible show wpAny _ _ (PySem.call (Value.ref 71) _) _ _ _); k_dflt (refine' Sp.use (c_ed_a ?q1 ?q2 ?q3) ?k1 ?k2 ?k3 ?k4 ?k5 ?k6 ?k7 ?k8 ?k9 ?_; walk_at "use"; (case q2 => k_dflt k_mem); (case q3 => k_dflt k_mem); (case q1 => k_dflt (exact ⟨rfl, rfl, rfl⟩))); unfold RV; intro h9ᵣ tk9ᵣ F9ᵣ N9ᵣ; (try dsimp only); (try k_sweep); (try k_fold)) | with_reducible (k_here; (with_reducible show wpAny _ _ (PySem.call (Value.ref 64) _) _ _ _); k_dflt (refine' Sp.use (c_ed_p ?q1 ?q2 ?q3) ?k1 ?k2 ?k3 ?k4 ?k5 ?k6 ?k7 ?k8 ?k9 ?_; walk_at "use"; (case q2 => k_dflt k_mem); (case q3 => k_dflt k_mem); (case q1 => k_dflt (exact ⟨rfl, rfl, rfl⟩))); unfold RV; intro h9ᵣ tk9ᵣ F9ᵣ N9ᵣ; (try dsimp only); (try k_sweep); (try k_fold)) | with_reducible (k_here; (with_reducible show wpAny _ _ (call (Value.builtin "len") [Value.ref _]) _ _ _); k_dflt (refine' kst_len ?q1 ?q2 ?q3 ?q4 ?_; (case q1 => k_asm); (case q2 => k_mem); (case q3 => assumption); (case q4 => omega))) | with_reducible (k_here; (with_reducible show wpAny _ _ (exec (Stmt.For _ _ _ _ _) _) _ _ _); (rename Fr _ _ _ _ => lF'); (with_unfolding_all refine' For_invVF lF' ?k1 ?k2 ?_; (case k1 => exact rfl); (case k2 => exact rfl); k_whole)) | with_reducible (k_here; (with_reducible show wpAny _ _ (subscriptTail _ _ (Value.ref _) (Value.int _ _)) _ _ _); k_dflt (refine' item_tupleT ?t ?a ?b ?c ?d ?_; (case t => exact News.isTup (by k_asm) (by k_mem)); (case a => decide); (case b => decide); (case c => rfl); (case d => rfl); k_whole)) | with_reducible (k_here; (with_reducible show wpAny _ _ (PySem.pyIter (Value.ref _)) _ _ _); refine Stop.of ?_) | walk1 | (dsimp only; walk1) | fail "no step"))
    · refine Stop.to ?_
      k_dflt (refine' Sp.use (c_scale hc hI.rp hI.hX hI.hY hI.hZ hI.hT ?b0 ?b1 ?b2 ?b3 ?b4 ?b5) ?k1 ?k2 ?k3 ?k4 ?k5 ?k6 ?k7 ?k8 ?k9 ?_; walk_at "use")
      (case b5 => exact ⟨ho2, rfl, rfl⟩)
      (case b0 => exact List.forall_mem_cons.mpr ⟨fun e => dL e.symm, List.forall_mem_cons.mpr ⟨fun e => ds e.symm, nd1⟩⟩)
      (case b1 => exact .tail _ (.tail _ mz))
      (case b2 => exact .tail _ (.tail _ mt))
      (case b3 => exact .tail _ (.tail _ (hI.sub _ m3)))
      (case b4 => exact .tail _ (.tail _ (hI.sub _ m4)))
      unfold RScale
      intro k7 g7 v7 v8 v9 v10 led7 h7 tk7 F7 N7 hk7 hs7 hd7
      refine frontN [(c.dd, _), (Ld, W.listOf c.vs.toArray c.z), (d, _)] N7 (List.forall_mem_cons.mpr ⟨.head _, List.forall_mem_cons.mpr ⟨.tail _ (hs7 _ (.head _)), List.forall_mem_cons.mpr ⟨.tail _ (hs7 _ (.tail _ (.head _))), List.forall_mem_nil _⟩⟩⟩) ?_
      intro led8 N8 hne8 hsub8 hA8 hO8
      simp only [List.cons_append, List.nil_append] at N8
      have nd8 : ∀ p ∈ led8, p.1 ≠ c.dd := hne8 _ (.head _)
      have nL8 : ∀ p ∈ led8, p.1 ≠ Ld := hne8 _ (.tail _ (.head _))
      have ns8 : ∀ p ∈ led8, p.1 ≠ d := hne8 _ (.tail _ (.tail _ (.head _)))
      have hs8 : ∀ p ∈ c.led, p ∈ led8 := fun p hp => hA8 p (.tail _ (hs7 p (.tail _ (.tail _ hp)))) (List.forall_mem_cons.mpr ⟨nd1 p hp, List.forall_mem_cons.mpr ⟨nL1 p hp, List.forall_mem_cons.mpr ⟨ns1 p hp, List.forall_mem_nil _⟩⟩⟩)
      have mk8 := hO8 _ (.tail _ hk7) (List.forall_mem_cons.mpr ⟨by simp, List.forall_mem_cons.mpr ⟨by simp, List.forall_mem_cons.mpr ⟨by simp, List.forall_mem_nil _⟩⟩⟩)
      have mz8 := hs8 _ mz
      have m38 := hs8 _ (hI.sub _ m3)
      have m48 := hs8 _ (hI.sub _ m4)
      have hr8 := Ed.rp_scaled hc c.i
      have hz8 := Ed.zM_in hc c.i
      unfold Ed.InB at hz8
      obtain ⟨hz81, hz82, hz83, hz84⟩ := hz8
      have hf8 := Ed.fm_bd (show (0 : Int) < q by omega) ((Ed.zM q av dv P n c.i).1 * (Ed.zM q av dv P n c.i).2)
      clear mt m09 hsub8 hA8 hO8 hne8 hd7 hk7 N7
      try dsimp only
      (repeat' (first | (k_unfold; (try dsimp only)) | ((with_reducible show wpAny _ _ (execs (List.cons _ _) _) _ _ (Shared.mk _ _ _ (HAdd.hAdd _ _) _)); (rename Fr _ _ _ _ => Fq); refine stm8 Fq ?_; clear Fq; intro tkq mq Fq; (try k_fold)) | with_reducible (k_here; (with_reducible show wpAny _ _ (exec (Stmt.While (Expr.Compare _ _ _ _) _ _ _) _) _ _ _); refine Stop.of ?_) | with_reducible (k_here; (with_reducible show wpAny _ _ (PySem.truthy (Value.ref _)) _ _ _); k_dflt (refine' truthy_L false ?q1 ?q2 ?q3 ?q4 ?_; (case q1 => k_asm); (case q2 => k_mem); (case q3 => exact Nat.le_of_ble_eq_true rfl); (case q4 => rfl))) | with_reducible (k_here; (with_reducible show wpAny _ _ (PySem.call (Value.ref 249) _) _ _ _); k_dflt (refine' Sp.use (c_pe_y ?q1 ?q2 ?q3 ?q4 ?q5 ?q6 ?m0 ?m1 ?m2 ?m3 ?m4 ?q7) ?k1 ?k2 ?k3 ?k4 ?k5 ?k6 ?k7 ?k8 ?k9 ?_; walk_at "use"; (case m0 => k_dflt k_mem); (case m1 => k_dflt k_mem); (case m2 => k_dflt k_mem); (case m3 => k_dflt k_mem); (case m4 => k_dflt k_mem); (case q1 => assumption); (case q2 => assumption); (case q3 => omega); (case q4 => omega); (case q5 => omega); (case q6 => omega); (case q7 => k_dflt (exact ⟨rfl, rfl, rfl⟩))); unfold RInt; intro t9ᵣ h9ᵣ tk9ᵣ F9ᵣ N9ᵣ; (try dsimp only); (try k_sweep); (try k_fold)) | with_reducible (k_here; (with_reducible show wpAny _ _ (PySem.call (Value.ref 242) _) _ _ _); k_dflt (refine' Sp.use (c_pe_x ?q1 ?q2 ?q3 ?q4 ?q5 ?q6 ?m0 ?m1 ?m2 ?m3 ?m4 ?q7) ?k1 ?k2 ?k3 ?k4 ?k5 ?k6 ?k7 ?k8 ?k9 ?_; walk_at "use"; (case m0 => k_dflt k_mem); (case m1 => k_dflt k_mem); (case m2 => k_dflt k_mem); (case m3 => k_dflt k_mem); (case m4 => k_dflt k_mem); (case q1 => assumption); (case q2 => assumption); (case q3 => omega); (case q4 => omega); (case q5 => omega); (case q6 => omega); (case q7 => k_dflt (exact ⟨rfl, rfl, rfl⟩))); unfold RInt; intro t9ᵣ h9ᵣ tk9ᵣ F9ᵣ N9ᵣ; (try dsimp only); (try k_sweep); (try k_fold)) | with_reducible (k_here; (with_reducible show wpAny _ _ (PySem.call (Value.ref 319) _) _ _ _); refine Stop.of ?_) | with_reducible (k_here; (with_reducible show wpAny _ _ (PySem.call (Value.ref 270) _) _ _ _); refine Stop.of ?_) | with_reducible (k_here; (with_reducible show wpAny _ _ (PySem.call (Value.ref 343) _) _ _ _); k_dflt (refine' Sp.use c_mkPE6 ?k1 ?k2 ?k3 ?k4 ?k5 ?k6 ?k7 ?k8 ?k9 ?_; walk_at "use"); unfold RPe; intro z9ᵣ d9ᵣ l9ᵣ k9ᵣ t1ᵣ t2ᵣ t3ᵣ t4ᵣ t5ᵣ u1ᵣ u2ᵣ u3ᵣ u4ᵣ h9ᵣ tk9ᵣ F9ᵣ N9ᵣ l1ᵣ l2ᵣ l3ᵣ l4ᵣ; (try dsimp only); (try k_lt l1ᵣ); (try k_sweep); (try k_fold)) | with_reducible (k_here; (with_reducible show wpAny _ _ (PySem.call (Value.ref 21) _) _ _ _); k_dflt (refine' Sp.use (c_inv ?q1 ?q2 ?q3 ?q4) ?k1 ?k2 ?k3 ?k4 ?k5 ?k6 ?k7 ?k8 ?k9 ?_; walk_at "use"; (case q1 => assumption); (case q2 => assumption); (case q3 => omega); (case q4 => omega)); unfold RInv; intro i9ᵣ t9ᵣ h9ᵣ tk9ᵣ hi1ᵣ hi2ᵣ hi3ᵣ F9ᵣ N9ᵣ; (try dsimp only); (try k_sweep); (try k_fold)) | with_reducible (k_here; (with_reducible show wpAny _ _ (PySem.call (Value.ref 71) _) _ _ _); k_dflt (refine' Sp.use (c_ed_a ?q1 ?q2 ?q3) ?k1 ?k2 ?k3 ?k4 ?k5 ?k6 ?k7 ?k8 ?k9 ?_; walk_at "use"; (case q2 => k_dflt k_mem); (case q3 => k_dflt k_mem); (case q1 => k_dflt (exact ⟨rfl, rfl, rfl⟩))); unfold RV; intro h9ᵣ tk9ᵣ F9ᵣ N9ᵣ; (try dsimp only); (try k_sweep); (try k_fold)) | with_reducible (k_here; (with_reducible show wpAny _ _ (PySem.call (Value.ref 64) _) _ _ _); k_dflt (refine' Sp.use (c_ed_p ?q1 ?q2 ?q3) ?k1 ?k2 ?k3 ?k4 ?k5 ?k6 ?k7 ?k8 ?k9 ?_; walk_at "use"; (case q2 => k_dflt k_mem); (case q3 => k_dflt k_mem); (case q1 => k_dflt (exact ⟨rfl, rfl, rfl⟩))); unfold RV; intro h9ᵣ tk9ᵣ F9ᵣ N9ᵣ; (try dsimp only); (try k_sweep); (try k_fold)) | with_reducible (k_here; (with_reducible show wpAny _ _ (call (Value.builtin "len") [Value.ref _]) _ _ _); k_dflt (refine' kst_len ?q1 ?q2 ?q3 ?q4 ?_; (case q1 => k_asm); (case q2 => k_mem); (case q3 => assumption); (case q4 => omega))) | with_reducible (k_here; (with_reducible show wpAny _ _ (exec (Stmt.For _ _ _ _ _) _) _ _ _); (rename Fr _ _ _ _ => lF'); (with_unfolding_all refine' For_invVF lF' ?k1 ?k2 ?_; (case k1 => exact rfl); (case k2 => exact rfl); k_whole)) | with_reducible (k_here; (with_reducible show wpAny _ _ (subscriptTail _ _ (Value.ref _) (Value.int _ _)) _ _ _); k_dflt (refine' item_tupleT ?t ?a ?b ?c ?d ?_; (case t => exact News.isTup (by k_asm) (by k_mem)); (case a => decide); (case b => decide); (case c => rfl); (case d => rfl); k_whole)) | with_reducible (k_here; (with_reducible show wpAny _ _ (PySem.pyIter (Value.ref _)) _ _ _); refine Stop.of ?_) | walk1 | (dsimp only; walk1) | fail "no step"))
      refine Stop.to ?_
      (rename News _ _ _ _ => N9)
      (rename (_ < _ ∧ c.dd < _ ∧ Ld < _ ∧ d < _ ∧ AllLt _ _) => lT)
      simp only [List.push_toArray] at N9
      revert lT
      refine withAddrH N9 ?_
      rintro T9 rfl lT
      have lT' := allLt_all lT.2.2.2.2
      have hi8 : c.i % (n : Int) ≠ 0 := by rw [hI.hi]; exact pow2_mod hc _
      k_dflt (refine' Sp.use (c_double hc hr8 ⟨hz81, hz82⟩ ⟨hz83, hz84⟩ ⟨by omega, by omega⟩ hf8 hi8 ?b1 ?b2 ?b3 ?b4 ?b5 ?b6) ?k1 ?k2 ?k3 ?k4 ?k5 ?k6 ?k7 ?k8 ?k9 ?_; walk_at "use")
      (case b1 => k_dflt k_mem)
      (case b2 => k_dflt k_mem)
      (case b3 => k_dflt k_mem)
      (case b4 => k_dflt k_mem)
      (case b5 => k_dflt k_mem)
      (case b6 => exact ⟨ho2, rfl, rfl⟩)
      unfold RDbl RPe
      intro X' Y' Z' T' hr' hX' hY' hZ' hT' z' d' l' k' e1 e2 e3 e4 e5 f1 f2 f3 f4 h' tk' F' N' hlt lt1 lt2 lt3
      try dsimp only at N' ⊢
      have r1 : @LT.lt Nat _ d' z' := lt1
      have r2 : @LT.lt Nat _ z' k' := lt2
      have r3 : @LT.lt Nat _ k' l' := lt3
      have r4 : @LT.lt Nat _ Ld d' := hlt (Ld, _) (by k_dflt k_mem)
      have r5 : @LT.lt Nat _ d d' := hlt (d, _) (by k_dflt k_mem)
      have r6 : @LT.lt Nat _ T9 d' := hlt (T9, _) (by k_dflt k_mem)
      have r7 : ∀ p ∈ led8, p.1 < d' := fun p hp => hlt p (by repeat (first | exact hp | apply List.mem_cons_of_mem))
      clear hlt
      (repeat' (first | (k_unfold; (try dsimp only)) | ((with_reducible show wpAny _ _ (execs (List.cons _ _) _) _ _ (Shared.mk _ _ _ (HAdd.hAdd _ _) _)); (rename Fr _ _ _ _ => Fq); refine stm8 Fq ?_; clear Fq; intro tkq mq Fq; (try k_fold)) | with_reducible (k_here; (with_reducible show wpAny _ _ (exec (Stmt.While (Expr.Compare _ _ _ _) _ _ _) _) _ _ _); refine Stop.of ?_) | with_reducible (k_here; (with_reducible show wpAny _ _ (PySem.truthy (Value.ref _)) _ _ _); k_dflt (refine' truthy_L false ?q1 ?q2 ?q3 ?q4 ?_; (case q1 => k_asm); (case q2 => k_mem); (case q3 => exact Nat.le_of_ble_eq_true rfl); (case q4 => rfl))) | with_reducible (k_here; (with_reducible show wpAny _ _ (PySem.call (Value.ref 249) _) _ _ _); k_dflt (refine' Sp.use (c_pe_y ?q1 ?q2 ?q3 ?q4 ?q5 ?q6 ?m0 ?m1 ?m2 ?m3 ?m4 ?q7) ?k1 ?k2 ?k3 ?k4 ?k5 ?k6 ?k7 ?k8 ?k9 ?_; walk_at "use"; (case m0 => k_dflt k_mem); (case m1 => k_dflt k_mem); (case m2 => k_dflt k_mem); (case m3 => k_dflt k_mem); (case m4 => k_dflt k_mem); (case q1 => assumption); (case q2 => assumption); (case q3 => omega); (case q4 => omega); (case q5 => omega); (case q6 => omega); (case q7 => k_dflt (exact ⟨rfl, rfl, rfl⟩))); unfold RInt; intro t9ᵣ h9ᵣ tk9ᵣ F9ᵣ N9ᵣ; (try dsimp only); (try k_sweep); (try k_fold)) | with_reducible (k_here; (with_reducible show wpAny _ _ (PySem.call (Value.ref 242) _) _ _ _); k_dflt (refine' Sp.use (c_pe_x ?q1 ?q2 ?q3 ?q4 ?q5 ?q6 ?m0 ?m1 ?m2 ?m3 ?m4 ?q7) ?k1 ?k2 ?k3 ?k4 ?k5 ?k6 ?k7 ?k8 ?k9 ?_; walk_at "use"; (case m0 => k_dflt k_mem); (case m1 => k_dflt k_mem); (case m2 => k_dflt k_mem); (case m3 => k_dflt k_mem); (case m4 => k_dflt k_mem); (case q1 => assumption); (case q2 => assumption); (case q3 => omega); (case q4 => omega); (case q5 => omega); (case q6 => omega); (case q7 => k_dflt (exact ⟨rfl, rfl, rfl⟩))); unfold RInt; intro t9ᵣ h9ᵣ tk9ᵣ F9ᵣ N9ᵣ; (try dsimp only); (try k_sweep); (try k_fold)) | with_reducible (k_here; (with_reducible show wpAny _ _ (PySem.call (Value.ref 319) _) _ _ _); refine Stop.of ?_) | with_reducible (k_here; (with_reducible show wpAny _ _ (PySem.call (Value.ref 270) _) _ _ _); refine Stop.of ?_) | with_reducible (k_here; (with_reducible show wpAny _ _ (PySem.call (Value.ref 343) _) _ _ _); k_dflt (refine' Sp.use c_mkPE6 ?k1 ?k2 ?k3 ?k4 ?k5 ?k6 ?k7 ?k8 ?k9 ?_; walk_at "use"); unfold RPe; intro z9ᵣ d9ᵣ l9ᵣ k9ᵣ t1ᵣ t2ᵣ t3ᵣ t4ᵣ t5ᵣ u1ᵣ u2ᵣ u3ᵣ u4ᵣ h9ᵣ tk9ᵣ F9ᵣ N9ᵣ l1ᵣ l2ᵣ l3ᵣ l4ᵣ; (try dsimp only); (try k_lt l1ᵣ); (try k_sweep); (try k_fold)) | with_reducible (k_here; (with_reducible show wpAny _ _ (PySem.call (Value.ref 21) _) _ _ _); k_dflt (refine' Sp.use (c_inv ?q1 ?q2 ?q3 ?q4) ?k1 ?k2 ?k3 ?k4 ?k5 ?k6 ?k7 ?k8 ?k9 ?_; walk_at "use"; (case q1 => assumption); (case q2 => assumption); (case q3 => omega); (case q4 => omega)); unfold RInv; intro i9ᵣ t9ᵣ h9ᵣ tk9ᵣ hi1ᵣ hi2ᵣ hi3ᵣ F9ᵣ N9ᵣ; (try dsimp only); (try k_sweep); (try k_fold)) | with_reducible (k_here; (with_reducible show wpAny _ _ (PySem.call (Value.ref 71) _) _ _ _); k_dflt (refine' Sp.use (c_ed_a ?q1 ?q2 ?q3) ?k1 ?k2 ?k3 ?k4 ?k5 ?k6 ?k7 ?k8 ?k9 ?_; walk_at "use"; (case q2 => k_dflt k_mem); (case q3 => k_dflt k_mem); (case q1 => k_dflt (exact ⟨rfl, rfl, rfl⟩))); unfold RV; intro h9ᵣ tk9ᵣ F9ᵣ N9ᵣ; (try dsimp only); (try k_sweep); (try k_fold)) | with_reducible (k_here; (with_reducible show wpAny _ _ (PySem.call (Value.ref 64) _) _ _ _); k_dflt (refine' Sp.use (c_ed_p ?q1 ?q2 ?q3) ?k1 ?k2 ?k3 ?k4 ?k5 ?k6 ?k7 ?k8 ?k9 ?_; walk_at "use"; (case q2 => k_dflt k_mem); (case q3 => k_dflt k_mem); (case q1 => k_dflt (exact ⟨rfl, rfl, rfl⟩))); unfold RV; intro h9ᵣ tk9ᵣ F9ᵣ N9ᵣ; (try dsimp only); (try k_sweep); (try k_fold)) | with_reducible (k_here; (with_reducible show wpAny _ _ (call (Value.builtin "len") [Value.ref _]) _ _ _); k_dflt (refine' kst_len ?q1 ?q2 ?q3 ?q4 ?_; (case q1 => k_asm); (case q2 => k_mem); (case q3 => assumption); (case q4 => omega))) | with_reducible (k_here; (with_reducible show wpAny _ _ (exec (Stmt.For _ _ _ _ _) _) _ _ _); (rename Fr _ _ _ _ => lF'); (with_unfolding_all refine' For_invVF lF' ?k1 ?k2 ?_; (case k1 => exact rfl); (case k2 => exact rfl); k_whole)) | with_reducible (k_here; (with_reducible show wpAny _ _ (subscriptTail _ _ (Value.ref _) (Value.int _ _)) _ _ _); k_dflt (refine' item_tupleT ?t ?a ?b ?c ?d ?_; (case t => exact News.isTup (by k_asm) (by k_mem)); (case a => decide); (case b => decide); (case c => rfl); (case d => rfl); k_whole)) | with_reducible (k_here; (with_reducible show wpAny _ _ (PySem.pyIter (Value.ref _)) _ _ _); refine Stop.of ?_) | walk1 | (dsimp only; walk1) | fail "no step"))
      (rename News _ _ _ _ => N9)
      have hm8 : News _ _ _ ((d', dictOf (peE w e1 e2 e3 e4 e5 (.ref cx) (.ref k') o2 (.bool false) (.ref l')) 5) :: (Ld, W.listOf (c.vs ++ [Value.ref T9]).toArray (c.z + 1)) :: (d, _) :: (l', W.listOf #[] 0) :: (k', tup4 X' f1 Y' f2 Z' f3 T' f4) :: (z', instObj 343 d') :: (T9, tup3 (Ed.zM q av dv P n c.i).1 v7 (Ed.zM q av dv P n c.i).2 v8 (((Ed.zM q av dv P n c.i).1 * (Ed.zM q av dv P n c.i).2).fmod q) _) :: led8) :=
        cb_drop N9 (List.forall_mem_cons.mpr ⟨by k_dflt k_mem, List.forall_mem_cons.mpr ⟨by k_dflt k_mem, List.forall_mem_cons.mpr ⟨.tail _ (.tail _ (.tail _ (.tail _ (.tail _ (.tail _ (.tail _ (.tail _ (.head _)))))))), List.forall_mem_cons.mpr ⟨by k_dflt k_mem, List.forall_mem_cons.mpr ⟨by k_dflt k_mem, List.forall_mem_cons.mpr ⟨by k_dflt k_mem, List.forall_mem_cons.mpr ⟨.tail _ (.tail _ (.tail _ (.tail _ (.head _)))), fun p hp => by repeat (first | exact hp | apply List.mem_cons_of_mem)⟩⟩⟩⟩⟩⟩⟩)
      refine ksw_end ⟨z', d', k', l', e1, e2, e3, e4, e5, f1, f2, f3, f4, X', Y', Z', T', c.i * 2, _, c.vs ++ [Value.ref T9], c.z + 1, (l', W.listOf #[] 0) :: (k', tup4 X' f1 Y' f2 Z' f3 T' f4) :: (z', instObj 343 d') :: (T9, tup3 (Ed.zM q av dv P n c.i).1 v7 (Ed.zM q av dv P n c.i).2 v8 (((Ed.zM q av dv P n c.i).1 * (Ed.zM q av dv P n c.i).2).fmod q) _) :: led8⟩ (by k_asm) hm8 (fun _ h => h) trivial (by walk_at "ps") (by (intro z h1 h3; (try simp only [List.contains_cons, List.contains_nil, Bool.or_false, Bool.or_eq_false_iff, beq_eq_false_iff_ne, ne_eq] at h3); (simp at h1); (simp +zetaDelta [h1, h3, kstB]; done))) ?_ (by dsimp only; omega)
      refine ⟨?_, by dsimp only; omega, ?_, hX', hY', hZ', hT', ?_, .tail _ (.tail _ (.head _)), .tail _ (.head _), fun p hp => .tail _ (.tail _ (.tail _ (.tail _ (hs8 p (hI.sub p hp))))), ?_, ?_, ?_, by k_ne, by k_ne⟩
      · dsimp only; rw [List.length_append, List.length_cons, List.length_nil, Int.pow_succ, hI.hi]
      · dsimp only; rw [Int.mul_comm]; exact hr'
      · exact TabAre5.snoc2 ((hI.tab.mono hs8).mono fun p hp => .tail _ (.tail _ (.tail _ (.tail _ hp)))) hI.hi (.tail _ (.tail _ (.tail _ (.head _))))
      · exact List.forall_mem_cons.mpr ⟨by k_ne, List.forall_mem_cons.mpr ⟨by k_ne, List.forall_mem_cons.mpr ⟨by k_ne, List.forall_mem_cons.mpr ⟨by k_ne, fun p hp => Nat.ne_of_lt (r7 p hp)⟩⟩⟩⟩
      · exact List.forall_mem_cons.mpr ⟨by k_ne, List.forall_mem_cons.mpr ⟨by k_ne, List.forall_mem_cons.mpr ⟨by k_ne, List.forall_mem_cons.mpr ⟨by k_ne, nL8⟩⟩⟩⟩
      · exact List.forall_mem_cons.mpr ⟨by k_ne, List.forall_mem_cons.mpr ⟨by k_ne, List.forall_mem_cons.mpr ⟨by k_ne, List.forall_mem_cons.mpr ⟨by k_ne, ns8⟩⟩⟩⟩
    · (rename News _ _ _ _ => N9)
      have hl1 : 1 ≤ c.vs.length := by
        rcases Nat.eq_zero_or_pos c.vs.length with h9 | h9
        · exfalso
          have h8 := hI.hi
          rw [h9, Int.pow_zero] at h8
          omega
        · exact h9
      refine hret Ld c.vs c.z ((Ld, W.listOf c.vs.toArray c.z) :: c.led) _ _ (hI.tab.mono fun p hp => .tail _ hp) hl1 hvlen ?_ (.head _) (fun p hp => .tail _ (hI.sub p hp)) (List.forall_mem_cons.mpr ⟨hLd, ns1⟩) (by k_asm) (cb_drop N9 (List.forall_mem_cons.mpr ⟨by k_dflt k_mem, List.forall_mem_cons.mpr ⟨by k_dflt k_mem, fun p hp => by repeat (first | exact hp | apply List.mem_cons_of_mem)⟩⟩))
      have h8 := hI.hi
      rw [show c.vs.length = (c.vs.length - 1) + 1 by omega, Int.pow_succ] at h8
      omega
  · exfalso; omega
end
-- L05p
section
variable {w : World} {mean : ExcName → Option Value} {mg mb : Str → Option Value}
theorem c_linv {news : List (Addr × Obj)} {q : Nat} (hq : q ∈ Ed.primes24) {v : Int} {t u : Tok} (h1 : -200 ≤ v ∧ v ≤ 200) :
    Sp PR w (hd.heap_39 w.params) topProg LO mean mg mb 1 8 (call (.ref 380) [.int v t, .int (q : Int) u]) news (fun _ => True) (RInt (Ed.linv q v) news) := by
  obtain ⟨hb1, hb2⟩ := Ed.primes_int hq
  have hfm := Ed.fm_bd (show (0 : Int) < q by omega) v
  (try unfold PR LO); k_fill; w_top off
  unfold Sp
  intro dp un gd cn cs a ccd cl outer A₀ base h₀ L M s Q E B F X N T hk hd hu hpre hret
  try dsimp only at hpre
  refine wpAny_call ?_
  k_dflt cell_enter
  unfold RInt at hret
  unfold Ed.linv at hret
  (repeat' (first | (k_unfold; (try dsimp only)) | ((with_reducible show wpAny _ _ (execs (List.cons _ _) _) _ _ (Shared.mk _ _ _ (HAdd.hAdd _ _) _)); (rename Fr _ _ _ _ => Fq); refine stm8 Fq ?_; clear Fq; intro tkq mq Fq; (try k_fold)) | with_reducible (k_here; (with_reducible show wpAny _ _ (PySem.call (Value.ref 21) _) _ _ _); k_dflt (refine' Sp.use (c_inv ?q1 ?q2 ?q3 ?q4) ?k1 ?k2 ?k3 ?k4 ?k5 ?k6 ?k7 ?k8 ?k9 ?_; walk_at "use"; (case q1 => assumption); (case q2 => assumption); (case q3 => omega); (case q4 => omega)); unfold RInv; intro i9ᵣ t9ᵣ h9ᵣ tk9ᵣ hi1ᵣ hi2ᵣ hi3ᵣ F9ᵣ N9ᵣ; (try dsimp only); (try k_sweep); (try k_fold)) | with_reducible (k_here; (with_reducible show wpAny _ _ (PySem.call (Value.ref 71) _) _ _ _); k_dflt (refine' Sp.use (c_ed_a ?q1 ?q2 ?q3) ?k1 ?k2 ?k3 ?k4 ?k5 ?k6 ?k7 ?k8 ?k9 ?_; walk_at "use"; (case q2 => k_dflt k_mem); (case q3 => k_dflt k_mem); (case q1 => k_dflt (exact ⟨rfl, rfl, rfl⟩))); unfold RV; intro h9ᵣ tk9ᵣ F9ᵣ N9ᵣ; (try dsimp only); (try k_sweep); (try k_fold)) | with_reducible (k_here; (with_reducible show wpAny _ _ (PySem.call (Value.ref 64) _) _ _ _); k_dflt (refine' Sp.use (c_ed_p ?q1 ?q2 ?q3) ?k1 ?k2 ?k3 ?k4 ?k5 ?k6 ?k7 ?k8 ?k9 ?_; walk_at "use"; (case q2 => k_dflt k_mem); (case q3 => k_dflt k_mem); (case q1 => k_dflt (exact ⟨rfl, rfl, rfl⟩))); unfold RV; intro h9ᵣ tk9ᵣ F9ᵣ N9ᵣ; (try dsimp only); (try k_sweep); (try k_fold)) | with_reducible (k_here; (with_reducible show wpAny _ _ (call (Value.builtin "len") [Value.ref _]) _ _ _); k_dflt (refine' kst_len ?q1 ?q2 ?q3 ?q4 ?_; (case q1 => k_asm); (case q2 => k_mem); (case q3 => assumption); (case q4 => omega))) | with_reducible (k_here; (with_reducible show wpAny _ _ (exec (Stmt.For _ _ _ _ _) _) _ _ _); (rename Fr _ _ _ _ => lF'); (with_unfolding_all refine' For_invVF lF' ?k1 ?k2 ?_; (case k1 => exact rfl); (case k2 => exact rfl); k_whole)) | with_reducible (k_here; (with_reducible show wpAny _ _ (subscriptTail _ _ (Value.ref _) (Value.int _ _)) _ _ _); k_dflt (refine' item_tupleT ?t ?a ?b ?c ?d ?_; (case t => exact News.isTup (by k_asm) (by k_mem)); (case a => decide); (case b => decide); (case c => rfl); (case d => rfl); k_whole)) | with_reducible (k_here; (with_reducible show wpAny _ _ (PySem.pyIter (Value.ref _)) _ _ _); refine Stop.of ?_) | walk1 | (dsimp only; walk1) | fail "no step"))
  exact hret _ _ _ (by k_asm) (by k_asm)
abbrev tup2 (x : Int) (t : Tok) (y : Int) (u : Tok) : Obj := { cls := .type "tuple", data := .seq #[.int x t, .int y u] 0 }
def RT2 (V : Int × Int) (news : List (Addr × Obj)) (h₀ : Heap) (L : Addr) (m : Str → Option Value) (s : Shared) (Q : Value → Shared → Prop) : Prop :=
  ∀ D t1 t2 h' tk', Fr h₀ L h' m → News h₀ L h' ((D, tup2 V.1 t1 V.2 t2) :: news) → (∀ p ∈ news, p.1 < D) → Q (.ref D) { s with heap := h', toks := tk' }
theorem c_lplus {news : List (Addr × Obj)} {q : Nat} (hq : q ∈ Ed.primes24) {a d x1 y1 x2 y2 : Int} {r1 r2 : Addr} {t1 t2 t3 t4 t5 t6 t7 : Tok} (ha : 0 ≤ a ∧ a < q) (hd9 : 0 ≤ d ∧ d < q) (h1 : Ed.InB q (x1, y1)) (h2 : Ed.InB q (x2, y2)) (m1 : (r1, tup2 x1 t4 y1 t5) ∈ news) (m2 : (r2, tup2 x2 t6 y2 t7) ∈ news) :
    Sp PR w (hd.heap_39 w.params) topProg LO mean mg mb 3 30 (call (.ref 387) [.int (q : Int) t1, .int a t2, .int d t3, .ref r1, .ref r2]) news (fun _ => True) (RT2 (Ed.lplus q a d (x1, y1) (x2, y2)) news) := by
  obtain ⟨hb1, hb2⟩ := Ed.primes_int hq
  have hfm := Ed.fm_bd (show (0 : Int) < q by omega) (d * x1 * x2 * y1 * y2)
  have hl1 := Ed.linv_bd (p := q) (v := 1 + (d * x1 * x2 * y1 * y2).fmod q) (by omega)
  have hl2 := Ed.linv_bd (p := q) (v := 1 - (d * x1 * x2 * y1 * y2).fmod q) (by omega)
  unfold Ed.InB at h1 h2
  dsimp only at h1 h2
  (try unfold PR LO); k_fill
  unfold Sp
  intro dp un gd cn cs a ccd cl outer A₀ base h₀ L M s Q E B F X N T hk hd hu hpre hret
  try dsimp only at hpre
  refine wpAny_call ?_
  k_dflt cell_enter
  unfold RT2 Ed.lplus at hret
  dsimp only at hret
  (repeat' (first | (k_unfold; (try dsimp only)) | ((with_reducible show wpAny _ _ (execs (List.cons _ _) _) _ _ (Shared.mk _ _ _ (HAdd.hAdd _ _) _)); (rename Fr _ _ _ _ => Fq); refine stm8 Fq ?_; clear Fq; intro tkq mq Fq; (try k_fold)) | with_reducible (k_here; (with_reducible show wpAny _ _ (PySem.call (Value.ref 380) _) _ _ _); k_dflt (refine' Sp.use (c_linv ?q1 ?q2) ?k1 ?k2 ?k3 ?k4 ?k5 ?k6 ?k7 ?k8 ?k9 ?_; walk_at "use"; (case q1 => assumption); (case q2 => omega)); unfold RInt; intro t9ᵣ h9ᵣ tk9ᵣ F9ᵣ N9ᵣ; (try dsimp only); (try k_sweep); (try k_fold)) | with_reducible (k_here; (with_reducible show wpAny _ _ (PySem.call (Value.ref 21) _) _ _ _); k_dflt (refine' Sp.use (c_inv ?q1 ?q2 ?q3 ?q4) ?k1 ?k2 ?k3 ?k4 ?k5 ?k6 ?k7 ?k8 ?k9 ?_; walk_at "use"; (case q1 => assumption); (case q2 => assumption); (case q3 => omega); (case q4 => omega)); unfold RInv; intro i9ᵣ t9ᵣ h9ᵣ tk9ᵣ hi1ᵣ hi2ᵣ hi3ᵣ F9ᵣ N9ᵣ; (try dsimp only); (try k_sweep); (try k_fold)) | with_reducible (k_here; (with_reducible show wpAny _ _ (PySem.call (Value.ref 71) _) _ _ _); k_dflt (refine' Sp.use (c_ed_a ?q1 ?q2 ?q3) ?k1 ?k2 ?k3 ?k4 ?k5 ?k6 ?k7 ?k8 ?k9 ?_; walk_at "use"; (case q2 => k_dflt k_mem); (case q3 => k_dflt k_mem); (case q1 => k_dflt (exact ⟨rfl, rfl, rfl⟩))); unfold RV; intro h9ᵣ tk9ᵣ F9ᵣ N9ᵣ; (try dsimp only); (try k_sweep); (try k_fold)) | with_reducible (k_here; (with_reducible show wpAny _ _ (PySem.call (Value.ref 64) _) _ _ _); k_dflt (refine' Sp.use (c_ed_p ?q1 ?q2 ?q3) ?k1 ?k2 ?k3 ?k4 ?k5 ?k6 ?k7 ?k8 ?k9 ?_; walk_at "use"; (case q2 => k_dflt k_mem); (case q3 => k_dflt k_mem); (case q1 => k_dflt (exact ⟨rfl, rfl, rfl⟩))); unfold RV; intro h9ᵣ tk9ᵣ F9ᵣ N9ᵣ; (try dsimp only); (try k_sweep); (try k_fold)) | with_reducible (k_here; (with_reducible show wpAny _ _ (call (Value.builtin "len") [Value.ref _]) _ _ _); k_dflt (refine' kst_len ?q1 ?q2 ?q3 ?q4 ?_; (case q1 => k_asm); (case q2 => k_mem); (case q3 => assumption); (case q4 => omega))) | with_reducible (k_here; (with_reducible show wpAny _ _ (exec (Stmt.For _ _ _ _ _) _) _ _ _); (rename Fr _ _ _ _ => lF'); (with_unfolding_all refine' For_invVF lF' ?k1 ?k2 ?_; (case k1 => exact rfl); (case k2 => exact rfl); k_whole)) | with_reducible (k_here; (with_reducible show wpAny _ _ (subscriptTail _ _ (Value.ref _) (Value.int _ _)) _ _ _); k_dflt (refine' item_tupleT ?t ?a ?b ?c ?d ?_; (case t => exact News.isTup (by k_asm) (by k_mem)); (case a => decide); (case b => decide); (case c => rfl); (case d => rfl); k_whole)) | with_reducible (k_here; (with_reducible show wpAny _ _ (PySem.pyIter (Value.ref _)) _ _ _); refine Stop.of ?_) | walk1 | (dsimp only; walk1) | fail "no step"))
  exact hret _ _ _ _ _ (by k_asm) (by k_asm) (by assumption)
end
-- L05q
section
/-- the law's rows -/
def RowsAre (q : Nat) (a d : Int) (P : Int × Int) (led : List (Addr × Obj)) (vs : List Value) : Prop :=
  ∀ i v, vs[i]? = some v → ∃ r t u, v = .ref r ∧ (r, tup2 (Ed.lmul q a d P i).1 t (Ed.lmul q a d P i).2 u) ∈ led
theorem RowsAre.mono {q : Nat} {a d : Int} {P : Int × Int} {led led' : List (Addr × Obj)} {vs : List Value} (hs : ∀ p ∈ led, p ∈ led') (h : RowsAre q a d P led vs) : RowsAre q a d P led' vs := fun i v hv => by
  obtain ⟨r, t, u, e, hm⟩ := h i v hv
  exact ⟨r, t, u, e, hs _ hm⟩
theorem RowsAre.snoc {q : Nat} {a d : Int} {P : Int × Int} {led : List (Addr × Obj)} {vs : List Value} {r : Addr} {t u : Tok} (h : RowsAre q a d P led vs) (hm : (r, tup2 (Ed.lmul q a d P vs.length).1 t (Ed.lmul q a d P vs.length).2 u) ∈ led) : RowsAre q a d P led (vs ++ [.ref r]) := fun i v hv => by
  by_cases hi : i < vs.length
  · rw [List.getElem?_append_left hi] at hv
    exact h i v hv
  · have h2 := (List.getElem?_eq_some_iff.mp hv).1
    simp only [List.length_append, List.length_cons, List.length_nil] at h2
    have e : i = vs.length := by omega
    subst e
    rw [List.getElem?_append_right (Nat.le_refl _)] at hv
    simp at hv
    exact ⟨r, t, u, hv.symm, hm⟩
theorem reads_t2 {h₀ : Heap} {x y : Int} {t u : Tok} {r : Addr} (h : h₀.get? r = some (tup2 x t y u)) : ∃ as, Reads h₀ (.ref r) (.tuple [.int x, .int y]) as := ⟨_, reads_tuple_at h rfl rfl (ReadsAll.cons (Reads.int _ _) (ReadsAll.cons (Reads.int _ _) ReadsAll.nil))⟩
theorem eqv_t2 (x1 y1 x2 y2 : Int) : PyData.eqv (.tuple [.int x1, .int y1]) (.tuple [.int x2, .int y2]) = decide ((x1, y1) = (x2, y2)) := by
  simp only [PyData.eqv, PyData.eqvAll, Bool.and_true, Prod.mk.injEq]
  by_cases h : x1 = x2 <;> by_cases h' : y1 = y2 <;> simp [h, h']
theorem eq_t2 {prog : Program} {w : World} {A : Around} {E : Value → Shared → Prop} {s : Shared} {h₀ : Heap} {L r1 r2 : Addr} {news : List (Addr × Obj)} {x1 y1 x2 y2 : Int} {t1 u1 t2 u2 : Tok} {Q : Value → Shared → Prop} (N : News h₀ L s.heap news) (h1 : (r1, tup2 x1 t1 y1 u1) ∈ news) (h2 : (r2, tup2 x2 t2 y2 u2) ∈ news) (hu : A.units + 64 < cLine)
    (h : Q (.bool (decide ((x1, y1) = (x2, y2)))) s) : wpAny (model prog w) A (compareOp .Eq (.ref r1) (.ref r2)) Q E s := by
  obtain ⟨_, ra⟩ := reads_t2 (N _ h1).1
  obtain ⟨_, rb⟩ := reads_t2 (N _ h2).1
  refine eq_dataH ra rb rfl rfl hu ?_
  rw [eqv_t2]; exact h
theorem ne_t2 {prog : Program} {w : World} {A : Around} {E : Value → Shared → Prop} {s : Shared} {h₀ : Heap} {L r1 r2 : Addr} {news : List (Addr × Obj)} {x1 y1 x2 y2 : Int} {t1 u1 t2 u2 : Tok} {Q : Value → Shared → Prop} (N : News h₀ L s.heap news) (h1 : (r1, tup2 x1 t1 y1 u1) ∈ news) (h2 : (r2, tup2 x2 t2 y2 u2) ∈ news) (hu : A.units + 64 < cLine)
    (h : Q (.bool (!decide ((x1, y1) = (x2, y2)))) s) : wpAny (model prog w) A (compareOp .NotEq (.ref r1) (.ref r2)) Q E s := by
  obtain ⟨_, ra⟩ := reads_t2 (N _ h1).1
  obtain ⟨_, rb⟩ := reads_t2 (N _ h2).1
  refine ne_dataH ra rb rfl rfl hu ?_
  rw [eqv_t2]; exact h
theorem withAddrs2 {G : Prop} {h₀ h : Heap} {L a b : Addr} {oa ob : Obj} {led : List (Addr × Obj)} (_N : News h₀ L h ((a, oa) :: (b, ob) :: led)) (k : ∀ x y, x = a → y = b → G) : G := k a b rfl rfl
theorem withTup2 {G : Prop} {h₀ h : Heap} {L a : Addr} {e : Addr × Obj} {x y : Int} {t u : Tok} {led : List (Addr × Obj)} (_N : News h₀ L h (e :: (a, tup2 x t y u) :: led)) (k : ∀ b t' u', b = a → t' = t → u' = u → G) : G := k a t u rfl rfl rfl
def RowsI (q : Nat) (a d : Int) (P : Int × Int) (news : List (Addr × Obj)) (lR : Addr) (i : Nat) (c : List Value × Addr × Nat × List (Addr × Obj)) : Prop :=
  RowsAre q a d P c.2.2.2 c.1 ∧ c.1.length = i ∧ (∃ t u, (c.2.1, tup2 (Ed.lmul q a d P i).1 t (Ed.lmul q a d P i).2 u) ∈ c.2.2.2) ∧ (∀ p ∈ news, p ∈ c.2.2.2) ∧ (∀ p ∈ c.2.2.2, p.1 ≠ lR) ∧ ∀ k, 0 < k → k ≤ i → Ed.lmul q a d P k ≠ (0, 1)
set_option genInjectivity false in
set_option genSizeOf false in
structure WS5 where
  ws : List Value
  v : Addr
  n : Nat
  led : List (Addr × Obj)
def RRows (q : Nat) (a d : Int) (P : Int × Int) (news : List (Addr × Obj)) (h₀ : Heap) (L : Addr) (m : Str → Option Value) (s : Shared) (Q : Value → Shared → Prop) : Prop :=
  ∀ l vs z led h' tk', RowsAre q a d P led vs → 1 ≤ vs.length → vs.length ≤ 2 * q + 8 → Ed.lmul q a d P vs.length = (0, 1) → (∀ k, 0 < k → k < vs.length → Ed.lmul q a d P k ≠ (0, 1)) → (∀ p ∈ news, p ∈ led) →
    Fr h₀ L h' m → News h₀ L h' ((l, W.listOf vs.toArray z) :: led) → (∀ p ∈ led, p.1 ≠ l) → Q (.ref l) { s with heap := h', toks := tk' }
variable {w : World} {mean : ExcName → Option Value} {mg mb : Str → Option Value}
theorem c_lmults {news : List (Addr × Obj)} {q : Nat} {av dv x y : Int} {t1 t2 t3 t4 t5 : Tok} {r : Addr} (hcv : Ed.Cv q av dv) (hP : Ed.InB q (x, y)) (hon : (av * x * x + y * y - 1 - dv * x * x * y * y).fmod q = 0) (hm : (r, tup2 x t4 y t5) ∈ news) :
    Sp PR w (hd.heap_39 w.params) topProg LO mean mg mb 5 200 (call (.ref 394) [.int (q : Int) t1, .int av t2, .int dv t3, .ref r]) news (fun _ => True) (RRows q av dv (x, y) news) := by
  have hq := hcv.pr
  obtain ⟨hb1, hb2⟩ := Ed.primes_int hq
  have hav : 0 ≤ av ∧ av < q := by
    obtain ⟨r, _, _, rfl⟩ := hcv.sq
    exact Ed.fm_bd (by omega) _
  have hdv : 0 ≤ dv ∧ dv < q := ⟨by have := hcv.d1; omega, hcv.d2⟩
  (try unfold PR LO); k_fill; w_top off
  unfold Sp
  intro dp un gd cn cs a ccd cl outer A₀ base h₀ L M s Q E B F X N T hk hd hu hpre hret
  try dsimp only at hpre
  refine wpAny_call ?_
  k_dflt cell_enter
  unfold RRows at hret
  (repeat' (first | (k_unfold; (try dsimp only)) | ((with_reducible show wpAny _ _ (execs (List.cons _ _) _) _ _ (Shared.mk _ _ _ (HAdd.hAdd _ _) _)); (rename Fr _ _ _ _ => Fq); refine stm8 Fq ?_; clear Fq; intro tkq mq Fq; (try k_fold)) | with_reducible (k_here; (with_reducible show wpAny _ _ (compareOp .Eq (Value.ref _) (Value.ref _)) _ _ _); k_dflt (refine' eq_t2 ?q1 ?q2 ?q3 ?q4 ?_; (case q1 => k_asm); (case q2 => k_mem); (case q3 => k_mem); (case q4 => ktr_units))) | with_reducible (k_here; (with_reducible show wpAny _ _ (subscriptTail _ _ (Value.ref _) (Value.int _ _)) _ _ _); k_dflt (refine' item_list ?q1 ?q2 ?q3 ?q4 ?_ ?q5 ?q6; (case q1 => exact News.isList (by k_asm) (by k_mem)); (case q4 => assumption); (case q2 => omega); (case q3 => omega); (case q5 => with_unfolding_all rfl); (case q6 => intro _; with_unfolding_all rfl))) | with_reducible (k_here; (with_reducible show wpAny _ _ (PySem.call (Value.ref 387) _) _ _ _); k_dflt (refine' Sp.use (c_lplus ?q1 ?q2 ?q3 ?q4 ?q5 ?q6 ?q7) ?k1 ?k2 ?k3 ?k4 ?k5 ?k6 ?k7 ?k8 ?k9 ?_; walk_at "use"; (case q6 => k_dflt k_mem); (case q7 => k_dflt k_mem); (case q1 => assumption); (case q2 => assumption); (case q3 => assumption); (case q4 => assumption); (case q5 => assumption)); unfold RT2; intro D9ᵣ t1ᵣ t2ᵣ h9ᵣ tk9ᵣ F9ᵣ N9ᵣ l1ᵣ; (try k_lt l1ᵣ); (try dsimp only); (try k_sweep); (try k_fold)) | with_reducible (k_here; (with_reducible show wpAny _ _ (PySem.call (Value.ref 21) _) _ _ _); k_dflt (refine' Sp.use (c_inv ?q1 ?q2 ?q3 ?q4) ?k1 ?k2 ?k3 ?k4 ?k5 ?k6 ?k7 ?k8 ?k9 ?_; walk_at "use"; (case q1 => assumption); (case q2 => assumption); (case q3 => omega); (case q4 => omega)); unfold RInv; intro i9ᵣ t9ᵣ h9ᵣ tk9ᵣ hi1ᵣ hi2ᵣ hi3ᵣ F9ᵣ N9ᵣ; (try dsimp only); (try k_sweep); (try k_fold)) | with_reducible (k_here; (with_reducible show wpAny _ _ (PySem.call (Value.ref 71) _) _ _ _); k_dflt (refine' Sp.use (c_ed_a ?q1 ?q2 ?q3) ?k1 ?k2 ?k3 ?k4 ?k5 ?k6 ?k7 ?k8 ?k9 ?_; walk_at "use"; (case q2 => k_dflt k_mem); (case q3 => k_dflt k_mem); (case q1 => k_dflt (exact ⟨rfl, rfl, rfl⟩))); unfold RV; intro h9ᵣ tk9ᵣ F9ᵣ N9ᵣ; (try dsimp only); (try k_sweep); (try k_fold)) | with_reducible (k_here; (with_reducible show wpAny _ _ (PySem.call (Value.ref 64) _) _ _ _); k_dflt (refine' Sp.use (c_ed_p ?q1 ?q2 ?q3) ?k1 ?k2 ?k3 ?k4 ?k5 ?k6 ?k7 ?k8 ?k9 ?_; walk_at "use"; (case q2 => k_dflt k_mem); (case q3 => k_dflt k_mem); (case q1 => k_dflt (exact ⟨rfl, rfl, rfl⟩))); unfold RV; intro h9ᵣ tk9ᵣ F9ᵣ N9ᵣ; (try dsimp only); (try k_sweep); (try k_fold)) | with_reducible (k_here; (with_reducible show wpAny _ _ (call (Value.builtin "len") [Value.ref _]) _ _ _); k_dflt (refine' kst_len ?q1 ?q2 ?q3 ?q4 ?_; (case q1 => k_asm); (case q2 => k_mem); (case q3 => assumption); (case q4 => omega))) | with_reducible (k_here; (with_reducible show wpAny _ _ (exec (Stmt.For _ _ _ _ _) _) _ _ _); (rename Fr _ _ _ _ => lF'); (with_unfolding_all refine' For_invVF lF' ?k1 ?k2 ?_; (case k1 => exact rfl); (case k2 => exact rfl); k_whole)) | with_reducible (k_here; (with_reducible show wpAny _ _ (subscriptTail _ _ (Value.ref _) (Value.int _ _)) _ _ _); k_dflt (refine' item_tupleT ?t ?a ?b ?c ?d ?_; (case t => exact News.isTup (by k_asm) (by k_mem)); (case a => decide); (case b => decide); (case c => rfl); (case d => rfl); k_whole)) | with_reducible (k_here; (with_reducible show wpAny _ _ (PySem.pyIter (Value.ref _)) _ _ _); refine Stop.of ?_) | walk1 | (dsimp only; walk1) | fail "no step"))
  refine Stop.to ?_
  (rename News _ _ _ ((_, W.listOf _ _) :: (_, _) :: news) => N0)
  (rename (_ < _ ∧ AllLt _ _) => l0)
  revert l0
  refine withAddrs2 N0 ?_
  rintro lR dR rfl rfl l0
  have l0' := allLt_all l0.2
  k_dflt (refine' lp_range (σ := List Value × Addr × Nat × List (Addr × Obj)) (2 * (q : Int) + 8).toNat (fun c => (lR, W.listOf (c.1 ++ [Value.ref c.2.1]).toArray c.2.2.1) :: c.2.2.2) (fun _ => []) (RowsI q av dv (x, y) news lR) [Str.ofString "more"] ⟨[], dR, 0, (dR, tup2 0 _ 1 _) :: news⟩ rfl ?zr ?zs ?zn (by k_asm) N0 (List.forall_mem_nil _) ?zi ?zt ?zd)
  (case zr => assumption)
  (case zs => exact small_one (by omega) (by omega) (by omega) (by omega))
  (case zn => rw [rangeSize_nat, Int.sub_zero])
  (case zi => exact ⟨fun i v h => by simp at h, rfl, ⟨_, _, .head _⟩, fun _ h => .tail _ h, List.forall_mem_cons.mpr ⟨Nat.ne_of_lt l0.1, fun p hp => Nat.ne_of_lt (l0' p hp)⟩, fun k h1 h2 => by omega⟩)
  (case zt =>
    rintro I i ti ⟨ws, v, n, led⟩ u h tk it hi ⟨hR, hlw, ⟨tt, tu, hmv⟩, hsub, hner, hlow⟩ hne F3 N3
    dsimp only [envOf] at hR hlw hmv hsub hner hlow hne F3 N3
    have hIr := neN (hne _ (.head _))
    have hneI : ∀ p ∈ led, p.1 ≠ I := fun p hp => hne p (.tail _ hp)
    have hmr := hsub _ hm
    have hlen : (ws ++ [Value.ref v]).length = i + 1 := by simp [hlw]
    have hlast : (ws ++ [Value.ref v]).toArray[(((i + 1 : Nat) : Int) - 1).toNat]? = some (.ref v) := by
      have e : (((i + 1 : Nat) : Int) - 1).toNat = ws.length := by omega
      rw [e]; simp
    have hib := Ed.lmul_in (a := av) (d := dv) (show (1 : Int) < q by omega) (x, y) i
    rcases hL : Ed.lmul q av dv (x, y) i with ⟨X, Y⟩
    rw [hL] at hmv hib
    dsimp only at hmv
    have hS : RowsAre q av dv (x, y) led (ws ++ [Value.ref v]) := hR.snoc (by rw [hlw, hL]; exact hmv)
    have hnx : Ed.lmul q av dv (x, y) (i + 1) = Ed.lplus q av dv (X, Y) (x, y) := by
      show Ed.lplus _ _ _ (Ed.lmul _ _ _ _ i) _ = _
      rw [hL]
    have hi8 : i < 2 * q + 8 := by omega
    (repeat' (first | (k_unfold; (try dsimp only)) | ((with_reducible show wpAny _ _ (execs (List.cons _ _) _) _ _ (Shared.mk _ _ _ (HAdd.hAdd _ _) _)); (rename Fr _ _ _ _ => Fq); refine stm8 Fq ?_; clear Fq; intro tkq mq Fq; (try k_fold)) | with_reducible (k_here; (with_reducible show wpAny _ _ (compareOp .Eq (Value.ref _) (Value.ref _)) _ _ _); k_dflt (refine' eq_t2 ?q1 ?q2 ?q3 ?q4 ?_; (case q1 => k_asm); (case q2 => k_mem); (case q3 => k_mem); (case q4 => ktr_units))) | with_reducible (k_here; (with_reducible show wpAny _ _ (subscriptTail _ _ (Value.ref _) (Value.int _ _)) _ _ _); k_dflt (refine' item_list ?q1 ?q2 ?q3 ?q4 ?_ ?q5 ?q6; (case q1 => exact News.isList (by k_asm) (by k_mem)); (case q4 => assumption); (case q2 => omega); (case q3 => omega); (case q5 => with_unfolding_all rfl); (case q6 => intro _; with_unfolding_all rfl))) | with_reducible (k_here; (with_reducible show wpAny _ _ (PySem.call (Value.ref 387) _) _ _ _); k_dflt (refine' Sp.use (c_lplus ?q1 ?q2 ?q3 ?q4 ?q5 ?q6 ?q7) ?k1 ?k2 ?k3 ?k4 ?k5 ?k6 ?k7 ?k8 ?k9 ?_; walk_at "use"; (case q6 => k_dflt k_mem); (case q7 => k_dflt k_mem); (case q1 => assumption); (case q2 => assumption); (case q3 => assumption); (case q4 => assumption); (case q5 => assumption)); unfold RT2; intro D9ᵣ t1ᵣ t2ᵣ h9ᵣ tk9ᵣ F9ᵣ N9ᵣ l1ᵣ; (try k_lt l1ᵣ); (try dsimp only); (try k_sweep); (try k_fold)) | with_reducible (k_here; (with_reducible show wpAny _ _ (PySem.call (Value.ref 21) _) _ _ _); k_dflt (refine' Sp.use (c_inv ?q1 ?q2 ?q3 ?q4) ?k1 ?k2 ?k3 ?k4 ?k5 ?k6 ?k7 ?k8 ?k9 ?_; walk_at "use"; (case q1 => assumption); (case q2 => assumption); (case q3 => omega); (case q4 => omega)); unfold RInv; intro i9ᵣ t9ᵣ h9ᵣ tk9ᵣ hi1ᵣ hi2ᵣ hi3ᵣ F9ᵣ N9ᵣ; (try dsimp only); (try k_sweep); (try k_fold)) | with_reducible (k_here; (with_reducible show wpAny _ _ (PySem.call (Value.ref 71) _) _ _ _); k_dflt (refine' Sp.use (c_ed_a ?q1 ?q2 ?q3) ?k1 ?k2 ?k3 ?k4 ?k5 ?k6 ?k7 ?k8 ?k9 ?_; walk_at "use"; (case q2 => k_dflt k_mem); (case q3 => k_dflt k_mem); (case q1 => k_dflt (exact ⟨rfl, rfl, rfl⟩))); unfold RV; intro h9ᵣ tk9ᵣ F9ᵣ N9ᵣ; (try dsimp only); (try k_sweep); (try k_fold)) | with_reducible (k_here; (with_reducible show wpAny _ _ (PySem.call (Value.ref 64) _) _ _ _); k_dflt (refine' Sp.use (c_ed_p ?q1 ?q2 ?q3) ?k1 ?k2 ?k3 ?k4 ?k5 ?k6 ?k7 ?k8 ?k9 ?_; walk_at "use"; (case q2 => k_dflt k_mem); (case q3 => k_dflt k_mem); (case q1 => k_dflt (exact ⟨rfl, rfl, rfl⟩))); unfold RV; intro h9ᵣ tk9ᵣ F9ᵣ N9ᵣ; (try dsimp only); (try k_sweep); (try k_fold)) | with_reducible (k_here; (with_reducible show wpAny _ _ (call (Value.builtin "len") [Value.ref _]) _ _ _); k_dflt (refine' kst_len ?q1 ?q2 ?q3 ?q4 ?_; (case q1 => k_asm); (case q2 => k_mem); (case q3 => assumption); (case q4 => omega))) | with_reducible (k_here; (with_reducible show wpAny _ _ (exec (Stmt.For _ _ _ _ _) _) _ _ _); (rename Fr _ _ _ _ => lF'); (with_unfolding_all refine' For_invVF lF' ?k1 ?k2 ?_; (case k1 => exact rfl); (case k2 => exact rfl); k_whole)) | with_reducible (k_here; (with_reducible show wpAny _ _ (subscriptTail _ _ (Value.ref _) (Value.int _ _)) _ _ _); k_dflt (refine' item_tupleT ?t ?a ?b ?c ?d ?_; (case t => exact News.isTup (by k_asm) (by k_mem)); (case a => decide); (case b => decide); (case c => rfl); (case d => rfl); k_whole)) | with_reducible (k_here; (with_reducible show wpAny _ _ (PySem.pyIter (Value.ref _)) _ _ _); refine Stop.of ?_) | walk1 | (dsimp only; walk1) | fail "no step"))
    · exact hret lR (ws ++ [Value.ref v]) n led _ _ hS (by rw [hlen]; omega) (by rw [hlen]; omega) (by rw [hlen, hnx]; assumption) (fun k h1 h2 => hlow k h1 (by rw [hlen] at h2; omega)) hsub (by k_asm) (by (exact cb_drop (by assumption) fun q hq => by repeat (first | exact hq | apply List.mem_cons_of_mem))) hner
    · (rename News _ _ _ _ => N9)
      (rename (I < _ ∧ lR < _ ∧ AllLt _ led) => l9)
      (rename ¬(_ = ((0 : Int), (1 : Int))) => hz)
      simp only [List.push_toArray] at N9
      revert l9
      refine withTup2 N9 ?_
      rintro D9 T1 T2 rfl rfl rfl l9
      refine lp_end ⟨ws ++ [Value.ref v], D9, n + 1, (D9, tup2 (Ed.lplus q av dv (X, Y) (x, y)).1 T1 (Ed.lplus q av dv (X, Y) (x, y)).2 T2) :: led⟩ (by k_asm) N9 ?_ (by k_dflt k_mem) ?_ (List.forall_mem_nil _) (by walk_at "same") ⟨hS.mono fun _ h => .tail _ h, hlen, ⟨_, _, by rw [hnx]; exact .head _⟩, fun p hp => .tail _ (hsub p hp), ?_, ?_⟩
      · exact List.forall_mem_cons.mpr ⟨.tail _ (.tail _ (.tail _ (.head _))), List.forall_mem_cons.mpr ⟨.tail _ (.head _), fun p hp => .tail _ (.tail _ (.tail _ (.tail _ hp)))⟩⟩
      · exact List.forall_mem_cons.mpr ⟨hIr, List.forall_mem_cons.mpr ⟨Nat.ne_of_gt l9.1, hneI⟩⟩
      · exact List.forall_mem_cons.mpr ⟨Nat.ne_of_gt l9.2.1, hner⟩
      · intro k h1 h2
        by_cases hk9 : k ≤ i
        · exact hlow k h1 hk9
        · rw [show k = i + 1 by omega, hnx]; exact hz)
  (case zd =>
    rintro ⟨ws, v, n, led⟩ u h tk ⟨hR, hlw, _, hsub, hner, hlow⟩ F3 N3
    exfalso
    obtain ⟨k, h1, h2, h3⟩ := Ed.exists_ret hcv (P := (x, y)) hon
    exact hlow k h1 (by omega) h3)
end
-- L05t
section
theorem arr2_0 {a b : Value} : (#[a, b] : Array Value)[(0 : Int).toNat]? = some a := rfl
theorem arr2_1 {a b : Value} : (#[a, b] : Array Value)[(1 : Int).toNat]? = some b := rfl
theorem set2_0 {prog : Program} {w : World} {A : Around} {E : Value → Shared → Prop} {s : Shared} {h₀ : Heap} {L D : Addr} {m : Str → Option Value} {news news' : List (Addr × Obj)} {a b v : Value} {n : Nat} {t : Tok} {Q : Unit → Shared → Prop} (F : Fr h₀ L s.heap m) (N : News h₀ L s.heap news) (U : Upd D (listOf #[a, b] n) (listOf #[v, b] n) news news')
    (h : ∀ h', Fr h₀ L h' m → News h₀ L h' news' → Q () { s with heap := h' }) :
    wpAny (model prog w) A (setItem (.ref D) (.int 0 t) v) Q E s := by
  obtain ⟨pre, post, rfl, rfl, a', b'⟩ := U.split
  have z := N (D, listOf #[a, b] n) (List.mem_append.mpr (.inr (.head _)))
  refine ki_setAt z.1 (by decide) (by decide) (by simp) (h _ (F.change (Heap.SameBut.update ..) z.2.1 z.2.2) (ki_turn _ N a' b' ?_ ?_))
  · rfl
  · simp
theorem set_nonneg {ns : List Int} {j : Nat} {y : Int} (h : ∀ x ∈ ns, (0 : Int) ≤ x) (hy : 0 ≤ y) : ∀ x ∈ ns.set j y, (0 : Int) ≤ x := fun x hx => by
  rcases List.mem_or_eq_of_mem_set hx with e | e
  · exact h x e
  · rw [e]; exact hy
variable {w : World} {mean : ExcName → Option Value} {mg mb : Str → Option Value}
def RTake (S C : Addr) (most : Int) (at0 : Int) (ln : Nat) (news : List (Addr × Obj)) (h₀ : Heap) (L : Addr) (m : Str → Option Value) (s : Shared) (Q : Value → Shared → Prop) : Prop :=
  ∀ r tr at' ta' vs' ns' zs' zc' h' tk', 0 ≤ r → r < most → IntsAre vs' ns' → ns'.length = ln → (∀ x ∈ ns', (0 : Int) ≤ x) → 0 ≤ at' → at' ≤ at0 + 1 → Fr h₀ L h' m →
    News h₀ L h' ((S, W.listOf #[Value.int at' ta', Value.ref C] zs') :: (C, W.listOf vs'.toArray zc') :: news) → Q (.int r tr) { s with heap := h', toks := tk' }
theorem c_take {news : List (Addr × Obj)} {S C : Addr} {at0 most : Int} {ta tm : Tok} {vs : List Value} {ns : List Int} {zs zc : Nat} (hi : IntsAre vs ns) (h0 : ∀ x ∈ ns, (0 : Int) ≤ x) (hl : 1 ≤ ns.length ∧ ns.length ≤ 63) (hat : 0 ≤ at0 ∧ at0 ≤ 100000) (hmo : 0 < most ∧ most ≤ 1000000000) (hne : S ≠ C) (hS : ∀ p ∈ news, p.1 ≠ S) (hC : ∀ p ∈ news, p.1 ≠ C) :
    Sp PR w (hd.heap_39 w.params) topProg LO mean mg mb 1 12 (call (.ref 361) [.ref S, .int most tm]) ((S, W.listOf #[Value.int at0 ta, Value.ref C] zs) :: (C, W.listOf vs.toArray zc) :: news) (fun _ => True) (RTake S C most at0 ns.length news) := by
  have hvl : vs.length = ns.length := hi.length
  have hj := Ed.fm_bd (show (0 : Int) < (ns.length : Int) by omega) at0
  have hjl : (at0.fmod (ns.length : Int)).toNat < vs.length := by omega
  obtain ⟨c, tc, hc, hcn⟩ := ints_at hi (List.getElem?_eq_getElem hjl)
  have hx9 : vs.toArray[(at0.fmod (ns.length : Int)).toNat]? = some (.int c tc) := by rw [← hc]; simp [hjl]
  have hc0 := h0 c (List.mem_of_getElem? hcn)
  have hcd : ns.getD (at0.fmod (ns.length : Int)).toNat 0 = c := by rw [List.getD_eq_getElem?_getD, hcn]; rfl
  have hcd0 : 0 ≤ ns.getD (at0.fmod (ns.length : Int)).toNat 0 := by omega
  have hne1 : @Ne Nat S C := hne
  (try unfold PR LO); k_fill; w_top off
  unfold Sp
  intro dp un gd cn cs a ccd cl outer A₀ base h₀ L M s Q E B F X N T hk hd hu hpre hret
  try dsimp only at hpre
  refine wpAny_call ?_
  k_dflt cell_enter
  unfold RTake at hret
  (repeat' (first | (k_unfold; (try dsimp only)) | ((with_reducible show wpAny _ _ (execs (List.cons _ _) _) _ _ (Shared.mk _ _ _ (HAdd.hAdd _ _) _)); (rename Fr _ _ _ _ => Fq); refine stm8 Fq ?_; clear Fq; intro tkq mq Fq; (try k_fold)) | with_reducible (k_here; (with_reducible show wpAny _ _ (setItem (Value.ref _) (Value.int 0 _) _) _ _ _); k_dflt (refine' set2_0 ?k1 ?k2 ?k3 ?_; (case k1 => k_asm); (case k2 => k_asm); (case k3 => k_upd)); intro h'ᵣ F'ᵣ N'ᵣ; (try k_sweep)) | with_reducible (k_here; (with_reducible show wpAny _ _ (subscriptTail _ _ (Value.ref _) (Value.int _ _)) _ _ _); (first | (with_reducible show wpAny _ _ (subscriptTail _ _ (Value.ref _) (Value.int 0 _)) _ _ _) | (with_reducible show wpAny _ _ (subscriptTail _ _ (Value.ref _) (Value.int 1 _)) _ _ _)); k_dflt (refine' item_list ?q1 ?q2 ?q3 ?q4 ?_ ?q5 ?q6; (case q1 => exact News.isList (by k_asm) (by k_mem)); (case q4 => first | assumption | exact arr2_0 | exact arr2_1); (case q2 => omega); (case q3 => omega); (case q5 => with_unfolding_all rfl); (case q6 => intro _; with_unfolding_all rfl))) | with_reducible (k_here; (with_reducible show wpAny _ _ (PySem.call (Value.ref 21) _) _ _ _); k_dflt (refine' Sp.use (c_inv ?q1 ?q2 ?q3 ?q4) ?k1 ?k2 ?k3 ?k4 ?k5 ?k6 ?k7 ?k8 ?k9 ?_; walk_at "use"; (case q1 => assumption); (case q2 => assumption); (case q3 => omega); (case q4 => omega)); unfold RInv; intro i9ᵣ t9ᵣ h9ᵣ tk9ᵣ hi1ᵣ hi2ᵣ hi3ᵣ F9ᵣ N9ᵣ; (try dsimp only); (try k_sweep); (try k_fold)) | with_reducible (k_here; (with_reducible show wpAny _ _ (PySem.call (Value.ref 71) _) _ _ _); k_dflt (refine' Sp.use (c_ed_a ?q1 ?q2 ?q3) ?k1 ?k2 ?k3 ?k4 ?k5 ?k6 ?k7 ?k8 ?k9 ?_; walk_at "use"; (case q2 => k_dflt k_mem); (case q3 => k_dflt k_mem); (case q1 => k_dflt (exact ⟨rfl, rfl, rfl⟩))); unfold RV; intro h9ᵣ tk9ᵣ F9ᵣ N9ᵣ; (try dsimp only); (try k_sweep); (try k_fold)) | with_reducible (k_here; (with_reducible show wpAny _ _ (PySem.call (Value.ref 64) _) _ _ _); k_dflt (refine' Sp.use (c_ed_p ?q1 ?q2 ?q3) ?k1 ?k2 ?k3 ?k4 ?k5 ?k6 ?k7 ?k8 ?k9 ?_; walk_at "use"; (case q2 => k_dflt k_mem); (case q3 => k_dflt k_mem); (case q1 => k_dflt (exact ⟨rfl, rfl, rfl⟩))); unfold RV; intro h9ᵣ tk9ᵣ F9ᵣ N9ᵣ; (try dsimp only); (try k_sweep); (try k_fold)) | with_reducible (k_here; (with_reducible show wpAny _ _ (call (Value.builtin "len") [Value.ref _]) _ _ _); k_dflt (refine' kst_len ?q1 ?q2 ?q3 ?q4 ?_; (case q1 => k_asm); (case q2 => k_mem); (case q3 => assumption); (case q4 => omega))) | with_reducible (k_here; (with_reducible show wpAny _ _ (exec (Stmt.For _ _ _ _ _) _) _ _ _); (rename Fr _ _ _ _ => lF'); (with_unfolding_all refine' For_invVF lF' ?k1 ?k2 ?_; (case k1 => exact rfl); (case k2 => exact rfl); k_whole)) | with_reducible (k_here; (with_reducible show wpAny _ _ (subscriptTail _ _ (Value.ref _) (Value.int _ _)) _ _ _); k_dflt (refine' item_tupleT ?t ?a ?b ?c ?d ?_; (case t => exact News.isTup (by k_asm) (by k_mem)); (case a => decide); (case b => decide); (case c => rfl); (case d => rfl); k_whole)) | with_reducible (k_here; (with_reducible show wpAny _ _ (PySem.pyIter (Value.ref _)) _ _ _); refine Stop.of ?_) | walk1 | (dsimp only; walk1) | fail "no step"))
  · have hfm := Ed.fm_bd hmo.1 (ns.getD (at0.fmod (ns.length : Int)).toNat 0)
    (rename News _ _ _ _ => N9)
    exact hret _ _ at0 _ (vs.set (at0.fmod (ns.length : Int)).toNat _) _ _ _ _ _ hfm.1 hfm.2 (ints_set hi _) (by rw [List.length_set]) (set_nonneg h0 (by rw [Int.fdiv_eq_ediv_of_nonneg _ (by omega)]; exact Int.ediv_nonneg hcd0 (by omega))) (by omega) (by omega) (by k_asm) N9
  · (rename News _ _ _ _ => N9)
    have hfm := fun v : Int => Ed.fm_bd hmo.1 v
    exact hret _ _ (at0 + 1) _ vs ns _ _ _ _ (hfm _).1 (hfm _).2 hi rfl h0 (by omega) (by omega) (by k_asm) N9
/-- the state's cells -/
structure StI (vs : List Value) (ns : List Int) (at0 A : Int) : Prop where
  is : IntsAre vs ns
  nn : ∀ x ∈ ns, (0 : Int) ≤ x
  ln : 1 ≤ ns.length ∧ ns.length ≤ 63
  bd : 0 ≤ at0 ∧ at0 ≤ A
theorem StI.mono {vs : List Value} {ns : List Int} {at0 A B : Int} (h : StI vs ns at0 A) (hb : A ≤ B) : StI vs ns at0 B := ⟨h.is, h.nn, h.ln, by have := h.bd; omega⟩
abbrev stO (at0 : Int) (ta : Tok) (C : Addr) (zs : Nat) : Obj := W.listOf #[Value.int at0 ta, Value.ref C] zs
def RTakeU (C : Addr) (most A : Int) (f : Obj → Obj → List (Addr × Obj)) (h₀ : Heap) (L : Addr) (m : Str → Option Value) (s : Shared) (Q : Value → Shared → Prop) : Prop :=
  ∀ r tr at' ta' vs' ns' zs' zc' h' tk', 0 ≤ r → r < most → StI vs' ns' at' (A + 1) → Fr h₀ L h' m → News h₀ L h' (f (stO at' ta' C zs') (W.listOf vs'.toArray zc')) → Q (.int r tr) { s with heap := h', toks := tk' }
theorem c_takeU {news : List (Addr × Obj)} {g : Obj → List (Addr × Obj)} {f : Obj → Obj → List (Addr × Obj)} {S C : Addr} {at0 most A : Int} {ta tm : Tok} {vs : List Value} {ns : List Int} {zs zc : Nat} (hst : StI vs ns at0 A) (hA : A ≤ 100000) (hmo : 0 < most ∧ most ≤ 1000000000) (hne : S ≠ C)
    (U1 : UpdF S (stO at0 ta C zs) news g) (U2 : ∀ o, UpdF C (W.listOf vs.toArray zc) (g o) (f o)) :
    Sp PR w (hd.heap_39 w.params) topProg LO mean mg mb 1 12 (call (.ref 361) [.ref S, .int most tm]) news (fun _ => True) (RTakeU C most A f) := by
  obtain ⟨hi, h0, hl, hat⟩ := hst
  have hb := c_take (w := w) (mean := mean) (mg := mg) (mb := mb) (news := news.filter fun q => q.1 != S && q.1 != C) (S := S) (C := C) (ta := ta) (tm := tm) (zs := zs) (zc := zc) hi h0 hl ⟨hat.1, by omega⟩ hmo hne
    (fun p hp => by have := (List.mem_filter.mp hp).2; simp only [Bool.and_eq_true, bne_iff_ne] at this; exact this.1)
    (fun p hp => by have := (List.mem_filter.mp hp).2; simp only [Bool.and_eq_true, bne_iff_ne] at this; exact this.2)
  obtain ⟨pre, post, e1, e2, a1, b1⟩ := U1.split
  have mS : (S, stO at0 ta C zs) ∈ news := by rw [e1]; exact List.mem_append.mpr (.inr (.head _))
  have mg : ∀ o q, q ∈ g o → q = (S, o) ∨ q ∈ news ∧ q.1 ≠ S := fun o q hq => by
    rw [e2] at hq
    rcases List.mem_append.mp hq with h | h
    · exact .inr ⟨by rw [e1]; exact List.mem_append.mpr (.inl h), a1 q h⟩
    · rcases List.mem_cons.mp h with h | h
      · exact .inl h
      · exact .inr ⟨by rw [e1]; exact List.mem_append.mpr (.inr (.tail _ h)), b1 q h⟩
  have mC : (C, W.listOf vs.toArray zc) ∈ news := by
    obtain ⟨pre2, post2, e3, _, _, _⟩ := (U2 (stO at0 ta C zs)).split
    have h := mg (stO at0 ta C zs) (C, W.listOf vs.toArray zc) (by rw [e3]; exact List.mem_append.mpr (.inr (.head _)))
    rcases h with h | h
    · exact absurd (congrArg Prod.fst h) (fun e => hne e.symm)
    · exact h.1
  have mf : ∀ o o' q, q ∈ f o o' → q = (C, o') ∨ q ∈ g o ∧ q.1 ≠ C := fun o o' q hq => by
    obtain ⟨pre2, post2, e3, e4, a2, b2⟩ := (U2 o).split
    rw [e4] at hq
    rcases List.mem_append.mp hq with h | h
    · exact .inr ⟨by rw [e3]; exact List.mem_append.mpr (.inl h), a2 q h⟩
    · rcases List.mem_cons.mp h with h | h
      · exact .inl h
      · exact .inr ⟨by rw [e3]; exact List.mem_append.mpr (.inr (.tail _ h)), b2 q h⟩
  intro dp un gd cn cs a ccd cl outer A₀ base h₀ L M s Q E B F X N T hk hd hu hpre hret
  refine hb dp un gd cn cs a ccd cl outer A₀ base h₀ L M s Q E B F X (fun p hp => ?_) T hk hd hu hpre ?_
  · rcases List.mem_cons.mp hp with h | hp
    · rw [h]; exact N _ mS
    · rcases List.mem_cons.mp hp with h | hp
      · rw [h]; exact N _ mC
      · exact N _ (List.mem_filter.mp hp).1
  · intro r tr at' ta' vs' ns' zs' zc' h' tk' r0 r1 hi' hl' h0' at0' at1' F' N'
    refine hret r tr at' ta' vs' ns' zs' zc' h' tk' r0 r1 ⟨hi', h0', by omega, by omega⟩ F' (fun q hq => ?_)
    rcases mf _ _ q hq with h | ⟨h, nC⟩
    · rw [h]; exact N' _ (.tail _ (.head _))
    · rcases mg _ q h with h | ⟨h, nS⟩
      · rw [h]; exact N' _ (.head _)
      · exact N' _ (.tail _ (.tail _ (List.mem_filter.mpr ⟨h, by simp only [Bool.and_eq_true, bne_iff_ne]; exact ⟨nS, nC⟩⟩)))
end

-- L05u
section
variable {w : World} {mean : ExcName → Option Value} {mg mb : Str → Option Value}
def RNumU (C : Addr) (A : Int) (f : Obj → Obj → List (Addr × Obj)) (h₀ : Heap) (L : Addr) (m : Str → Option Value) (s : Shared) (Q : Value → Shared → Prop) : Prop :=
  ∀ r tr at' ta' vs' ns' zs' zc' h' tk', -1000000000000000000 ≤ r → r ≤ 1000000000000000000 → StI vs' ns' at' (A + 3) → Fr h₀ L h' m → News h₀ L h' (f (stO at' ta' C zs') (W.listOf vs'.toArray zc')) → Q (.int r tr) { s with heap := h', toks := tk' }
theorem c_number {news : List (Addr × Obj)} {S C : Addr} {at0 A : Int} {ta : Tok} {vs : List Value} {ns : List Int} {zs zc : Nat} (hst : StI vs ns at0 A) (hA : A ≤ 10000) (hne : S ≠ C) (hS : ∀ p ∈ news, p.1 ≠ S) (hC : ∀ p ∈ news, p.1 ≠ C) :
    Sp PR w (hd.heap_39 w.params) topProg LO mean mg mb 3 40 (call (.ref 422) [.ref S]) ((S, stO at0 ta C zs) :: (C, W.listOf vs.toArray zc) :: news) (fun _ => True) (RNumU C A (fun o o' => (S, o) :: (C, o') :: news)) := by
  have hne1 : @Ne Nat S C := hne
  have hne2 : @Ne Nat C S := fun e => hne e.symm
  (try unfold PR LO); k_fill; w_top off
  unfold Sp
  intro dp un gd cn cs a ccd cl outer A₀ base h₀ L M s Q E B F X N T hk hd hu hpre hret
  try dsimp only at hpre
  refine wpAny_call ?_
  k_dflt cell_enter
  unfold RNumU at hret
  (repeat' (first | (k_unfold; (try dsimp only)) | ((with_reducible show wpAny _ _ (execs (List.cons _ _) _) _ _ (Shared.mk _ _ _ (HAdd.hAdd _ _) _)); (rename Fr _ _ _ _ => Fq); refine stm8 Fq ?_; clear Fq; intro tkq mq Fq; (try k_fold)) | with_reducible (k_here; (with_reducible show wpAny _ _ (PySem.call (Value.ref 361) _) _ _ _); k_dflt (refine' Sp.use (c_takeU ?q1 ?q2 ?q3 ?q4 ?q5 ?q6) ?k1 ?k2 ?k3 ?k4 ?k5 ?k6 ?k7 ?k8 ?k9 ?_; walk_at "use"; (case q5 => k_updF); (case q6 => (intro o9ᵣ; k_updF)); (case q1 => with_reducible assumption); (case q2 => omega); (case q3 => first | omega | decide); (case q4 => assumption)); unfold RTakeU; intro r9ᵣ tr9ᵣ at9ᵣ ta9ᵣ vs9ᵣ ns9ᵣ zs9ᵣ zc9ᵣ h9ᵣ tk9ᵣ hr91ᵣ hr92ᵣ hst9ᵣ F9ᵣ N9ᵣ; (try dsimp only at N9ᵣ ⊢); (try k_sweep); (try k_fold)) | with_reducible (k_here; (with_reducible show wpAny _ _ (PySem.call (Value.ref 21) _) _ _ _); k_dflt (refine' Sp.use (c_inv ?q1 ?q2 ?q3 ?q4) ?k1 ?k2 ?k3 ?k4 ?k5 ?k6 ?k7 ?k8 ?k9 ?_; walk_at "use"; (case q1 => assumption); (case q2 => assumption); (case q3 => omega); (case q4 => omega)); unfold RInv; intro i9ᵣ t9ᵣ h9ᵣ tk9ᵣ hi1ᵣ hi2ᵣ hi3ᵣ F9ᵣ N9ᵣ; (try dsimp only); (try k_sweep); (try k_fold)) | with_reducible (k_here; (with_reducible show wpAny _ _ (PySem.call (Value.ref 71) _) _ _ _); k_dflt (refine' Sp.use (c_ed_a ?q1 ?q2 ?q3) ?k1 ?k2 ?k3 ?k4 ?k5 ?k6 ?k7 ?k8 ?k9 ?_; walk_at "use"; (case q2 => k_dflt k_mem); (case q3 => k_dflt k_mem); (case q1 => k_dflt (exact ⟨rfl, rfl, rfl⟩))); unfold RV; intro h9ᵣ tk9ᵣ F9ᵣ N9ᵣ; (try dsimp only); (try k_sweep); (try k_fold)) | with_reducible (k_here; (with_reducible show wpAny _ _ (PySem.call (Value.ref 64) _) _ _ _); k_dflt (refine' Sp.use (c_ed_p ?q1 ?q2 ?q3) ?k1 ?k2 ?k3 ?k4 ?k5 ?k6 ?k7 ?k8 ?k9 ?_; walk_at "use"; (case q2 => k_dflt k_mem); (case q3 => k_dflt k_mem); (case q1 => k_dflt (exact ⟨rfl, rfl, rfl⟩))); unfold RV; intro h9ᵣ tk9ᵣ F9ᵣ N9ᵣ; (try dsimp only); (try k_sweep); (try k_fold)) | with_reducible (k_here; (with_reducible show wpAny _ _ (call (Value.builtin "len") [Value.ref _]) _ _ _); k_dflt (refine' kst_len ?q1 ?q2 ?q3 ?q4 ?_; (case q1 => k_asm); (case q2 => k_mem); (case q3 => assumption); (case q4 => omega))) | with_reducible (k_here; (with_reducible show wpAny _ _ (exec (Stmt.For _ _ _ _ _) _) _ _ _); (rename Fr _ _ _ _ => lF'); (with_unfolding_all refine' For_invVF lF' ?k1 ?k2 ?_; (case k1 => exact rfl); (case k2 => exact rfl); k_whole)) | with_reducible (k_here; (with_reducible show wpAny _ _ (subscriptTail _ _ (Value.ref _) (Value.int _ _)) _ _ _); k_dflt (refine' item_tupleT ?t ?a ?b ?c ?d ?_; (case t => exact News.isTup (by k_asm) (by k_mem)); (case a => decide); (case b => decide); (case c => rfl); (case d => rfl); k_whole)) | with_reducible (k_here; (with_reducible show wpAny _ _ (PySem.pyIter (Value.ref _)) _ _ _); refine Stop.of ?_) | walk1 | (dsimp only; walk1) | fail "no step"))
  · have e10 : (10 : Int) ^ Int.toNat 9 = 1000000000 := by decide
    simp only [e10] at *
    exact hret _ _ _ _ _ _ _ _ _ _ (by omega) (by omega) (StI.mono (by assumption) (by omega)) (by k_asm) (by k_asm)
  · exact hret _ _ _ _ _ _ _ _ _ _ (by omega) (by omega) (StI.mono (by assumption) (by omega)) (by k_asm) (by k_asm)
theorem pick63 {vs : List Value} (h : vs.length ≤ 63) : kms_pick vs.toArray.toList none (some 63) = vs := by
  show (vs.drop 0).take (min 63 vs.length - 0) = vs
  rw [List.drop_zero]
  exact List.take_of_length_le (by omega)
def RState (news : List (Addr × Obj)) (h₀ : Heap) (L : Addr) (m : Str → Option Value) (s : Shared) (Q : Value → Shared → Prop) : Prop :=
  ∀ S C ta vs' ns' zs' zc' h' tk', S ≠ C → StI vs' ns' 0 0 → Fr h₀ L h' m → News h₀ L h' ((S, stO 0 ta C zs') :: (C, W.listOf vs'.toArray zc') :: news) → (∀ p ∈ news, p.1 ≠ S) → (∀ p ∈ news, p.1 ≠ C) → Q (.ref S) { s with heap := h', toks := tk' }
theorem c_state {e1 : Addr} {o1 : Obj} {l : Addr} {vs : List Value} {ns : List Int} (hi : IntsAre vs ns) (hlen : ns.length ≤ 63) :
    Sp PR w (hd.heap_39 w.params) topProg LO mean mg mb 3 40 (call (.ref 354) [.ref l]) [(e1, o1)] (fun base => base.IsList l vs.toArray) (RState [(e1, o1)]) := by
  have hvl := hi.length
  (try unfold PR LO); k_fill
  unfold Sp
  intro dp un gd cn cs a ccd cl outer A₀ base h₀ L M s Q E B F X N T hk hd hu hpre hret
  try dsimp only at hpre
  refine wpAny_call ?_
  k_dflt cell_enter
  (rename Below _ _ _ _ => B9)
  have hL9 := hpre.at fun o e => B9.stays _ _ e
  unfold RState at hret
  (repeat' (first | (k_unfold; (try dsimp only)) | ((with_reducible show wpAny _ _ (execs (List.cons _ _) _) _ _ (Shared.mk _ _ _ (HAdd.hAdd _ _) _)); (rename Fr _ _ _ _ => Fq); refine stm8 Fq ?_; clear Fq; intro tkq mq Fq; (try k_fold)) | with_reducible (k_here; (with_reducible show wpAny _ _ (subscriptTail _ _ (Value.ref _) (Value.ref _)) _ _ _); k_dflt (refine' kms_slice_lit ?F ?N ?l ?p ?q ?e ?_ ?s ?t ?z; (case F => k_asm); (case N => k_asm); (case l => exact Fr.lst (by k_asm) (by k_asm)); (case p => kmk_part); (case q => kmk_part); (case e => exact pick63 (by omega)); (case s => with_unfolding_all rfl); (case t => kmk_pure); (case z => (rw [List.size_toArray, sizeLine_eq]; omega))); intro D'ᵣ h'ᵣ F'ᵣ N'ᵣ l1ᵣ; (try k_lt l1ᵣ); (try k_sweep)) | with_reducible (k_here; (with_reducible show wpAny _ _ (PySem.call (Value.ref 361) _) _ _ _); k_dflt (refine' Sp.use (c_takeU ?q1 ?q2 ?q3 ?q4 ?q5 ?q6) ?k1 ?k2 ?k3 ?k4 ?k5 ?k6 ?k7 ?k8 ?k9 ?_; walk_at "use"; (case q5 => k_updF); (case q6 => (intro o9ᵣ; k_updF)); (case q1 => with_reducible assumption); (case q2 => omega); (case q3 => first | omega | decide); (case q4 => assumption)); unfold RTakeU; intro r9ᵣ tr9ᵣ at9ᵣ ta9ᵣ vs9ᵣ ns9ᵣ zs9ᵣ zc9ᵣ h9ᵣ tk9ᵣ hr91ᵣ hr92ᵣ hst9ᵣ F9ᵣ N9ᵣ; (try dsimp only at N9ᵣ ⊢); (try k_sweep); (try k_fold)) | with_reducible (k_here; (with_reducible show wpAny _ _ (PySem.call (Value.ref 21) _) _ _ _); k_dflt (refine' Sp.use (c_inv ?q1 ?q2 ?q3 ?q4) ?k1 ?k2 ?k3 ?k4 ?k5 ?k6 ?k7 ?k8 ?k9 ?_; walk_at "use"; (case q1 => assumption); (case q2 => assumption); (case q3 => omega); (case q4 => omega)); unfold RInv; intro i9ᵣ t9ᵣ h9ᵣ tk9ᵣ hi1ᵣ hi2ᵣ hi3ᵣ F9ᵣ N9ᵣ; (try dsimp only); (try k_sweep); (try k_fold)) | with_reducible (k_here; (with_reducible show wpAny _ _ (PySem.call (Value.ref 71) _) _ _ _); k_dflt (refine' Sp.use (c_ed_a ?q1 ?q2 ?q3) ?k1 ?k2 ?k3 ?k4 ?k5 ?k6 ?k7 ?k8 ?k9 ?_; walk_at "use"; (case q2 => k_dflt k_mem); (case q3 => k_dflt k_mem); (case q1 => k_dflt (exact ⟨rfl, rfl, rfl⟩))); unfold RV; intro h9ᵣ tk9ᵣ F9ᵣ N9ᵣ; (try dsimp only); (try k_sweep); (try k_fold)) | with_reducible (k_here; (with_reducible show wpAny _ _ (PySem.call (Value.ref 64) _) _ _ _); k_dflt (refine' Sp.use (c_ed_p ?q1 ?q2 ?q3) ?k1 ?k2 ?k3 ?k4 ?k5 ?k6 ?k7 ?k8 ?k9 ?_; walk_at "use"; (case q2 => k_dflt k_mem); (case q3 => k_dflt k_mem); (case q1 => k_dflt (exact ⟨rfl, rfl, rfl⟩))); unfold RV; intro h9ᵣ tk9ᵣ F9ᵣ N9ᵣ; (try dsimp only); (try k_sweep); (try k_fold)) | with_reducible (k_here; (with_reducible show wpAny _ _ (call (Value.builtin "len") [Value.ref _]) _ _ _); k_dflt (refine' kst_len ?q1 ?q2 ?q3 ?q4 ?_; (case q1 => k_asm); (case q2 => k_mem); (case q3 => assumption); (case q4 => omega))) | with_reducible (k_here; (with_reducible show wpAny _ _ (exec (Stmt.For _ _ _ _ _) _) _ _ _); (rename Fr _ _ _ _ => lF'); (with_unfolding_all refine' For_invVF lF' ?k1 ?k2 ?_; (case k1 => exact rfl); (case k2 => exact rfl); k_whole)) | with_reducible (k_here; (with_reducible show wpAny _ _ (subscriptTail _ _ (Value.ref _) (Value.int _ _)) _ _ _); k_dflt (refine' item_tupleT ?t ?a ?b ?c ?d ?_; (case t => exact News.isTup (by k_asm) (by k_mem)); (case a => decide); (case b => decide); (case c => rfl); (case d => rfl); k_whole)) | with_reducible (k_here; (with_reducible show wpAny _ _ (PySem.pyIter (Value.ref _)) _ _ _); refine Stop.of ?_) | walk1 | (dsimp only; walk1) | fail "no step"))
  · (rename News _ _ _ _ => N9)
    (rename (_ < _ ∧ _ < _ ∧ _ < _ ∧ _ < _) => l9)
    (rename (_ < _ ∧ _ < _ ∧ _ < _) => l8)
    exact hret _ _ _ [.int 0 _] [0] _ _ _ _ (Nat.ne_of_gt l9.1) ⟨.cons _ _ .nil, by simp, by simp, by omega⟩ (by k_asm) (cb_drop N9 (List.forall_mem_cons.mpr ⟨.head _, List.forall_mem_cons.mpr ⟨.tail _ (.head _), fun p hp => .tail _ (.tail _ (.tail _ (.tail _ hp)))⟩⟩)) (List.forall_mem_cons.mpr ⟨Nat.ne_of_lt l9.2.2.2, List.forall_mem_nil _⟩) (List.forall_mem_cons.mpr ⟨Nat.ne_of_lt l8.2.2, List.forall_mem_nil _⟩)
  · (rename News _ _ _ _ => N9)
    (rename IntsAre _ (List.map _ _) => hi9)
    (rename (_ < _ ∧ _ < _ ∧ _ < _) => l8)
    (rename (_ ≠ _ ∧ _ ≠ _) => o8)
    refine (fun {ys : List Value} (hi8 : IntsAre ys _) (N8 : News _ _ _ ((_, stO 0 _ _ 0) :: (_, LCg.lst ys) :: _)) => hret _ _ _ ys _ 0 ys.length _ _ (Nat.ne_of_gt l8.1) ⟨hi8, ?_, ?_, by omega⟩ (by k_asm) (cb_drop N8 (List.forall_mem_cons.mpr ⟨.head _, List.forall_mem_cons.mpr ⟨.tail _ (.head _), fun p hp => .tail _ (.tail _ (.tail _ hp))⟩⟩)) (List.forall_mem_cons.mpr ⟨Nat.ne_of_lt l8.2.2, List.forall_mem_nil _⟩) (List.forall_mem_cons.mpr ⟨o8.2, List.forall_mem_nil _⟩)) hi9 N9
    · intro x hx
      obtain ⟨y, _, rfl⟩ := List.mem_map.mp hx
      split <;> omega
    · simp only [List.length_map] at *; omega
end
-- L05w
section
local macro_rules | `(tactic| walk_at "execs cons") => `(tactic| (k_here; dsimp only; walk_at "execs cons"))
local macro_rules | `(tactic| walk_at "execs nil") => `(tactic| (k_here; dsimp only; walk_at "execs nil"))
variable {w : World} {mean : ExcName → Option Value} {mg mb : Str → Option Value}
/-- a point of the curve, a tuple of the ledger -/
def OnPt (q : Nat) (a d : Int) (led : List (Addr × Obj)) (v : Value) : Prop :=
  ∃ r x t y u, v = .ref r ∧ (r, tup2 x t y u) ∈ led ∧ Ed.InB q (x, y) ∧ (a * x * x + y * y - 1 - d * x * x * y * y).fmod q = 0
theorem OnPt.mono {q : Nat} {a d : Int} {led led' : List (Addr × Obj)} {v : Value} (hs : ∀ p ∈ led, p ∈ led') (h : OnPt q a d led v) : OnPt q a d led' v := by
  obtain ⟨r, x, t, y, u, e, hm, h1, h2⟩ := h
  exact ⟨r, x, t, y, u, e, hs _ hm, h1, h2⟩
theorem withAddr1 {G : Prop} {h₀ h : Heap} {L a : Addr} {oa : Obj} {led : List (Addr × Obj)} (_N : News h₀ L h ((a, oa) :: led)) (k : ∀ x, x = a → G) : G := k a rfl
set_option genInjectivity false in
set_option genSizeOf false in
structure PS5 where
  vs : List Value
  n : Nat
  led : List (Addr × Obj)
def PtO (q : Nat) (a d : Int) (news : List (Addr × Obj)) (pl : Addr) (i : Nat) (c : PS5) : Prop :=
  (∀ v ∈ c.vs, OnPt q a d c.led v) ∧ (1 ≤ i → 1 ≤ c.vs.length) ∧ c.vs.length ≤ i * 101 ∧ (∀ p ∈ news, p ∈ c.led) ∧ ∀ p ∈ c.led, p.1 ≠ pl
def PtI (q : Nat) (a d : Int) (news : List (Addr × Obj)) (pl I : Addr) (i j : Nat) (c : PS5) : Prop :=
  (∀ v ∈ c.vs, OnPt q a d c.led v) ∧ (1 ≤ i → 1 ≤ c.vs.length) ∧ (i = 0 → 2 ≤ j → 1 ≤ c.vs.length) ∧ c.vs.length ≤ i * 101 + j ∧ (∀ p ∈ news, p ∈ c.led) ∧ (∀ p ∈ c.led, p.1 ≠ pl) ∧ ∀ p ∈ c.led, p.1 ≠ I
def RPts5 (q : Nat) (a d : Int) (news : List (Addr × Obj)) (h₀ : Heap) (L : Addr) (m : Str → Option Value) (s : Shared) (Q : Value → Shared → Prop) : Prop :=
  ∀ l (vs : List Value) n led h' tk', (∀ v ∈ vs, OnPt q a d led v) → 1 ≤ vs.length → vs.length ≤ 10201 → (∀ p ∈ news, p ∈ led) → (∀ p ∈ led, p.1 ≠ l) → Fr h₀ L h' m → News h₀ L h' ((l, W.listOf vs.toArray n) :: led) → Q (.ref l) { s with heap := h', toks := tk' }
theorem c_lpoints {news : List (Addr × Obj)} {q : Nat} {av dv : Int} {t1 t2 t3 : Tok} (hq : 5 ≤ (q : Int) ∧ (q : Int) ≤ 101) (ha : 0 ≤ av ∧ av < q) (hd9 : 0 ≤ dv ∧ dv < q) :
    Sp PR w (hd.heap_39 w.params) topProg LO mean mg mb 1 12 (call (.ref 373) [.int (q : Int) t1, .int av t2, .int dv t3]) news (fun _ => True) (RPts5 q av dv news) := by
  obtain ⟨hq1, hq2⟩ := hq
  have h01 : (av * (0 + (0 : Int)) * (0 + 0) + (0 + 1) * (0 + 1) - 1 - dv * (0 + 0) * (0 + 0) * (0 + 1) * (0 + 1)).fmod (q : Int) = 0 := by simp
  (try unfold PR LO); k_fill; w_top off
  unfold Sp
  intro dp un gd cn cs a ccd cl outer A₀ base h₀ L M s Q E B F X N T hk hd hu hpre hret
  try dsimp only at hpre
  refine wpAny_call ?_
  k_dflt cell_enter
  unfold RPts5 at hret
  (repeat' (first | (k_unfold; (try dsimp only)) | ((with_reducible show wpAny _ _ (execs (List.cons _ _) _) _ _ (Shared.mk _ _ _ (HAdd.hAdd _ _) _)); (rename Fr _ _ _ _ => Fq); refine stm8 Fq ?_; clear Fq; intro tkq mq Fq; (try k_fold)) | with_reducible (k_here; (with_reducible show wpAny _ _ (PySem.call (Value.ref 361) _) _ _ _); k_dflt (refine' Sp.use (c_takeU ?q1 ?q2 ?q3 ?q4 ?q5 ?q6) ?k1 ?k2 ?k3 ?k4 ?k5 ?k6 ?k7 ?k8 ?k9 ?_; walk_at "use"; (case q5 => k_updF); (case q6 => (intro o9ᵣ; k_updF)); (case q1 => with_reducible assumption); (case q2 => omega); (case q3 => first | omega | decide); (case q4 => assumption)); unfold RTakeU; intro r9ᵣ tr9ᵣ at9ᵣ ta9ᵣ vs9ᵣ ns9ᵣ zs9ᵣ zc9ᵣ h9ᵣ tk9ᵣ hr91ᵣ hr92ᵣ hst9ᵣ F9ᵣ N9ᵣ; (try dsimp only at N9ᵣ ⊢); (try k_sweep); (try k_fold)) | with_reducible (k_here; (with_reducible show wpAny _ _ (PySem.call (Value.ref 21) _) _ _ _); k_dflt (refine' Sp.use (c_inv ?q1 ?q2 ?q3 ?q4) ?k1 ?k2 ?k3 ?k4 ?k5 ?k6 ?k7 ?k8 ?k9 ?_; walk_at "use"; (case q1 => assumption); (case q2 => assumption); (case q3 => omega); (case q4 => omega)); unfold RInv; intro i9ᵣ t9ᵣ h9ᵣ tk9ᵣ hi1ᵣ hi2ᵣ hi3ᵣ F9ᵣ N9ᵣ; (try dsimp only); (try k_sweep); (try k_fold)) | with_reducible (k_here; (with_reducible show wpAny _ _ (PySem.call (Value.ref 71) _) _ _ _); k_dflt (refine' Sp.use (c_ed_a ?q1 ?q2 ?q3) ?k1 ?k2 ?k3 ?k4 ?k5 ?k6 ?k7 ?k8 ?k9 ?_; walk_at "use"; (case q2 => k_dflt k_mem); (case q3 => k_dflt k_mem); (case q1 => k_dflt (exact ⟨rfl, rfl, rfl⟩))); unfold RV; intro h9ᵣ tk9ᵣ F9ᵣ N9ᵣ; (try dsimp only); (try k_sweep); (try k_fold)) | with_reducible (k_here; (with_reducible show wpAny _ _ (PySem.call (Value.ref 64) _) _ _ _); k_dflt (refine' Sp.use (c_ed_p ?q1 ?q2 ?q3) ?k1 ?k2 ?k3 ?k4 ?k5 ?k6 ?k7 ?k8 ?k9 ?_; walk_at "use"; (case q2 => k_dflt k_mem); (case q3 => k_dflt k_mem); (case q1 => k_dflt (exact ⟨rfl, rfl, rfl⟩))); unfold RV; intro h9ᵣ tk9ᵣ F9ᵣ N9ᵣ; (try dsimp only); (try k_sweep); (try k_fold)) | with_reducible (k_here; (with_reducible show wpAny _ _ (call (Value.builtin "len") [Value.ref _]) _ _ _); k_dflt (refine' kst_len ?q1 ?q2 ?q3 ?q4 ?_; (case q1 => k_asm); (case q2 => k_mem); (case q3 => assumption); (case q4 => omega))) | with_reducible (k_here; (with_reducible show wpAny _ _ (exec (Stmt.For _ _ _ _ _) _) _ _ _); (rename Fr _ _ _ _ => lF'); (with_unfolding_all refine' For_invVF lF' ?k1 ?k2 ?_; (case k1 => exact rfl); (case k2 => exact rfl); k_whole)) | with_reducible (k_here; (with_reducible show wpAny _ _ (subscriptTail _ _ (Value.ref _) (Value.int _ _)) _ _ _); k_dflt (refine' item_tupleT ?t ?a ?b ?c ?d ?_; (case t => exact News.isTup (by k_asm) (by k_mem)); (case a => decide); (case b => decide); (case c => rfl); (case d => rfl); k_whole)) | with_reducible (k_here; (with_reducible show wpAny _ _ (PySem.pyIter (Value.ref _)) _ _ _); refine Stop.of ?_) | walk1 | (dsimp only; walk1) | fail "no step"))
  refine Stop.to ?_
  (rename News _ _ _ ((_, W.listOf #[] 0) :: news) => N0)
  (rename (∀ (q : Addr × Obj), q ∈ news → q.1 < _) => l0)
  revert l0
  refine withAddr1 N0 ?_
  rintro pl rfl l0
  have hpl : ∀ p ∈ news, p.1 ≠ pl := fun p hp => Nat.ne_of_lt (l0 p hp)
  k_dflt (refine' lp_range (σ := PS5) q (fun c => (pl, W.listOf c.vs.toArray c.n) :: c.led) (fun _ => []) (PtO q av dv news pl) [Str.ofString "y"] ⟨[], 0, news⟩ rfl ?zr ?zs ?zn (by k_asm) N0 (List.forall_mem_nil _) ?zi ?zt ?zd)
  (case zr => assumption)
  (case zs => exact small_one (by omega) (by omega) (by omega) (by omega))
  (case zn => rw [rangeSize_nat]; omega)
  (case zi => exact ⟨List.forall_mem_nil _, fun h => by omega, by simp, fun _ h => h, hpl⟩)
  (case zt =>
    rintro I i ti ⟨ws, n, led⟩ u h tk it hi ⟨hP, hlen1, hlen2, hsub, hnpl⟩ hne F3 N3
    dsimp only [envOf] at hP hlen1 hlen2 hsub hnpl hne F3 N3
    have hIp := neN (hne _ (.head _))
    dsimp only at hIp
    have hneI : ∀ p ∈ led, p.1 ≠ I := fun p hp => hne p (.tail _ hp)
    have hi2 : (i : Int) < q := by omega
    (repeat' (first | (k_unfold; (try dsimp only)) | ((with_reducible show wpAny _ _ (execs (List.cons _ _) _) _ _ (Shared.mk _ _ _ (HAdd.hAdd _ _) _)); (rename Fr _ _ _ _ => Fq); refine stm8 Fq ?_; clear Fq; intro tkq mq Fq; (try k_fold)) | with_reducible (k_here; (with_reducible show wpAny _ _ (PySem.call (Value.ref 361) _) _ _ _); k_dflt (refine' Sp.use (c_takeU ?q1 ?q2 ?q3 ?q4 ?q5 ?q6) ?k1 ?k2 ?k3 ?k4 ?k5 ?k6 ?k7 ?k8 ?k9 ?_; walk_at "use"; (case q5 => k_updF); (case q6 => (intro o9ᵣ; k_updF)); (case q1 => with_reducible assumption); (case q2 => omega); (case q3 => first | omega | decide); (case q4 => assumption)); unfold RTakeU; intro r9ᵣ tr9ᵣ at9ᵣ ta9ᵣ vs9ᵣ ns9ᵣ zs9ᵣ zc9ᵣ h9ᵣ tk9ᵣ hr91ᵣ hr92ᵣ hst9ᵣ F9ᵣ N9ᵣ; (try dsimp only at N9ᵣ ⊢); (try k_sweep); (try k_fold)) | with_reducible (k_here; (with_reducible show wpAny _ _ (PySem.call (Value.ref 21) _) _ _ _); k_dflt (refine' Sp.use (c_inv ?q1 ?q2 ?q3 ?q4) ?k1 ?k2 ?k3 ?k4 ?k5 ?k6 ?k7 ?k8 ?k9 ?_; walk_at "use"; (case q1 => assumption); (case q2 => assumption); (case q3 => omega); (case q4 => omega)); unfold RInv; intro i9ᵣ t9ᵣ h9ᵣ tk9ᵣ hi1ᵣ hi2ᵣ hi3ᵣ F9ᵣ N9ᵣ; (try dsimp only); (try k_sweep); (try k_fold)) | with_reducible (k_here; (with_reducible show wpAny _ _ (PySem.call (Value.ref 71) _) _ _ _); k_dflt (refine' Sp.use (c_ed_a ?q1 ?q2 ?q3) ?k1 ?k2 ?k3 ?k4 ?k5 ?k6 ?k7 ?k8 ?k9 ?_; walk_at "use"; (case q2 => k_dflt k_mem); (case q3 => k_dflt k_mem); (case q1 => k_dflt (exact ⟨rfl, rfl, rfl⟩))); unfold RV; intro h9ᵣ tk9ᵣ F9ᵣ N9ᵣ; (try dsimp only); (try k_sweep); (try k_fold)) | with_reducible (k_here; (with_reducible show wpAny _ _ (PySem.call (Value.ref 64) _) _ _ _); k_dflt (refine' Sp.use (c_ed_p ?q1 ?q2 ?q3) ?k1 ?k2 ?k3 ?k4 ?k5 ?k6 ?k7 ?k8 ?k9 ?_; walk_at "use"; (case q2 => k_dflt k_mem); (case q3 => k_dflt k_mem); (case q1 => k_dflt (exact ⟨rfl, rfl, rfl⟩))); unfold RV; intro h9ᵣ tk9ᵣ F9ᵣ N9ᵣ; (try dsimp only); (try k_sweep); (try k_fold)) | with_reducible (k_here; (with_reducible show wpAny _ _ (call (Value.builtin "len") [Value.ref _]) _ _ _); k_dflt (refine' kst_len ?q1 ?q2 ?q3 ?q4 ?_; (case q1 => k_asm); (case q2 => k_mem); (case q3 => assumption); (case q4 => omega))) | with_reducible (k_here; (with_reducible show wpAny _ _ (exec (Stmt.For _ _ _ _ _) _) _ _ _); (rename Fr _ _ _ _ => lF'); (with_unfolding_all refine' For_invVF lF' ?k1 ?k2 ?_; (case k1 => exact rfl); (case k2 => exact rfl); k_whole)) | with_reducible (k_here; (with_reducible show wpAny _ _ (subscriptTail _ _ (Value.ref _) (Value.int _ _)) _ _ _); k_dflt (refine' item_tupleT ?t ?a ?b ?c ?d ?_; (case t => exact News.isTup (by k_asm) (by k_mem)); (case a => decide); (case b => decide); (case c => rfl); (case d => rfl); k_whole)) | with_reducible (k_here; (with_reducible show wpAny _ _ (PySem.pyIter (Value.ref _)) _ _ _); refine Stop.of ?_) | walk1 | (dsimp only; walk1) | fail "no step"))
    refine Stop.to ?_
    (rename News _ _ _ _ => N9)
    k_dflt (refine' lp_range (σ := PS5) q (fun c => (I, it) :: (pl, W.listOf c.vs.toArray c.n) :: c.led) (fun _ => []) (PtI q av dv news pl I i) [] ⟨ws, n, led⟩ rfl ?yr ?ys ?yn (by k_asm) ?yM (List.forall_mem_nil _) ?yi ?yt ?yd)
    (case yr => assumption)
    (case ys => exact small_one (by omega) (by omega) (by omega) (by omega))
    (case yn => rw [rangeSize_nat]; omega)
    (case yM => exact cb_drop N9 (fun p hp => by repeat (first | exact hp | apply List.mem_cons_of_mem)))
    (case yi => exact ⟨hP, hlen1, fun _ h => by omega, by dsimp only; omega, hsub, hnpl, hneI⟩)
    (case yt =>
      rintro I2 j tj ⟨es, n2, led2⟩ u2 h2 tk2 it2 hj ⟨hP2, hl1, hl2, hl3, hsub2, hnpl2, hnI2⟩ hne2 F5 N5
      dsimp only [envOf] at hP2 hl1 hl2 hl3 hsub2 hnpl2 hnI2 hne2 F5 N5
      have hII2 := neN (hne2 _ (.head _))
      have hIp2 := neN (hne2 _ (.tail _ (.head _)))
      dsimp only at hII2 hIp2
      have hnI3 : ∀ p ∈ led2, p.1 ≠ I2 := fun p hp => hne2 p (.tail _ (.tail _ hp))
      have hj2 : (j : Int) < q := by omega
      have hev : es.length ≤ 20000 := by omega
      (repeat' (first | (k_unfold; (try dsimp only)) | ((with_reducible show wpAny _ _ (execs (List.cons _ _) _) _ _ (Shared.mk _ _ _ (HAdd.hAdd _ _) _)); (rename Fr _ _ _ _ => Fq); refine stm8 Fq ?_; clear Fq; intro tkq mq Fq; (try k_fold)) | with_reducible (k_here; (with_reducible show wpAny _ _ (PySem.call (Value.ref 361) _) _ _ _); k_dflt (refine' Sp.use (c_takeU ?q1 ?q2 ?q3 ?q4 ?q5 ?q6) ?k1 ?k2 ?k3 ?k4 ?k5 ?k6 ?k7 ?k8 ?k9 ?_; walk_at "use"; (case q5 => k_updF); (case q6 => (intro o9ᵣ; k_updF)); (case q1 => with_reducible assumption); (case q2 => omega); (case q3 => first | omega | decide); (case q4 => assumption)); unfold RTakeU; intro r9ᵣ tr9ᵣ at9ᵣ ta9ᵣ vs9ᵣ ns9ᵣ zs9ᵣ zc9ᵣ h9ᵣ tk9ᵣ hr91ᵣ hr92ᵣ hst9ᵣ F9ᵣ N9ᵣ; (try dsimp only at N9ᵣ ⊢); (try k_sweep); (try k_fold)) | with_reducible (k_here; (with_reducible show wpAny _ _ (PySem.call (Value.ref 21) _) _ _ _); k_dflt (refine' Sp.use (c_inv ?q1 ?q2 ?q3 ?q4) ?k1 ?k2 ?k3 ?k4 ?k5 ?k6 ?k7 ?k8 ?k9 ?_; walk_at "use"; (case q1 => assumption); (case q2 => assumption); (case q3 => omega); (case q4 => omega)); unfold RInv; intro i9ᵣ t9ᵣ h9ᵣ tk9ᵣ hi1ᵣ hi2ᵣ hi3ᵣ F9ᵣ N9ᵣ; (try dsimp only); (try k_sweep); (try k_fold)) | with_reducible (k_here; (with_reducible show wpAny _ _ (PySem.call (Value.ref 71) _) _ _ _); k_dflt (refine' Sp.use (c_ed_a ?q1 ?q2 ?q3) ?k1 ?k2 ?k3 ?k4 ?k5 ?k6 ?k7 ?k8 ?k9 ?_; walk_at "use"; (case q2 => k_dflt k_mem); (case q3 => k_dflt k_mem); (case q1 => k_dflt (exact ⟨rfl, rfl, rfl⟩))); unfold RV; intro h9ᵣ tk9ᵣ F9ᵣ N9ᵣ; (try dsimp only); (try k_sweep); (try k_fold)) | with_reducible (k_here; (with_reducible show wpAny _ _ (PySem.call (Value.ref 64) _) _ _ _); k_dflt (refine' Sp.use (c_ed_p ?q1 ?q2 ?q3) ?k1 ?k2 ?k3 ?k4 ?k5 ?k6 ?k7 ?k8 ?k9 ?_; walk_at "use"; (case q2 => k_dflt k_mem); (case q3 => k_dflt k_mem); (case q1 => k_dflt (exact ⟨rfl, rfl, rfl⟩))); unfold RV; intro h9ᵣ tk9ᵣ F9ᵣ N9ᵣ; (try dsimp only); (try k_sweep); (try k_fold)) | with_reducible (k_here; (with_reducible show wpAny _ _ (call (Value.builtin "len") [Value.ref _]) _ _ _); k_dflt (refine' kst_len ?q1 ?q2 ?q3 ?q4 ?_; (case q1 => k_asm); (case q2 => k_mem); (case q3 => assumption); (case q4 => omega))) | with_reducible (k_here; (with_reducible show wpAny _ _ (exec (Stmt.For _ _ _ _ _) _) _ _ _); (rename Fr _ _ _ _ => lF'); (with_unfolding_all refine' For_invVF lF' ?k1 ?k2 ?_; (case k1 => exact rfl); (case k2 => exact rfl); k_whole)) | with_reducible (k_here; (with_reducible show wpAny _ _ (subscriptTail _ _ (Value.ref _) (Value.int _ _)) _ _ _); k_dflt (refine' item_tupleT ?t ?a ?b ?c ?d ?_; (case t => exact News.isTup (by k_asm) (by k_mem)); (case a => decide); (case b => decide); (case c => rfl); (case d => rfl); k_whole)) | with_reducible (k_here; (with_reducible show wpAny _ _ (PySem.pyIter (Value.ref _)) _ _ _); refine Stop.of ?_) | walk1 | (dsimp only; walk1) | fail "no step"))
      · (rename News _ _ _ _ => N9)
        (rename (_ < _ ∧ _ < _ ∧ _ < _ ∧ AllLt _ _) => l9)
        (rename Int.fmod _ _ = 0 => hz)
        simp only [List.push_toArray] at N9
        revert l9
        refine withAddr1 N9 ?_
        rintro D9 rfl l9
        refine lp_end ⟨es ++ [Value.ref D9], n2 + 1, (D9, tup2 (0 + (i : Int)) ti (0 + (j : Int)) tj) :: led2⟩ (by k_asm) N9 ?_ (by k_dflt k_mem) ?_ (List.forall_mem_nil _) (by walk_at "same") ⟨?_, ?_, ?_, ?_, ?_, ?_, ?_⟩
        · exact List.forall_mem_cons.mpr ⟨by k_dflt k_mem, List.forall_mem_cons.mpr ⟨by k_dflt k_mem, List.forall_mem_cons.mpr ⟨.head _, fun p hp => .tail _ (.tail _ (.tail _ (.tail _ hp)))⟩⟩⟩
        · exact List.forall_mem_cons.mpr ⟨hII2, List.forall_mem_cons.mpr ⟨hIp2, List.forall_mem_cons.mpr ⟨Nat.ne_of_gt l9.1, hnI3⟩⟩⟩
        · exact List.forall_mem_append.mpr ⟨fun v hv => (hP2 v hv).mono fun p hp => .tail _ hp, List.forall_mem_cons.mpr ⟨⟨_, _, _, _, _, rfl, .head _, ⟨by dsimp only; omega, by dsimp only; omega, by dsimp only; omega, by dsimp only; omega⟩, hz⟩, List.forall_mem_nil _⟩⟩
        · intro _; dsimp only; rw [List.length_append]; exact Nat.le_add_left ..
        · intro _ _; dsimp only; rw [List.length_append]; exact Nat.le_add_left ..
        · dsimp only; rw [List.length_append, List.length_cons, List.length_nil]; omega
        · exact fun p hp => .tail _ (hsub2 p hp)
        · exact List.forall_mem_cons.mpr ⟨Nat.ne_of_gt l9.2.2.1, hnpl2⟩
        · exact List.forall_mem_cons.mpr ⟨Nat.ne_of_gt l9.2.1, hnI2⟩
      · (rename ¬(Int.fmod _ _ = 0) => hz)
        refine lp_end ⟨es, n2, led2⟩ (by k_asm) (by k_asm) (fun p hp => .tail _ hp) (.head _) hne2 (List.forall_mem_nil _) (by walk_at "same") ⟨hP2, hl1, ?_, by dsimp only; omega, hsub2, hnpl2, hnI2⟩
        intro e1 e2
        by_cases h2 : 2 ≤ j
        · exact hl2 e1 h2
        · exfalso
          obtain rfl : i = 0 := e1
          obtain rfl : j = 1 := by omega
          exact hz h01)
    (case yd =>
      rintro ⟨es, n2, led2⟩ u2 h2 tk2 ⟨hP2, hl1, hl2, hl3, hsub2, hnpl2, hnI2⟩ F5 N5
      dsimp only [envOf] at hP2 hl1 hl2 hl3 hsub2 hnpl2 hnI2 F5 N5
      (repeat' (first | (k_unfold; (try dsimp only)) | ((with_reducible show wpAny _ _ (execs (List.cons _ _) _) _ _ (Shared.mk _ _ _ (HAdd.hAdd _ _) _)); (rename Fr _ _ _ _ => Fq); refine stm8 Fq ?_; clear Fq; intro tkq mq Fq; (try k_fold)) | with_reducible (k_here; (with_reducible show wpAny _ _ (PySem.call (Value.ref 361) _) _ _ _); k_dflt (refine' Sp.use (c_takeU ?q1 ?q2 ?q3 ?q4 ?q5 ?q6) ?k1 ?k2 ?k3 ?k4 ?k5 ?k6 ?k7 ?k8 ?k9 ?_; walk_at "use"; (case q5 => k_updF); (case q6 => (intro o9ᵣ; k_updF)); (case q1 => with_reducible assumption); (case q2 => omega); (case q3 => first | omega | decide); (case q4 => assumption)); unfold RTakeU; intro r9ᵣ tr9ᵣ at9ᵣ ta9ᵣ vs9ᵣ ns9ᵣ zs9ᵣ zc9ᵣ h9ᵣ tk9ᵣ hr91ᵣ hr92ᵣ hst9ᵣ F9ᵣ N9ᵣ; (try dsimp only at N9ᵣ ⊢); (try k_sweep); (try k_fold)) | with_reducible (k_here; (with_reducible show wpAny _ _ (PySem.call (Value.ref 21) _) _ _ _); k_dflt (refine' Sp.use (c_inv ?q1 ?q2 ?q3 ?q4) ?k1 ?k2 ?k3 ?k4 ?k5 ?k6 ?k7 ?k8 ?k9 ?_; walk_at "use"; (case q1 => assumption); (case q2 => assumption); (case q3 => omega); (case q4 => omega)); unfold RInv; intro i9ᵣ t9ᵣ h9ᵣ tk9ᵣ hi1ᵣ hi2ᵣ hi3ᵣ F9ᵣ N9ᵣ; (try dsimp only); (try k_sweep); (try k_fold)) | with_reducible (k_here; (with_reducible show wpAny _ _ (PySem.call (Value.ref 71) _) _ _ _); k_dflt (refine' Sp.use (c_ed_a ?q1 ?q2 ?q3) ?k1 ?k2 ?k3 ?k4 ?k5 ?k6 ?k7 ?k8 ?k9 ?_; walk_at "use"; (case q2 => k_dflt k_mem); (case q3 => k_dflt k_mem); (case q1 => k_dflt (exact ⟨rfl, rfl, rfl⟩))); unfold RV; intro h9ᵣ tk9ᵣ F9ᵣ N9ᵣ; (try dsimp only); (try k_sweep); (try k_fold)) | with_reducible (k_here; (with_reducible show wpAny _ _ (PySem.call (Value.ref 64) _) _ _ _); k_dflt (refine' Sp.use (c_ed_p ?q1 ?q2 ?q3) ?k1 ?k2 ?k3 ?k4 ?k5 ?k6 ?k7 ?k8 ?k9 ?_; walk_at "use"; (case q2 => k_dflt k_mem); (case q3 => k_dflt k_mem); (case q1 => k_dflt (exact ⟨rfl, rfl, rfl⟩))); unfold RV; intro h9ᵣ tk9ᵣ F9ᵣ N9ᵣ; (try dsimp only); (try k_sweep); (try k_fold)) | with_reducible (k_here; (with_reducible show wpAny _ _ (call (Value.builtin "len") [Value.ref _]) _ _ _); k_dflt (refine' kst_len ?q1 ?q2 ?q3 ?q4 ?_; (case q1 => k_asm); (case q2 => k_mem); (case q3 => assumption); (case q4 => omega))) | with_reducible (k_here; (with_reducible show wpAny _ _ (exec (Stmt.For _ _ _ _ _) _) _ _ _); (rename Fr _ _ _ _ => lF'); (with_unfolding_all refine' For_invVF lF' ?k1 ?k2 ?_; (case k1 => exact rfl); (case k2 => exact rfl); k_whole)) | with_reducible (k_here; (with_reducible show wpAny _ _ (subscriptTail _ _ (Value.ref _) (Value.int _ _)) _ _ _); k_dflt (refine' item_tupleT ?t ?a ?b ?c ?d ?_; (case t => exact News.isTup (by k_asm) (by k_mem)); (case a => decide); (case b => decide); (case c => rfl); (case d => rfl); k_whole)) | with_reducible (k_here; (with_reducible show wpAny _ _ (PySem.pyIter (Value.ref _)) _ _ _); refine Stop.of ?_) | walk1 | (dsimp only; walk1) | fail "no step"))
      refine lp_end ⟨es, n2, led2⟩ (by k_asm) (by k_asm) (fun p hp => .tail _ hp) (.head _) (List.forall_mem_cons.mpr ⟨hIp, hnI2⟩) (List.forall_mem_nil _) (by walk_at "same") ⟨hP2, fun _ => ?_, by dsimp only; omega, hsub2, hnpl2⟩
      rcases Nat.eq_zero_or_pos i with e | e
      · exact hl2 e (by omega)
      · exact hl1 e))
  (case zd =>
    rintro ⟨ws, n, led⟩ u h tk ⟨hP, hlen1, hlen2, hsub, hnpl⟩ F3 N3
    dsimp only at hP hlen1 hlen2 hsub hnpl F3 N3
    (repeat' (first | (k_unfold; (try dsimp only)) | ((with_reducible show wpAny _ _ (execs (List.cons _ _) _) _ _ (Shared.mk _ _ _ (HAdd.hAdd _ _) _)); (rename Fr _ _ _ _ => Fq); refine stm8 Fq ?_; clear Fq; intro tkq mq Fq; (try k_fold)) | with_reducible (k_here; (with_reducible show wpAny _ _ (PySem.call (Value.ref 361) _) _ _ _); k_dflt (refine' Sp.use (c_takeU ?q1 ?q2 ?q3 ?q4 ?q5 ?q6) ?k1 ?k2 ?k3 ?k4 ?k5 ?k6 ?k7 ?k8 ?k9 ?_; walk_at "use"; (case q5 => k_updF); (case q6 => (intro o9ᵣ; k_updF)); (case q1 => with_reducible assumption); (case q2 => omega); (case q3 => first | omega | decide); (case q4 => assumption)); unfold RTakeU; intro r9ᵣ tr9ᵣ at9ᵣ ta9ᵣ vs9ᵣ ns9ᵣ zs9ᵣ zc9ᵣ h9ᵣ tk9ᵣ hr91ᵣ hr92ᵣ hst9ᵣ F9ᵣ N9ᵣ; (try dsimp only at N9ᵣ ⊢); (try k_sweep); (try k_fold)) | with_reducible (k_here; (with_reducible show wpAny _ _ (PySem.call (Value.ref 21) _) _ _ _); k_dflt (refine' Sp.use (c_inv ?q1 ?q2 ?q3 ?q4) ?k1 ?k2 ?k3 ?k4 ?k5 ?k6 ?k7 ?k8 ?k9 ?_; walk_at "use"; (case q1 => assumption); (case q2 => assumption); (case q3 => omega); (case q4 => omega)); unfold RInv; intro i9ᵣ t9ᵣ h9ᵣ tk9ᵣ hi1ᵣ hi2ᵣ hi3ᵣ F9ᵣ N9ᵣ; (try dsimp only); (try k_sweep); (try k_fold)) | with_reducible (k_here; (with_reducible show wpAny _ _ (PySem.call (Value.ref 71) _) _ _ _); k_dflt (refine' Sp.use (c_ed_a ?q1 ?q2 ?q3) ?k1 ?k2 ?k3 ?k4 ?k5 ?k6 ?k7 ?k8 ?k9 ?_; walk_at "use"; (case q2 => k_dflt k_mem); (case q3 => k_dflt k_mem); (case q1 => k_dflt (exact ⟨rfl, rfl, rfl⟩))); unfold RV; intro h9ᵣ tk9ᵣ F9ᵣ N9ᵣ; (try dsimp only); (try k_sweep); (try k_fold)) | with_reducible (k_here; (with_reducible show wpAny _ _ (PySem.call (Value.ref 64) _) _ _ _); k_dflt (refine' Sp.use (c_ed_p ?q1 ?q2 ?q3) ?k1 ?k2 ?k3 ?k4 ?k5 ?k6 ?k7 ?k8 ?k9 ?_; walk_at "use"; (case q2 => k_dflt k_mem); (case q3 => k_dflt k_mem); (case q1 => k_dflt (exact ⟨rfl, rfl, rfl⟩))); unfold RV; intro h9ᵣ tk9ᵣ F9ᵣ N9ᵣ; (try dsimp only); (try k_sweep); (try k_fold)) | with_reducible (k_here; (with_reducible show wpAny _ _ (call (Value.builtin "len") [Value.ref _]) _ _ _); k_dflt (refine' kst_len ?q1 ?q2 ?q3 ?q4 ?_; (case q1 => k_asm); (case q2 => k_mem); (case q3 => assumption); (case q4 => omega))) | with_reducible (k_here; (with_reducible show wpAny _ _ (exec (Stmt.For _ _ _ _ _) _) _ _ _); (rename Fr _ _ _ _ => lF'); (with_unfolding_all refine' For_invVF lF' ?k1 ?k2 ?_; (case k1 => exact rfl); (case k2 => exact rfl); k_whole)) | with_reducible (k_here; (with_reducible show wpAny _ _ (subscriptTail _ _ (Value.ref _) (Value.int _ _)) _ _ _); k_dflt (refine' item_tupleT ?t ?a ?b ?c ?d ?_; (case t => exact News.isTup (by k_asm) (by k_mem)); (case a => decide); (case b => decide); (case c => rfl); (case d => rfl); k_whole)) | with_reducible (k_here; (with_reducible show wpAny _ _ (PySem.pyIter (Value.ref _)) _ _ _); refine Stop.of ?_) | walk1 | (dsimp only; walk1) | fail "no step"))
    exact hret pl ws n led _ _ hP (hlen1 (by omega)) (by omega) hsub hnpl (by k_asm) (by k_asm))
end
-- L05x
section
/-- the state to the front again -/
theorem front2 {G : Prop} {h₀ h : Heap} {L S C l : Addr} {oS oC ol : Obj} {led : List (Addr × Obj)} (N : News h₀ L h ((l, ol) :: led)) (mS : (S, oS) ∈ led) (mC : (C, oC) ∈ led) (cS : oS.cls = .type "list") (cC : oC.cls = .type "list")
    (k : ∀ led', News h₀ L h ((S, oS) :: (C, oC) :: (l, ol) :: led') → (∀ p ∈ led', p.1 ≠ S) → (∀ p ∈ led', p.1 ≠ C) → (∀ p ∈ led', p ∈ led) → (∀ p ∈ led, p.1 ≠ S → p.1 ≠ C → p ∈ led') → (∀ p ∈ led, p.2.cls ≠ .type "list" → p ∈ led') → G) : G := by
  have mk : ∀ p ∈ led, p.1 ≠ S → p.1 ≠ C → p ∈ led.filter fun q => q.1 != S && q.1 != C := fun p hp h1 h2 => List.mem_filter.mpr ⟨hp, by simp only [Bool.and_eq_true, bne_iff_ne]; exact ⟨h1, h2⟩⟩
  have out : ∀ p ∈ led.filter (fun q => q.1 != S && q.1 != C), p ∈ led ∧ p.1 ≠ S ∧ p.1 ≠ C := fun p hp => by
    have h := List.mem_filter.mp hp
    simp only [Bool.and_eq_true, bne_iff_ne] at h
    exact h
  have nl : ∀ p ∈ led, p.2.cls ≠ .type "list" → ∀ a o, (a, o) ∈ led → o.cls = .type "list" → p.1 ≠ a := fun p hp hc a o ha ho e => by
    have h1 := (N p (.tail _ hp)).1
    have h2 := (N (a, o) (.tail _ ha)).1
    rw [e] at h1
    have h3 := Option.some.inj (h1.symm.trans h2)
    rw [h3] at hc; exact hc ho
  refine k (led.filter fun q => q.1 != S && q.1 != C) (fun p hp => ?_) (fun p hp => (out p hp).2.1) (fun p hp => (out p hp).2.2) (fun p hp => (out p hp).1) mk (fun p hp hc => mk p hp (nl p hp hc S oS mS cS) (nl p hp hc C oC mC cC))
  rcases List.mem_cons.mp hp with h | hp
  · rw [h]; exact N _ (.tail _ mS)
  · rcases List.mem_cons.mp hp with h | hp
    · rw [h]; exact N _ (.tail _ mC)
    · rcases List.mem_cons.mp hp with h | hp
      · rw [h]; exact N _ (.head _)
      · exact N _ (.tail _ (out p hp).1)
theorem OnPt.monoT {q : Nat} {a d : Int} {led led' : List (Addr × Obj)} {v : Value} (hs : ∀ p ∈ led, p.2.cls ≠ .type "list" → p ∈ led') (h : OnPt q a d led v) : OnPt q a d led' v := by
  obtain ⟨r, x, t, y, u, e, hm, h1, h2⟩ := h
  exact ⟨r, x, t, y, u, e, hs _ hm (by simp), h1, h2⟩
theorem RowsAre.monoT {q : Nat} {a d : Int} {P : Int × Int} {led led' : List (Addr × Obj)} {vs : List Value} (hs : ∀ p ∈ led, p.2.cls ≠ .type "list" → p ∈ led') (h : RowsAre q a d P led vs) : RowsAre q a d P led' vs := fun i v hv => by
  obtain ⟨r, t, u, e, hm⟩ := h i v hv
  exact ⟨r, t, u, e, hs _ hm (by simp)⟩
theorem on_of_cst {q : Nat} [NeZero q] {a d : Int} {P : Int × Int} (o : Ed.On (Ed.cst a : Fin q) (Ed.cst d) (Ed.cst2 P)) : (a * P.1 * P.1 + P.2 * P.2 - 1 - d * P.1 * P.1 * P.2 * P.2).fmod q = 0 := by
  rw [Int.fmod_eq_emod_of_nonneg _ (by omega)]
  refine (Ed.cst_eq0 (α := Fin q) q).mp ?_
  rw [Ed.cst_sub, Ed.cst_sub, Ed.cst_add, Ed.cst_mul, Ed.cst_mul, Ed.cst_mul, Ed.cst_mul, Ed.cst_mul, Ed.cst_mul, Ed.cst_mul, Ed.cst_one]
  unfold Ed.On Ed.cst2 at o; dsimp only at o; grind
theorem lplus_on {q : Nat} {a d : Int} (h : Ed.Cv q a d) {P Q : Int × Int} (o1 : (a * P.1 * P.1 + P.2 * P.2 - 1 - d * P.1 * P.1 * P.2 * P.2).fmod q = 0) (o2 : (a * Q.1 * Q.1 + Q.2 * Q.2 - 1 - d * Q.1 * Q.1 * Q.2 * Q.2).fmod q = 0) :
    (a * (Ed.lplus q a d P Q).1 * (Ed.lplus q a d P Q).1 + (Ed.lplus q a d P Q).2 * (Ed.lplus q a d P Q).2 - 1 - d * (Ed.lplus q a d P Q).1 * (Ed.lplus q a d P Q).1 * (Ed.lplus q a d P Q).2 * (Ed.lplus q a d P Q).2).fmod q = 0 := by
  have hb := Ed.primes_bd h.pr
  have : NeZero q := ⟨by omega⟩
  have c1 := Ed.on_cst o1
  have c2 := Ed.on_cst o2
  refine on_of_cst ?_
  rw [Ed.cst2_plus h c1 c2]
  obtain ⟨r, hr, F⟩ := h.fld
  rw [hr] at c1 c2 ⊢
  exact Ed.on_plus F c1 c2
theorem item_pt {prog : Program} {w : World} {A : Around} {E : Value → Shared → Prop} {s : Shared} {h₀ : Heap} {L lp : Addr} {zp : Nat} {news led : List (Addr × Obj)} {pvs : List Value} {q : Nat} {a d : Int} {value slice : PySem.Expr} {k : Int} {u : Tok} {Q : Value → Shared → Prop} (N : News h₀ L s.heap news) (hm : (lp, W.listOf pvs.toArray zp) ∈ news) (hP : ∀ v ∈ pvs, OnPt q a d led v) (h1 : 1 ≤ pvs.length) (h2 : pvs.length ≤ 10201)
    (h : ∀ r x t y u, (r, tup2 x t y u) ∈ led → Ed.InB q (x, y) → (a * x * x + y * y - 1 - d * x * x * y * y).fmod q = 0 → Q (.ref r) s)
    (hs : subscripted slice false (.ref lp) (.int (k.fmod (pvs.length : Int)) u) = operate [.ref lp, .int (k.fmod (pvs.length : Int)) u] (getItem (.ref lp) (.int (k.fmod (pvs.length : Int)) u))) (ht : ∀ r, letTemporaryGo value (.ref lp) r = pure ()) :
    wpAny (model prog w) A (subscriptTail value slice (.ref lp) (.int (k.fmod (pvs.length : Int)) u)) Q E s := by
  have hk := Ed.fm_bd (show (0 : Int) < pvs.length by omega) k
  have hj : (k.fmod (pvs.length : Int)).toNat < pvs.length := by omega
  obtain ⟨r, x, t, y, u', e, m, i1, o1⟩ := hP _ (List.getElem_mem hj)
  refine item_list (News.isList N hm) (by omega) (by omega) (by simpa [e] using List.getElem?_eq_getElem hj) (h r x t y u' m i1 o1) hs ht
theorem withStX {G : Prop} {vs : List Value} {ns : List Int} {at0 A : Int} (_h : StI vs ns at0 A) (k : ∀ vs' ns' at', vs' = vs → ns' = ns → at' = at0 → G) : G := k vs ns at0 rfl rfl rfl
theorem withTup1 {G : Prop} {h₀ h : Heap} {L a : Addr} {x y : Int} {t u : Tok} {led : List (Addr × Obj)} (_N : News h₀ L h ((a, tup2 x t y u) :: led)) (k : ∀ b t' u', b = a → t' = t → u' = u → G) : G := k a t u rfl rfl rfl
set_option genInjectivity false in
set_option genSizeOf false in
structure PtC where
  r : Addr
  x : Int
  t : Tok
  y : Int
  u : Tok
def PtCI (q : Nat) (a d : Int) (_ : Nat) (c : PtC) : Prop := Ed.InB q (c.x, c.y) ∧ (a * c.x * c.x + c.y * c.y - 1 - d * c.x * c.x * c.y * c.y).fmod q = 0
variable {w : World} {mean : ExcName → Option Value} {mg mb : Str → Option Value}
def RGrp (q : Nat) (a d : Int) (S C : Addr) (A : Int) (news : List (Addr × Obj)) (h₀ : Heap) (L : Addr) (m : Str → Option Value) (s : Shared) (Q : Value → Shared → Prop) : Prop :=
  ∀ l (vs : List Value) z at' ta' vs' ns' zs' zc' led h' tk', (vs.length = 1 ∨ ∃ P, Ed.Cx q a d P vs.length ∧ RowsAre q a d P led vs) → 1 ≤ vs.length → vs.length ≤ 300 → StI vs' ns' at' (A + 1) →
    Fr h₀ L h' m → News h₀ L h' ((S, stO at' ta' C zs') :: (C, W.listOf vs'.toArray zc') :: led) → (∀ p ∈ led, p.1 ≠ S) → (∀ p ∈ led, p.1 ≠ C) → (∀ p ∈ news, p ∈ led) → (l, W.listOf vs.toArray z) ∈ led → Q (.ref l) { s with heap := h', toks := tk' }
theorem c_group {news : List (Addr × Obj)} {q : Nat} {av dv : Int} {t1 t2 t3 : Tok} {S C : Addr} {at0 A : Int} {ta : Tok} {vs : List Value} {ns : List Int} {zs zc : Nat} (hcv : Ed.Cv q av dv) (hst : StI vs ns at0 A) (hA : A ≤ 10000) (hne : S ≠ C) (hS : ∀ p ∈ news, p.1 ≠ S) (hC : ∀ p ∈ news, p.1 ≠ C) :
    Sp PR w (hd.heap_39 w.params) topProg LO mean mg mb 7 300 (call (.ref 401) [.ref S, .int (q : Int) t1, .int av t2, .int dv t3]) ((S, stO at0 ta C zs) :: (C, W.listOf vs.toArray zc) :: news) (fun _ => True) (RGrp q av dv S C A news) := by
  have hne1 : @Ne Nat S C := hne
  have hne2 : @Ne Nat C S := fun e => hne e.symm
  have hq := hcv.pr
  obtain ⟨hb1, hb2⟩ := Ed.primes_int hq
  have hav : 0 ≤ av ∧ av < q := by
    obtain ⟨r, _, _, rfl⟩ := hcv.sq
    exact Ed.fm_bd (by omega) _
  have hdv : 0 ≤ dv ∧ dv < q := ⟨by have := hcv.d1; omega, hcv.d2⟩
  (try unfold PR LO); k_fill; w_top off
  unfold Sp
  intro dp un gd cn cs a ccd cl outer A₀ base h₀ L M s Q E B F X N T hk hd hu hpre hret
  try dsimp only at hpre
  refine wpAny_call ?_
  k_dflt cell_enter
  unfold RGrp at hret
  (repeat' (first | (k_unfold; (try dsimp only)) | ((with_reducible show wpAny _ _ (execs (List.cons _ _) _) _ _ (Shared.mk _ _ _ (HAdd.hAdd _ _) _)); (rename Fr _ _ _ _ => Fq); refine stm8 Fq ?_; clear Fq; intro tkq mq Fq; (try k_fold)) | with_reducible (k_here; (with_reducible show wpAny _ _ (subscriptTail _ _ (Value.ref _) (Value.int _ _)) _ _ _); refine Stop.of ?_) | with_reducible (k_here; (with_reducible show wpAny _ _ (PySem.call (Value.ref 394) _) _ _ _); refine Stop.of ?_) | with_reducible (k_here; (with_reducible show wpAny _ _ (PySem.call (Value.ref 373) _) _ _ _); refine Stop.of ?_) | with_reducible (k_here; (with_reducible show wpAny _ _ (PySem.call (Value.ref 387) _) _ _ _); k_dflt (refine' Sp.use (c_lplus ?q1 ?q2 ?q3 ?q4 ?q5 ?q6 ?q7) ?k1 ?k2 ?k3 ?k4 ?k5 ?k6 ?k7 ?k8 ?k9 ?_; walk_at "use"; (case q6 => k_dflt k_mem); (case q7 => k_dflt k_mem); (case q1 => assumption); (case q2 => assumption); (case q3 => assumption); (case q4 => assumption); (case q5 => assumption)); unfold RT2; intro D9ᵣ t1ᵣ t2ᵣ h9ᵣ tk9ᵣ F9ᵣ N9ᵣ l1ᵣ; (try k_lt l1ᵣ); (try dsimp only); (try k_sweep); (try k_fold)) | with_reducible (k_here; (with_reducible show wpAny _ _ (PySem.call (Value.ref 361) _) _ _ _); k_dflt (refine' Sp.use (c_takeU ?q1 ?q2 ?q3 ?q4 ?q5 ?q6) ?k1 ?k2 ?k3 ?k4 ?k5 ?k6 ?k7 ?k8 ?k9 ?_; walk_at "use"; (case q5 => k_updF); (case q6 => (intro o9ᵣ; k_updF)); (case q1 => with_reducible assumption); (case q2 => omega); (case q3 => first | omega | decide); (case q4 => assumption)); unfold RTakeU; intro r9ᵣ tr9ᵣ at9ᵣ ta9ᵣ vs9ᵣ ns9ᵣ zs9ᵣ zc9ᵣ h9ᵣ tk9ᵣ hr91ᵣ hr92ᵣ hst9ᵣ F9ᵣ N9ᵣ; (try dsimp only at N9ᵣ ⊢); (try k_sweep); (try k_fold)) | with_reducible (k_here; (with_reducible show wpAny _ _ (PySem.call (Value.ref 21) _) _ _ _); k_dflt (refine' Sp.use (c_inv ?q1 ?q2 ?q3 ?q4) ?k1 ?k2 ?k3 ?k4 ?k5 ?k6 ?k7 ?k8 ?k9 ?_; walk_at "use"; (case q1 => assumption); (case q2 => assumption); (case q3 => omega); (case q4 => omega)); unfold RInv; intro i9ᵣ t9ᵣ h9ᵣ tk9ᵣ hi1ᵣ hi2ᵣ hi3ᵣ F9ᵣ N9ᵣ; (try dsimp only); (try k_sweep); (try k_fold)) | with_reducible (k_here; (with_reducible show wpAny _ _ (PySem.call (Value.ref 71) _) _ _ _); k_dflt (refine' Sp.use (c_ed_a ?q1 ?q2 ?q3) ?k1 ?k2 ?k3 ?k4 ?k5 ?k6 ?k7 ?k8 ?k9 ?_; walk_at "use"; (case q2 => k_dflt k_mem); (case q3 => k_dflt k_mem); (case q1 => k_dflt (exact ⟨rfl, rfl, rfl⟩))); unfold RV; intro h9ᵣ tk9ᵣ F9ᵣ N9ᵣ; (try dsimp only); (try k_sweep); (try k_fold)) | with_reducible (k_here; (with_reducible show wpAny _ _ (PySem.call (Value.ref 64) _) _ _ _); k_dflt (refine' Sp.use (c_ed_p ?q1 ?q2 ?q3) ?k1 ?k2 ?k3 ?k4 ?k5 ?k6 ?k7 ?k8 ?k9 ?_; walk_at "use"; (case q2 => k_dflt k_mem); (case q3 => k_dflt k_mem); (case q1 => k_dflt (exact ⟨rfl, rfl, rfl⟩))); unfold RV; intro h9ᵣ tk9ᵣ F9ᵣ N9ᵣ; (try dsimp only); (try k_sweep); (try k_fold)) | with_reducible (k_here; (with_reducible show wpAny _ _ (call (Value.builtin "len") [Value.ref _]) _ _ _); k_dflt (refine' kst_len ?q1 ?q2 ?q3 ?q4 ?_; (case q1 => k_asm); (case q2 => k_mem); (case q3 => assumption); (case q4 => omega))) | with_reducible (k_here; (with_reducible show wpAny _ _ (exec (Stmt.For _ _ _ _ _) _) _ _ _); (rename Fr _ _ _ _ => lF'); (with_unfolding_all refine' For_invVF lF' ?k1 ?k2 ?_; (case k1 => exact rfl); (case k2 => exact rfl); k_whole)) | with_reducible (k_here; (with_reducible show wpAny _ _ (subscriptTail _ _ (Value.ref _) (Value.int _ _)) _ _ _); k_dflt (refine' item_tupleT ?t ?a ?b ?c ?d ?_; (case t => exact News.isTup (by k_asm) (by k_mem)); (case a => decide); (case b => decide); (case c => rfl); (case d => rfl); k_whole)) | with_reducible (k_here; (with_reducible show wpAny _ _ (PySem.pyIter (Value.ref _)) _ _ _); refine Stop.of ?_) | walk1 | (dsimp only; walk1) | fail "no step"))
  refine Stop.to ?_
  k_dflt (refine' Sp.use (c_lpoints (q := q) ⟨hb1, hb2⟩ hav hdv) ?k1 ?k2 ?k3 ?k4 ?k5 ?k6 ?k7 ?k8 ?k9 ?_; walk_at "use")
  unfold RPts5
  intro lp pvs zp led1 h1 tk1 hP hpl1 hpl2 hsub1 hnl1 F1 N1
  refine front2 N1 (hsub1 _ (.head _)) (hsub1 _ (.tail _ (.head _))) rfl rfl ?_
  intro led2 N2 hS2 hC2 _ hA2 hT2
  have hnlS := neN (hnl1 _ (hsub1 _ (.head _)))
  have hnlC := neN (hnl1 _ (hsub1 _ (.tail _ (.head _))))
  dsimp only at hnlS hnlC
  have hnews : ∀ p ∈ news, p ∈ led2 := fun p hp => hA2 p (hsub1 p (.tail _ (.tail _ hp))) (hS p hp) (hC p hp)
  have hP2 : ∀ v ∈ pvs, OnPt q av dv led2 v := fun v hv => (hP v hv).monoT hT2
  clear hP hsub1 hnl1 N1 hA2 hT2
  have hpl9 : pvs.length = pvs.length := rfl
  try dsimp only
  (repeat' (first | (k_unfold; (try dsimp only)) | ((with_reducible show wpAny _ _ (execs (List.cons _ _) _) _ _ (Shared.mk _ _ _ (HAdd.hAdd _ _) _)); (rename Fr _ _ _ _ => Fq); refine stm8 Fq ?_; clear Fq; intro tkq mq Fq; (try k_fold)) | with_reducible (k_here; (with_reducible show wpAny _ _ (subscriptTail _ _ (Value.ref _) (Value.int _ _)) _ _ _); refine Stop.of ?_) | with_reducible (k_here; (with_reducible show wpAny _ _ (PySem.call (Value.ref 394) _) _ _ _); refine Stop.of ?_) | with_reducible (k_here; (with_reducible show wpAny _ _ (PySem.call (Value.ref 373) _) _ _ _); refine Stop.of ?_) | with_reducible (k_here; (with_reducible show wpAny _ _ (PySem.call (Value.ref 387) _) _ _ _); k_dflt (refine' Sp.use (c_lplus ?q1 ?q2 ?q3 ?q4 ?q5 ?q6 ?q7) ?k1 ?k2 ?k3 ?k4 ?k5 ?k6 ?k7 ?k8 ?k9 ?_; walk_at "use"; (case q6 => k_dflt k_mem); (case q7 => k_dflt k_mem); (case q1 => assumption); (case q2 => assumption); (case q3 => assumption); (case q4 => assumption); (case q5 => assumption)); unfold RT2; intro D9ᵣ t1ᵣ t2ᵣ h9ᵣ tk9ᵣ F9ᵣ N9ᵣ l1ᵣ; (try k_lt l1ᵣ); (try dsimp only); (try k_sweep); (try k_fold)) | with_reducible (k_here; (with_reducible show wpAny _ _ (PySem.call (Value.ref 361) _) _ _ _); k_dflt (refine' Sp.use (c_takeU ?q1 ?q2 ?q3 ?q4 ?q5 ?q6) ?k1 ?k2 ?k3 ?k4 ?k5 ?k6 ?k7 ?k8 ?k9 ?_; walk_at "use"; (case q5 => k_updF); (case q6 => (intro o9ᵣ; k_updF)); (case q1 => with_reducible assumption); (case q2 => omega); (case q3 => first | omega | decide); (case q4 => assumption)); unfold RTakeU; intro r9ᵣ tr9ᵣ at9ᵣ ta9ᵣ vs9ᵣ ns9ᵣ zs9ᵣ zc9ᵣ h9ᵣ tk9ᵣ hr91ᵣ hr92ᵣ hst9ᵣ F9ᵣ N9ᵣ; (try dsimp only at N9ᵣ ⊢); (try k_sweep); (try k_fold)) | with_reducible (k_here; (with_reducible show wpAny _ _ (PySem.call (Value.ref 21) _) _ _ _); k_dflt (refine' Sp.use (c_inv ?q1 ?q2 ?q3 ?q4) ?k1 ?k2 ?k3 ?k4 ?k5 ?k6 ?k7 ?k8 ?k9 ?_; walk_at "use"; (case q1 => assumption); (case q2 => assumption); (case q3 => omega); (case q4 => omega)); unfold RInv; intro i9ᵣ t9ᵣ h9ᵣ tk9ᵣ hi1ᵣ hi2ᵣ hi3ᵣ F9ᵣ N9ᵣ; (try dsimp only); (try k_sweep); (try k_fold)) | with_reducible (k_here; (with_reducible show wpAny _ _ (PySem.call (Value.ref 71) _) _ _ _); k_dflt (refine' Sp.use (c_ed_a ?q1 ?q2 ?q3) ?k1 ?k2 ?k3 ?k4 ?k5 ?k6 ?k7 ?k8 ?k9 ?_; walk_at "use"; (case q2 => k_dflt k_mem); (case q3 => k_dflt k_mem); (case q1 => k_dflt (exact ⟨rfl, rfl, rfl⟩))); unfold RV; intro h9ᵣ tk9ᵣ F9ᵣ N9ᵣ; (try dsimp only); (try k_sweep); (try k_fold)) | with_reducible (k_here; (with_reducible show wpAny _ _ (PySem.call (Value.ref 64) _) _ _ _); k_dflt (refine' Sp.use (c_ed_p ?q1 ?q2 ?q3) ?k1 ?k2 ?k3 ?k4 ?k5 ?k6 ?k7 ?k8 ?k9 ?_; walk_at "use"; (case q2 => k_dflt k_mem); (case q3 => k_dflt k_mem); (case q1 => k_dflt (exact ⟨rfl, rfl, rfl⟩))); unfold RV; intro h9ᵣ tk9ᵣ F9ᵣ N9ᵣ; (try dsimp only); (try k_sweep); (try k_fold)) | with_reducible (k_here; (with_reducible show wpAny _ _ (call (Value.builtin "len") [Value.ref _]) _ _ _); k_dflt (refine' kst_len ?q1 ?q2 ?q3 ?q4 ?_; (case q1 => k_asm); (case q2 => k_mem); (case q3 => assumption); (case q4 => omega))) | with_reducible (k_here; (with_reducible show wpAny _ _ (exec (Stmt.For _ _ _ _ _) _) _ _ _); (rename Fr _ _ _ _ => lF'); (with_unfolding_all refine' For_invVF lF' ?k1 ?k2 ?_; (case k1 => exact rfl); (case k2 => exact rfl); k_whole)) | with_reducible (k_here; (with_reducible show wpAny _ _ (subscriptTail _ _ (Value.ref _) (Value.int _ _)) _ _ _); k_dflt (refine' item_tupleT ?t ?a ?b ?c ?d ?_; (case t => exact News.isTup (by k_asm) (by k_mem)); (case a => decide); (case b => decide); (case c => rfl); (case d => rfl); k_whole)) | with_reducible (k_here; (with_reducible show wpAny _ _ (PySem.pyIter (Value.ref _)) _ _ _); refine Stop.of ?_) | walk1 | (dsimp only; walk1) | fail "no step"))
  refine Stop.to ?_
  (rename News _ _ _ _ => N3)
  (rename StI _ _ _ (A + 1) => hst9)
  revert N3
  refine withStX hst9 ?_
  rintro vs9 ns9 at9 rfl rfl rfl N3
  (rename (_ < (pvs.length : Int)) => hr92)
  (rename (0 ≤ (_ : Int)) => hr91)
  k_dflt (refine' lp_range0 8 [Str.ofString "point", Str.ofString "k", Str.ofString "rows"] rfl ?zr ?zs ?zn (by k_asm) N3 ?zt ?zd)
  (case zr => assumption)
  (case zs => exact small_one (by omega) (by omega) (by omega) (by omega))
  (case zn => rfl)
  (case zt =>
    intro I i ti u h tk it hi hne F4 N4
    dsimp only [envOf] at hne F4 N4
    have hIS := neN (hne _ (.head _))
    have hIC := neN (hne _ (.tail _ (.head _)))
    have hIl := neN (hne _ (.tail _ (.tail _ (.head _))))
    dsimp only at hIS hIC hIl
    have hI2 : ∀ p ∈ led2, p.1 ≠ I := fun p hp => hne p (.tail _ (.tail _ (.tail _ hp)))
    (repeat' (first | (k_unfold; (try dsimp only)) | ((with_reducible show wpAny _ _ (execs (List.cons _ _) _) _ _ (Shared.mk _ _ _ (HAdd.hAdd _ _) _)); (rename Fr _ _ _ _ => Fq); refine stm8 Fq ?_; clear Fq; intro tkq mq Fq; (try k_fold)) | with_reducible (k_here; (with_reducible show wpAny _ _ (subscriptTail _ _ (Value.ref _) (Value.int _ _)) _ _ _); refine Stop.of ?_) | with_reducible (k_here; (with_reducible show wpAny _ _ (PySem.call (Value.ref 394) _) _ _ _); refine Stop.of ?_) | with_reducible (k_here; (with_reducible show wpAny _ _ (PySem.call (Value.ref 373) _) _ _ _); refine Stop.of ?_) | with_reducible (k_here; (with_reducible show wpAny _ _ (PySem.call (Value.ref 387) _) _ _ _); k_dflt (refine' Sp.use (c_lplus ?q1 ?q2 ?q3 ?q4 ?q5 ?q6 ?q7) ?k1 ?k2 ?k3 ?k4 ?k5 ?k6 ?k7 ?k8 ?k9 ?_; walk_at "use"; (case q6 => k_dflt k_mem); (case q7 => k_dflt k_mem); (case q1 => assumption); (case q2 => assumption); (case q3 => assumption); (case q4 => assumption); (case q5 => assumption)); unfold RT2; intro D9ᵣ t1ᵣ t2ᵣ h9ᵣ tk9ᵣ F9ᵣ N9ᵣ l1ᵣ; (try k_lt l1ᵣ); (try dsimp only); (try k_sweep); (try k_fold)) | with_reducible (k_here; (with_reducible show wpAny _ _ (PySem.call (Value.ref 361) _) _ _ _); k_dflt (refine' Sp.use (c_takeU ?q1 ?q2 ?q3 ?q4 ?q5 ?q6) ?k1 ?k2 ?k3 ?k4 ?k5 ?k6 ?k7 ?k8 ?k9 ?_; walk_at "use"; (case q5 => k_updF); (case q6 => (intro o9ᵣ; k_updF)); (case q1 => with_reducible assumption); (case q2 => omega); (case q3 => first | omega | decide); (case q4 => assumption)); unfold RTakeU; intro r9ᵣ tr9ᵣ at9ᵣ ta9ᵣ vs9ᵣ ns9ᵣ zs9ᵣ zc9ᵣ h9ᵣ tk9ᵣ hr91ᵣ hr92ᵣ hst9ᵣ F9ᵣ N9ᵣ; (try dsimp only at N9ᵣ ⊢); (try k_sweep); (try k_fold)) | with_reducible (k_here; (with_reducible show wpAny _ _ (PySem.call (Value.ref 21) _) _ _ _); k_dflt (refine' Sp.use (c_inv ?q1 ?q2 ?q3 ?q4) ?k1 ?k2 ?k3 ?k4 ?k5 ?k6 ?k7 ?k8 ?k9 ?_; walk_at "use"; (case q1 => assumption); (case q2 => assumption); (case q3 => omega); (case q4 => omega)); unfold RInv; intro i9ᵣ t9ᵣ h9ᵣ tk9ᵣ hi1ᵣ hi2ᵣ hi3ᵣ F9ᵣ N9ᵣ; (try dsimp only); (try k_sweep); (try k_fold)) | with_reducible (k_here; (with_reducible show wpAny _ _ (PySem.call (Value.ref 71) _) _ _ _); k_dflt (refine' Sp.use (c_ed_a ?q1 ?q2 ?q3) ?k1 ?k2 ?k3 ?k4 ?k5 ?k6 ?k7 ?k8 ?k9 ?_; walk_at "use"; (case q2 => k_dflt k_mem); (case q3 => k_dflt k_mem); (case q1 => k_dflt (exact ⟨rfl, rfl, rfl⟩))); unfold RV; intro h9ᵣ tk9ᵣ F9ᵣ N9ᵣ; (try dsimp only); (try k_sweep); (try k_fold)) | with_reducible (k_here; (with_reducible show wpAny _ _ (PySem.call (Value.ref 64) _) _ _ _); k_dflt (refine' Sp.use (c_ed_p ?q1 ?q2 ?q3) ?k1 ?k2 ?k3 ?k4 ?k5 ?k6 ?k7 ?k8 ?k9 ?_; walk_at "use"; (case q2 => k_dflt k_mem); (case q3 => k_dflt k_mem); (case q1 => k_dflt (exact ⟨rfl, rfl, rfl⟩))); unfold RV; intro h9ᵣ tk9ᵣ F9ᵣ N9ᵣ; (try dsimp only); (try k_sweep); (try k_fold)) | with_reducible (k_here; (with_reducible show wpAny _ _ (call (Value.builtin "len") [Value.ref _]) _ _ _); k_dflt (refine' kst_len ?q1 ?q2 ?q3 ?q4 ?_; (case q1 => k_asm); (case q2 => k_mem); (case q3 => assumption); (case q4 => omega))) | with_reducible (k_here; (with_reducible show wpAny _ _ (exec (Stmt.For _ _ _ _ _) _) _ _ _); (rename Fr _ _ _ _ => lF'); (with_unfolding_all refine' For_invVF lF' ?k1 ?k2 ?_; (case k1 => exact rfl); (case k2 => exact rfl); k_whole)) | with_reducible (k_here; (with_reducible show wpAny _ _ (subscriptTail _ _ (Value.ref _) (Value.int _ _)) _ _ _); k_dflt (refine' item_tupleT ?t ?a ?b ?c ?d ?_; (case t => exact News.isTup (by k_asm) (by k_mem)); (case a => decide); (case b => decide); (case c => rfl); (case d => rfl); k_whole)) | with_reducible (k_here; (with_reducible show wpAny _ _ (PySem.pyIter (Value.ref _)) _ _ _); refine Stop.of ?_) | walk1 | (dsimp only; walk1) | fail "no step"))
    refine Stop.to ?_
    k_dflt (refine' item_pt ?p1 ?p2 hP2 hpl1 hpl2 ?_ ?p3 ?p4)
    (case p1 => k_asm)
    (case p2 => k_dflt k_mem)
    (case p3 => with_unfolding_all rfl)
    (case p4 => intro _; with_unfolding_all rfl)
    intro r0 x0 u0 y0 v0 hm0 hb0 ho0
    (repeat' (first | (k_unfold; (try dsimp only)) | ((with_reducible show wpAny _ _ (execs (List.cons _ _) _) _ _ (Shared.mk _ _ _ (HAdd.hAdd _ _) _)); (rename Fr _ _ _ _ => Fq); refine stm8 Fq ?_; clear Fq; intro tkq mq Fq; (try k_fold)) | with_reducible (k_here; (with_reducible show wpAny _ _ (subscriptTail _ _ (Value.ref _) (Value.int _ _)) _ _ _); refine Stop.of ?_) | with_reducible (k_here; (with_reducible show wpAny _ _ (PySem.call (Value.ref 394) _) _ _ _); refine Stop.of ?_) | with_reducible (k_here; (with_reducible show wpAny _ _ (PySem.call (Value.ref 373) _) _ _ _); refine Stop.of ?_) | with_reducible (k_here; (with_reducible show wpAny _ _ (PySem.call (Value.ref 387) _) _ _ _); k_dflt (refine' Sp.use (c_lplus ?q1 ?q2 ?q3 ?q4 ?q5 ?q6 ?q7) ?k1 ?k2 ?k3 ?k4 ?k5 ?k6 ?k7 ?k8 ?k9 ?_; walk_at "use"; (case q6 => k_dflt k_mem); (case q7 => k_dflt k_mem); (case q1 => assumption); (case q2 => assumption); (case q3 => assumption); (case q4 => assumption); (case q5 => assumption)); unfold RT2; intro D9ᵣ t1ᵣ t2ᵣ h9ᵣ tk9ᵣ F9ᵣ N9ᵣ l1ᵣ; (try k_lt l1ᵣ); (try dsimp only); (try k_sweep); (try k_fold)) | with_reducible (k_here; (with_reducible show wpAny _ _ (PySem.call (Value.ref 361) _) _ _ _); k_dflt (refine' Sp.use (c_takeU ?q1 ?q2 ?q3 ?q4 ?q5 ?q6) ?k1 ?k2 ?k3 ?k4 ?k5 ?k6 ?k7 ?k8 ?k9 ?_; walk_at "use"; (case q5 => k_updF); (case q6 => (intro o9ᵣ; k_updF)); (case q1 => with_reducible assumption); (case q2 => omega); (case q3 => first | omega | decide); (case q4 => assumption)); unfold RTakeU; intro r9ᵣ tr9ᵣ at9ᵣ ta9ᵣ vs9ᵣ ns9ᵣ zs9ᵣ zc9ᵣ h9ᵣ tk9ᵣ hr91ᵣ hr92ᵣ hst9ᵣ F9ᵣ N9ᵣ; (try dsimp only at N9ᵣ ⊢); (try k_sweep); (try k_fold)) | with_reducible (k_here; (with_reducible show wpAny _ _ (PySem.call (Value.ref 21) _) _ _ _); k_dflt (refine' Sp.use (c_inv ?q1 ?q2 ?q3 ?q4) ?k1 ?k2 ?k3 ?k4 ?k5 ?k6 ?k7 ?k8 ?k9 ?_; walk_at "use"; (case q1 => assumption); (case q2 => assumption); (case q3 => omega); (case q4 => omega)); unfold RInv; intro i9ᵣ t9ᵣ h9ᵣ tk9ᵣ hi1ᵣ hi2ᵣ hi3ᵣ F9ᵣ N9ᵣ; (try dsimp only); (try k_sweep); (try k_fold)) | with_reducible (k_here; (with_reducible show wpAny _ _ (PySem.call (Value.ref 71) _) _ _ _); k_dflt (refine' Sp.use (c_ed_a ?q1 ?q2 ?q3) ?k1 ?k2 ?k3 ?k4 ?k5 ?k6 ?k7 ?k8 ?k9 ?_; walk_at "use"; (case q2 => k_dflt k_mem); (case q3 => k_dflt k_mem); (case q1 => k_dflt (exact ⟨rfl, rfl, rfl⟩))); unfold RV; intro h9ᵣ tk9ᵣ F9ᵣ N9ᵣ; (try dsimp only); (try k_sweep); (try k_fold)) | with_reducible (k_here; (with_reducible show wpAny _ _ (PySem.call (Value.ref 64) _) _ _ _); k_dflt (refine' Sp.use (c_ed_p ?q1 ?q2 ?q3) ?k1 ?k2 ?k3 ?k4 ?k5 ?k6 ?k7 ?k8 ?k9 ?_; walk_at "use"; (case q2 => k_dflt k_mem); (case q3 => k_dflt k_mem); (case q1 => k_dflt (exact ⟨rfl, rfl, rfl⟩))); unfold RV; intro h9ᵣ tk9ᵣ F9ᵣ N9ᵣ; (try dsimp only); (try k_sweep); (try k_fold)) | with_reducible (k_here; (with_reducible show wpAny _ _ (call (Value.builtin "len") [Value.ref _]) _ _ _); k_dflt (refine' kst_len ?q1 ?q2 ?q3 ?q4 ?_; (case q1 => k_asm); (case q2 => k_mem); (case q3 => assumption); (case q4 => omega))) | with_reducible (k_here; (with_reducible show wpAny _ _ (exec (Stmt.For _ _ _ _ _) _) _ _ _); (rename Fr _ _ _ _ => lF'); (with_unfolding_all refine' For_invVF lF' ?k1 ?k2 ?_; (case k1 => exact rfl); (case k2 => exact rfl); k_whole)) | with_reducible (k_here; (with_reducible show wpAny _ _ (subscriptTail _ _ (Value.ref _) (Value.int _ _)) _ _ _); k_dflt (refine' item_tupleT ?t ?a ?b ?c ?d ?_; (case t => exact News.isTup (by k_asm) (by k_mem)); (case a => decide); (case b => decide); (case c => rfl); (case d => rfl); k_whole)) | with_reducible (k_here; (with_reducible show wpAny _ _ (PySem.pyIter (Value.ref _)) _ _ _); refine Stop.of ?_) | walk1 | (dsimp only; walk1) | fail "no step"))
    refine Stop.to ?_
    (rename News _ _ _ _ => N5)
    k_dflt (refine' lp_range (σ := PtC) 7 (fun c => (I, it) :: (S, stO at9 _ C _) :: (C, W.listOf vs9.toArray _) :: (lp, W.listOf pvs.toArray zp) :: (c.r, tup2 c.x c.t c.y c.u) :: led2) (fun c => [(Str.ofString "point", Value.ref c.r)]) (PtCI q av dv) [Str.ofString "point"] ⟨r0, x0, u0, y0, v0⟩ rfl ?yr ?ys ?yn (by k_asm) ?yM (by walk_at "ps") ⟨hb0, ho0⟩ ?yt ?yd)
    (case yr => assumption)
    (case ys => exact small_one (by omega) (by omega) (by omega) (by omega))
    (case yn => rfl)
    (case yM => refine' cb_drop N5 (List.forall_mem_cons.mpr ⟨by k_dflt k_mem, List.forall_mem_cons.mpr ⟨by k_dflt k_mem, List.forall_mem_cons.mpr ⟨by k_dflt k_mem, List.forall_mem_cons.mpr ⟨by k_dflt k_mem, List.forall_mem_cons.mpr ⟨?y9, fun p hp => ?y8⟩⟩⟩⟩⟩); (case y9 => repeat (first | exact hm0 | apply List.mem_cons_of_mem)); (case y8 => repeat (first | exact hp | apply List.mem_cons_of_mem)))
    (case yt =>
      rintro I2 j tj ⟨r, x, t, y, v⟩ u2 h2 tk2 it2 hj ⟨hb3, ho3⟩ hne2 F6 N6
      dsimp only [envOf] at hb3 ho3 hne2 F6 N6
      have hl3 := Ed.lplus_in (a := av) (d := dv) (show (0 : Int) < q by omega) (x, y) (x, y)
      have ho4 := lplus_on hcv (P := (x, y)) (Q := (x, y)) ho3 ho3
      (repeat' (first | (k_unfold; (try dsimp only)) | ((with_reducible show wpAny _ _ (execs (List.cons _ _) _) _ _ (Shared.mk _ _ _ (HAdd.hAdd _ _) _)); (rename Fr _ _ _ _ => Fq); refine stm8 Fq ?_; clear Fq; intro tkq mq Fq; (try k_fold)) | with_reducible (k_here; (with_reducible show wpAny _ _ (subscriptTail _ _ (Value.ref _) (Value.int _ _)) _ _ _); refine Stop.of ?_) | with_reducible (k_here; (with_reducible show wpAny _ _ (PySem.call (Value.ref 394) _) _ _ _); refine Stop.of ?_) | with_reducible (k_here; (with_reducible show wpAny _ _ (PySem.call (Value.ref 373) _) _ _ _); refine Stop.of ?_) | with_reducible (k_here; (with_reducible show wpAny _ _ (PySem.call (Value.ref 387) _) _ _ _); k_dflt (refine' Sp.use (c_lplus ?q1 ?q2 ?q3 ?q4 ?q5 ?q6 ?q7) ?k1 ?k2 ?k3 ?k4 ?k5 ?k6 ?k7 ?k8 ?k9 ?_; walk_at "use"; (case q6 => k_dflt k_mem); (case q7 => k_dflt k_mem); (case q1 => assumption); (case q2 => assumption); (case q3 => assumption); (case q4 => assumption); (case q5 => assumption)); unfold RT2; intro D9ᵣ t1ᵣ t2ᵣ h9ᵣ tk9ᵣ F9ᵣ N9ᵣ l1ᵣ; (try k_lt l1ᵣ); (try dsimp only); (try k_sweep); (try k_fold)) | with_reducible (k_here; (with_reducible show wpAny _ _ (PySem.call (Value.ref 361) _) _ _ _); k_dflt (refine' Sp.use (c_takeU ?q1 ?q2 ?q3 ?q4 ?q5 ?q6) ?k1 ?k2 ?k3 ?k4 ?k5 ?k6 ?k7 ?k8 ?k9 ?_; walk_at "use"; (case q5 => k_updF); (case q6 => (intro o9ᵣ; k_updF)); (case q1 => with_reducible assumption); (case q2 => omega); (case q3 => first | omega | decide); (case q4 => assumption)); unfold RTakeU; intro r9ᵣ tr9ᵣ at9ᵣ ta9ᵣ vs9ᵣ ns9ᵣ zs9ᵣ zc9ᵣ h9ᵣ tk9ᵣ hr91ᵣ hr92ᵣ hst9ᵣ F9ᵣ N9ᵣ; (try dsimp only at N9ᵣ ⊢); (try k_sweep); (try k_fold)) | with_reducible (k_here; (with_reducible show wpAny _ _ (PySem.call (Value.ref 21) _) _ _ _); k_dflt (refine' Sp.use (c_inv ?q1 ?q2 ?q3 ?q4) ?k1 ?k2 ?k3 ?k4 ?k5 ?k6 ?k7 ?k8 ?k9 ?_; walk_at "use"; (case q1 => assumption); (case q2 => assumption); (case q3 => omega); (case q4 => omega)); unfold RInv; intro i9ᵣ t9ᵣ h9ᵣ tk9ᵣ hi1ᵣ hi2ᵣ hi3ᵣ F9ᵣ N9ᵣ; (try dsimp only); (try k_sweep); (try k_fold)) | with_reducible (k_here; (with_reducible show wpAny _ _ (PySem.call (Value.ref 71) _) _ _ _); k_dflt (refine' Sp.use (c_ed_a ?q1 ?q2 ?q3) ?k1 ?k2 ?k3 ?k4 ?k5 ?k6 ?k7 ?k8 ?k9 ?_; walk_at "use"; (case q2 => k_dflt k_mem); (case q3 => k_dflt k_mem); (case q1 => k_dflt (exact ⟨rfl, rfl, rfl⟩))); unfold RV; intro h9ᵣ tk9ᵣ F9ᵣ N9ᵣ; (try dsimp only); (try k_sweep); (try k_fold)) | with_reducible (k_here; (with_reducible show wpAny _ _ (PySem.call (Value.ref 64) _) _ _ _); k_dflt (refine' Sp.use (c_ed_p ?q1 ?q2 ?q3) ?k1 ?k2 ?k3 ?k4 ?k5 ?k6 ?k7 ?k8 ?k9 ?_; walk_at "use"; (case q2 => k_dflt k_mem); (case q3 => k_dflt k_mem); (case q1 => k_dflt (exact ⟨rfl, rfl, rfl⟩))); unfold RV; intro h9ᵣ tk9ᵣ F9ᵣ N9ᵣ; (try dsimp only); (try k_sweep); (try k_fold)) | with_reducible (k_here; (with_reducible show wpAny _ _ (call (Value.builtin "len") [Value.ref _]) _ _ _); k_dflt (refine' kst_len ?q1 ?q2 ?q3 ?q4 ?_; (case q1 => k_asm); (case q2 => k_mem); (case q3 => assumption); (case q4 => omega))) | with_reducible (k_here; (with_reducible show wpAny _ _ (exec (Stmt.For _ _ _ _ _) _) _ _ _); (rename Fr _ _ _ _ => lF'); (with_unfolding_all refine' For_invVF lF' ?k1 ?k2 ?_; (case k1 => exact rfl); (case k2 => exact rfl); k_whole)) | with_reducible (k_here; (with_reducible show wpAny _ _ (subscriptTail _ _ (Value.ref _) (Value.int _ _)) _ _ _); k_dflt (refine' item_tupleT ?t ?a ?b ?c ?d ?_; (case t => exact News.isTup (by k_asm) (by k_mem)); (case a => decide); (case b => decide); (case c => rfl); (case d => rfl); k_whole)) | with_reducible (k_here; (with_reducible show wpAny _ _ (PySem.pyIter (Value.ref _)) _ _ _); refine Stop.of ?_) | walk1 | (dsimp only; walk1) | fail "no step"))
      (rename (_ < _ ∧ _ < _ ∧ _ < _ ∧ _ < _ ∧ _ < _ ∧ _ < _ ∧ AllLt _ _) => l9)
      (rename News _ _ _ _ => N9)
      revert l9
      refine withTup1 N9 ?_
      rintro D9 T1 T2 rfl rfl rfl l9
      refine lp_end ⟨D9, (Ed.lplus q av dv (x, y) (x, y)).1, T1, (Ed.lplus q av dv (x, y) (x, y)).2, T2⟩ (by k_asm) N9 ?_ (by k_dflt k_mem) ?_ (by walk_at "ps") (by walk_at "same") ⟨hl3, ho4⟩
      · exact List.forall_mem_cons.mpr ⟨by k_dflt k_mem, List.forall_mem_cons.mpr ⟨by k_dflt k_mem, List.forall_mem_cons.mpr ⟨by k_dflt k_mem, List.forall_mem_cons.mpr ⟨by k_dflt k_mem, List.forall_mem_cons.mpr ⟨.head _, fun p hp => by repeat (first | exact hp | apply List.mem_cons_of_mem)⟩⟩⟩⟩⟩
      · exact List.forall_mem_cons.mpr ⟨hne2 _ (.head _), List.forall_mem_cons.mpr ⟨hne2 _ (.tail _ (.head _)), List.forall_mem_cons.mpr ⟨hne2 _ (.tail _ (.tail _ (.head _))), List.forall_mem_cons.mpr ⟨hne2 _ (.tail _ (.tail _ (.tail _ (.head _)))), List.forall_mem_cons.mpr ⟨Nat.ne_of_gt l9.1, fun p hp => hne2 p (by repeat (first | exact hp | apply List.mem_cons_of_mem))⟩⟩⟩⟩⟩)
    (case yd =>
      rintro ⟨r, x, t, y, v⟩ u2 h2 tk2 ⟨hb3, ho3⟩ F6 N6
      dsimp only [envOf] at hb3 ho3 F6 N6
      (repeat' (first | (k_unfold; (try dsimp only)) | ((with_reducible show wpAny _ _ (execs (List.cons _ _) _) _ _ (Shared.mk _ _ _ (HAdd.hAdd _ _) _)); (rename Fr _ _ _ _ => Fq); refine stm8 Fq ?_; clear Fq; intro tkq mq Fq; (try k_fold)) | with_reducible (k_here; (with_reducible show wpAny _ _ (subscriptTail _ _ (Value.ref _) (Value.int _ _)) _ _ _); refine Stop.of ?_) | with_reducible (k_here; (with_reducible show wpAny _ _ (PySem.call (Value.ref 394) _) _ _ _); refine Stop.of ?_) | with_reducible (k_here; (with_reducible show wpAny _ _ (PySem.call (Value.ref 373) _) _ _ _); refine Stop.of ?_) | with_reducible (k_here; (with_reducible show wpAny _ _ (PySem.call (Value.ref 387) _) _ _ _); k_dflt (refine' Sp.use (c_lplus ?q1 ?q2 ?q3 ?q4 ?q5 ?q6 ?q7) ?k1 ?k2 ?k3 ?k4 ?k5 ?k6 ?k7 ?k8 ?k9 ?_; walk_at "use"; (case q6 => k_dflt k_mem); (case q7 => k_dflt k_mem); (case q1 => assumption); (case q2 => assumption); (case q3 => assumption); (case q4 => assumption); (case q5 => assumption)); unfold RT2; intro D9ᵣ t1ᵣ t2ᵣ h9ᵣ tk9ᵣ F9ᵣ N9ᵣ l1ᵣ; (try k_lt l1ᵣ); (try dsimp only); (try k_sweep); (try k_fold)) | with_reducible (k_here; (with_reducible show wpAny _ _ (PySem.call (Value.ref 361) _) _ _ _); k_dflt (refine' Sp.use (c_takeU ?q1 ?q2 ?q3 ?q4 ?q5 ?q6) ?k1 ?k2 ?k3 ?k4 ?k5 ?k6 ?k7 ?k8 ?k9 ?_; walk_at "use"; (case q5 => k_updF); (case q6 => (intro o9ᵣ; k_updF)); (case q1 => with_reducible assumption); (case q2 => omega); (case q3 => first | omega | decide); (case q4 => assumption)); unfold RTakeU; intro r9ᵣ tr9ᵣ at9ᵣ ta9ᵣ vs9ᵣ ns9ᵣ zs9ᵣ zc9ᵣ h9ᵣ tk9ᵣ hr91ᵣ hr92ᵣ hst9ᵣ F9ᵣ N9ᵣ; (try dsimp only at N9ᵣ ⊢); (try k_sweep); (try k_fold)) | with_reducible (k_here; (with_reducible show wpAny _ _ (PySem.call (Value.ref 21) _) _ _ _); k_dflt (refine' Sp.use (c_inv ?q1 ?q2 ?q3 ?q4) ?k1 ?k2 ?k3 ?k4 ?k5 ?k6 ?k7 ?k8 ?k9 ?_; walk_at "use"; (case q1 => assumption); (case q2 => assumption); (case q3 => omega); (case q4 => omega)); unfold RInv; intro i9ᵣ t9ᵣ h9ᵣ tk9ᵣ hi1ᵣ hi2ᵣ hi3ᵣ F9ᵣ N9ᵣ; (try dsimp only); (try k_sweep); (try k_fold)) | with_reducible (k_here; (with_reducible show wpAny _ _ (PySem.call (Value.ref 71) _) _ _ _); k_dflt (refine' Sp.use (c_ed_a ?q1 ?q2 ?q3) ?k1 ?k2 ?k3 ?k4 ?k5 ?k6 ?k7 ?k8 ?k9 ?_; walk_at "use"; (case q2 => k_dflt k_mem); (case q3 => k_dflt k_mem); (case q1 => k_dflt (exact ⟨rfl, rfl, rfl⟩))); unfold RV; intro h9ᵣ tk9ᵣ F9ᵣ N9ᵣ; (try dsimp only); (try k_sweep); (try k_fold)) | with_reducible (k_here; (with_reducible show wpAny _ _ (PySem.call (Value.ref 64) _) _ _ _); k_dflt (refine' Sp.use (c_ed_p ?q1 ?q2 ?q3) ?k1 ?k2 ?k3 ?k4 ?k5 ?k6 ?k7 ?k8 ?k9 ?_; walk_at "use"; (case q2 => k_dflt k_mem); (case q3 => k_dflt k_mem); (case q1 => k_dflt (exact ⟨rfl, rfl, rfl⟩))); unfold RV; intro h9ᵣ tk9ᵣ F9ᵣ N9ᵣ; (try dsimp only); (try k_sweep); (try k_fold)) | with_reducible (k_here; (with_reducible show wpAny _ _ (call (Value.builtin "len") [Value.ref _]) _ _ _); k_dflt (refine' kst_len ?q1 ?q2 ?q3 ?q4 ?_; (case q1 => k_asm); (case q2 => k_mem); (case q3 => assumption); (case q4 => omega))) | with_reducible (k_here; (with_reducible show wpAny _ _ (exec (Stmt.For _ _ _ _ _) _) _ _ _); (rename Fr _ _ _ _ => lF'); (with_unfolding_all refine' For_invVF lF' ?k1 ?k2 ?_; (case k1 => exact rfl); (case k2 => exact rfl); k_whole)) | with_reducible (k_here; (with_reducible show wpAny _ _ (subscriptTail _ _ (Value.ref _) (Value.int _ _)) _ _ _); k_dflt (refine' item_tupleT ?t ?a ?b ?c ?d ?_; (case t => exact News.isTup (by k_asm) (by k_mem)); (case a => decide); (case b => decide); (case c => rfl); (case d => rfl); k_whole)) | with_reducible (k_here; (with_reducible show wpAny _ _ (PySem.pyIter (Value.ref _)) _ _ _); refine Stop.of ?_) | walk1 | (dsimp only; walk1) | fail "no step"))
      refine Stop.to ?_
      k_dflt (refine' Sp.use (c_lmults (q := q) hcv hb3 ho3 ?ym) ?k1 ?k2 ?k3 ?k4 ?k5 ?k6 ?k7 ?k8 ?k9 ?_; walk_at "use")
      (case ym => k_dflt k_mem)
      unfold RRows
      intro l5 vs5 z5 led5 h5 tk5 hR5 hl51 hl52 hz5 hlow5 hsub5 F5 N7 hnl5
      have hl59 : vs5.length = vs5.length := rfl
      have hm5S := hsub5 _ (.tail _ (.head _))
      have hm5C := hsub5 _ (.tail _ (.tail _ (.head _)))
      have hm5l := hsub5 _ (.tail _ (.tail _ (.tail _ (.head _))))
      have hm5I := hsub5 _ (.head _)
      have hm52 : ∀ p ∈ led2, p ∈ led5 := fun p hp => hsub5 p (by repeat (first | exact hp | apply List.mem_cons_of_mem))
      clear hsub5
      try dsimp only
      (repeat' (first | (k_unfold; (try dsimp only)) | ((with_reducible show wpAny _ _ (execs (List.cons _ _) _) _ _ (Shared.mk _ _ _ (HAdd.hAdd _ _) _)); (rename Fr _ _ _ _ => Fq); refine stm8 Fq ?_; clear Fq; intro tkq mq Fq; (try k_fold)) | with_reducible (k_here; (with_reducible show wpAny _ _ (subscriptTail _ _ (Value.ref _) (Value.int _ _)) _ _ _); refine Stop.of ?_) | with_reducible (k_here; (with_reducible show wpAny _ _ (PySem.call (Value.ref 394) _) _ _ _); refine Stop.of ?_) | with_reducible (k_here; (with_reducible show wpAny _ _ (PySem.call (Value.ref 373) _) _ _ _); refine Stop.of ?_) | with_reducible (k_here; (with_reducible show wpAny _ _ (PySem.call (Value.ref 387) _) _ _ _); k_dflt (refine' Sp.use (c_lplus ?q1 ?q2 ?q3 ?q4 ?q5 ?q6 ?q7) ?k1 ?k2 ?k3 ?k4 ?k5 ?k6 ?k7 ?k8 ?k9 ?_; walk_at "use"; (case q6 => k_dflt k_mem); (case q7 => k_dflt k_mem); (case q1 => assumption); (case q2 => assumption); (case q3 => assumption); (case q4 => assumption); (case q5 => assumption)); unfold RT2; intro D9ᵣ t1ᵣ t2ᵣ h9ᵣ tk9ᵣ F9ᵣ N9ᵣ l1ᵣ; (try k_lt l1ᵣ); (try dsimp only); (try k_sweep); (try k_fold)) | with_reducible (k_here; (with_reducible show wpAny _ _ (PySem.call (Value.ref 361) _) _ _ _); k_dflt (refine' Sp.use (c_takeU ?q1 ?q2 ?q3 ?q4 ?q5 ?q6) ?k1 ?k2 ?k3 ?k4 ?k5 ?k6 ?k7 ?k8 ?k9 ?_; walk_at "use"; (case q5 => k_updF); (case q6 => (intro o9ᵣ; k_updF)); (case q1 => with_reducible assumption); (case q2 => omega); (case q3 => first | omega | decide); (case q4 => assumption)); unfold RTakeU; intro r9ᵣ tr9ᵣ at9ᵣ ta9ᵣ vs9ᵣ ns9ᵣ zs9ᵣ zc9ᵣ h9ᵣ tk9ᵣ hr91ᵣ hr92ᵣ hst9ᵣ F9ᵣ N9ᵣ; (try dsimp only at N9ᵣ ⊢); (try k_sweep); (try k_fold)) | with_reducible (k_here; (with_reducible show wpAny _ _ (PySem.call (Value.ref 21) _) _ _ _); k_dflt (refine' Sp.use (c_inv ?q1 ?q2 ?q3 ?q4) ?k1 ?k2 ?k3 ?k4 ?k5 ?k6 ?k7 ?k8 ?k9 ?_; walk_at "use"; (case q1 => assumption); (case q2 => assumption); (case q3 => omega); (case q4 => omega)); unfold RInv; intro i9ᵣ t9ᵣ h9ᵣ tk9ᵣ hi1ᵣ hi2ᵣ hi3ᵣ F9ᵣ N9ᵣ; (try dsimp only); (try k_sweep); (try k_fold)) | with_reducible (k_here; (with_reducible show wpAny _ _ (PySem.call (Value.ref 71) _) _ _ _); k_dflt (refine' Sp.use (c_ed_a ?q1 ?q2 ?q3) ?k1 ?k2 ?k3 ?k4 ?k5 ?k6 ?k7 ?k8 ?k9 ?_; walk_at "use"; (case q2 => k_dflt k_mem); (case q3 => k_dflt k_mem); (case q1 => k_dflt (exact ⟨rfl, rfl, rfl⟩))); unfold RV; intro h9ᵣ tk9ᵣ F9ᵣ N9ᵣ; (try dsimp only); (try k_sweep); (try k_fold)) | with_reducible (k_here; (with_reducible show wpAny _ _ (PySem.call (Value.ref 64) _) _ _ _); k_dflt (refine' Sp.use (c_ed_p ?q1 ?q2 ?q3) ?k1 ?k2 ?k3 ?k4 ?k5 ?k6 ?k7 ?k8 ?k9 ?_; walk_at "use"; (case q2 => k_dflt k_mem); (case q3 => k_dflt k_mem); (case q1 => k_dflt (exact ⟨rfl, rfl, rfl⟩))); unfold RV; intro h9ᵣ tk9ᵣ F9ᵣ N9ᵣ; (try dsimp only); (try k_sweep); (try k_fold)) | with_reducible (k_here; (with_reducible show wpAny _ _ (call (Value.builtin "len") [Value.ref _]) _ _ _); k_dflt (refine' kst_len ?q1 ?q2 ?q3 ?q4 ?_; (case q1 => k_asm); (case q2 => k_mem); (case q3 => assumption); (case q4 => omega))) | with_reducible (k_here; (with_reducible show wpAny _ _ (exec (Stmt.For _ _ _ _ _) _) _ _ _); (rename Fr _ _ _ _ => lF'); (with_unfolding_all refine' For_invVF lF' ?k1 ?k2 ?_; (case k1 => exact rfl); (case k2 => exact rfl); k_whole)) | with_reducible (k_here; (with_reducible show wpAny _ _ (subscriptTail _ _ (Value.ref _) (Value.int _ _)) _ _ _); k_dflt (refine' item_tupleT ?t ?a ?b ?c ?d ?_; (case t => exact News.isTup (by k_asm) (by k_mem)); (case a => decide); (case b => decide); (case c => rfl); (case d => rfl); k_whole)) | with_reducible (k_here; (with_reducible show wpAny _ _ (PySem.pyIter (Value.ref _)) _ _ _); refine Stop.of ?_) | walk1 | (dsimp only; walk1) | fail "no step"))
      · (rename News _ _ _ _ => N7)
        refine front2 N7 hm5S hm5C rfl rfl ?_
        intro led6 N8 hS6 hC6 _ hA6 hT6
        (rename Int.fmod _ 2 = 1 => hodd)
        (rename (1 : Int) < _ => hbig)
        rw [Int.fmod_eq_emod_of_nonneg _ (by omega)] at hodd
        exact hret l5 vs5 z5 _ _ vs9 ns9 _ _ ((l5, _) :: led6) _ _ (.inr ⟨(x, y), ⟨hcv, ho3, hb3, by omega, by omega, hz5, hlow5⟩, (hR5.monoT hT6).mono fun p hp => .tail _ hp⟩) hl51 (by omega) hst9 (by k_asm) N8 (List.forall_mem_cons.mpr ⟨fun e => hnl5 _ hm5S e.symm, hS6⟩) (List.forall_mem_cons.mpr ⟨fun e => hnl5 _ hm5C e.symm, hC6⟩)
          (fun p hp => .tail _ (hA6 p (hm52 p (hnews p hp)) (hS p hp) (hC p hp))) (.head _)
      · (rename News _ _ _ _ => N7)
        exact lp_end0 (by k_asm) N7 (List.forall_mem_cons.mpr ⟨.tail _ hm5S, List.forall_mem_cons.mpr ⟨.tail _ hm5C, List.forall_mem_cons.mpr ⟨.tail _ hm5l, fun p hp => .tail _ (hm52 p hp)⟩⟩⟩) (.tail _ hm5I) hne (by walk_at "same")
      · (rename News _ _ _ _ => N7)
        exact lp_end0 (by k_asm) N7 (List.forall_mem_cons.mpr ⟨.tail _ hm5S, List.forall_mem_cons.mpr ⟨.tail _ hm5C, List.forall_mem_cons.mpr ⟨.tail _ hm5l, fun p hp => .tail _ (hm52 p hp)⟩⟩⟩) (.tail _ hm5I) hne (by walk_at "same")))
  (case zd =>
    intro u h tk F4 N4
    dsimp only [envOf] at F4 N4
    (repeat' (first | (k_unfold; (try dsimp only)) | ((with_reducible show wpAny _ _ (execs (List.cons _ _) _) _ _ (Shared.mk _ _ _ (HAdd.hAdd _ _) _)); (rename Fr _ _ _ _ => Fq); refine stm8 Fq ?_; clear Fq; intro tkq mq Fq; (try k_fold)) | with_reducible (k_here; (with_reducible show wpAny _ _ (subscriptTail _ _ (Value.ref _) (Value.int _ _)) _ _ _); refine Stop.of ?_) | with_reducible (k_here; (with_reducible show wpAny _ _ (PySem.call (Value.ref 394) _) _ _ _); refine Stop.of ?_) | with_reducible (k_here; (with_reducible show wpAny _ _ (PySem.call (Value.ref 373) _) _ _ _); refine Stop.of ?_) | with_reducible (k_here; (with_reducible show wpAny _ _ (PySem.call (Value.ref 387) _) _ _ _); k_dflt (refine' Sp.use (c_lplus ?q1 ?q2 ?q3 ?q4 ?q5 ?q6 ?q7) ?k1 ?k2 ?k3 ?k4 ?k5 ?k6 ?k7 ?k8 ?k9 ?_; walk_at "use"; (case q6 => k_dflt k_mem); (case q7 => k_dflt k_mem); (case q1 => assumption); (case q2 => assumption); (case q3 => assumption); (case q4 => assumption); (case q5 => assumption)); unfold RT2; intro D9ᵣ t1ᵣ t2ᵣ h9ᵣ tk9ᵣ F9ᵣ N9ᵣ l1ᵣ; (try k_lt l1ᵣ); (try dsimp only); (try k_sweep); (try k_fold)) | with_reducible (k_here; (with_reducible show wpAny _ _ (PySem.call (Value.ref 361) _) _ _ _); k_dflt (refine' Sp.use (c_takeU ?q1 ?q2 ?q3 ?q4 ?q5 ?q6) ?k1 ?k2 ?k3 ?k4 ?k5 ?k6 ?k7 ?k8 ?k9 ?_; walk_at "use"; (case q5 => k_updF); (case q6 => (intro o9ᵣ; k_updF)); (case q1 => with_reducible assumption); (case q2 => omega); (case q3 => first | omega | decide); (case q4 => assumption)); unfold RTakeU; intro r9ᵣ tr9ᵣ at9ᵣ ta9ᵣ vs9ᵣ ns9ᵣ zs9ᵣ zc9ᵣ h9ᵣ tk9ᵣ hr91ᵣ hr92ᵣ hst9ᵣ F9ᵣ N9ᵣ; (try dsimp only at N9ᵣ ⊢); (try k_sweep); (try k_fold)) | with_reducible (k_here; (with_reducible show wpAny _ _ (PySem.call (Value.ref 21) _) _ _ _); k_dflt (refine' Sp.use (c_inv ?q1 ?q2 ?q3 ?q4) ?k1 ?k2 ?k3 ?k4 ?k5 ?k6 ?k7 ?k8 ?k9 ?_; walk_at "use"; (case q1 => assumption); (case q2 => assumption); (case q3 => omega); (case q4 => omega)); unfold RInv; intro i9ᵣ t9ᵣ h9ᵣ tk9ᵣ hi1ᵣ hi2ᵣ hi3ᵣ F9ᵣ N9ᵣ; (try dsimp only); (try k_sweep); (try k_fold)) | with_reducible (k_here; (with_reducible show wpAny _ _ (PySem.call (Value.ref 71) _) _ _ _); k_dflt (refine' Sp.use (c_ed_a ?q1 ?q2 ?q3) ?k1 ?k2 ?k3 ?k4 ?k5 ?k6 ?k7 ?k8 ?k9 ?_; walk_at "use"; (case q2 => k_dflt k_mem); (case q3 => k_dflt k_mem); (case q1 => k_dflt (exact ⟨rfl, rfl, rfl⟩))); unfold RV; intro h9ᵣ tk9ᵣ F9ᵣ N9ᵣ; (try dsimp only); (try k_sweep); (try k_fold)) | with_reducible (k_here; (with_reducible show wpAny _ _ (PySem.call (Value.ref 64) _) _ _ _); k_dflt (refine' Sp.use (c_ed_p ?q1 ?q2 ?q3) ?k1 ?k2 ?k3 ?k4 ?k5 ?k6 ?k7 ?k8 ?k9 ?_; walk_at "use"; (case q2 => k_dflt k_mem); (case q3 => k_dflt k_mem); (case q1 => k_dflt (exact ⟨rfl, rfl, rfl⟩))); unfold RV; intro h9ᵣ tk9ᵣ F9ᵣ N9ᵣ; (try dsimp only); (try k_sweep); (try k_fold)) | with_reducible (k_here; (with_reducible show wpAny _ _ (call (Value.builtin "len") [Value.ref _]) _ _ _); k_dflt (refine' kst_len ?q1 ?q2 ?q3 ?q4 ?_; (case q1 => k_asm); (case q2 => k_mem); (case q3 => assumption); (case q4 => omega))) | with_reducible (k_here; (with_reducible show wpAny _ _ (exec (Stmt.For _ _ _ _ _) _) _ _ _); (rename Fr _ _ _ _ => lF'); (with_unfolding_all refine' For_invVF lF' ?k1 ?k2 ?_; (case k1 => exact rfl); (case k2 => exact rfl); k_whole)) | with_reducible (k_here; (with_reducible show wpAny _ _ (subscriptTail _ _ (Value.ref _) (Value.int _ _)) _ _ _); k_dflt (refine' item_tupleT ?t ?a ?b ?c ?d ?_; (case t => exact News.isTup (by k_asm) (by k_mem)); (case a => decide); (case b => decide); (case c => rfl); (case d => rfl); k_whole)) | with_reducible (k_here; (with_reducible show wpAny _ _ (PySem.pyIter (Value.ref _)) _ _ _); refine Stop.of ?_) | walk1 | (dsimp only; walk1) | fail "no step"))
    (rename (_ < _ ∧ _ < _ ∧ _ < _ ∧ _ < _ ∧ AllLt _ _) => l9)
    (rename News _ _ _ _ => N9)
    exact hret _ [_] 0 _ _ vs9 ns9 _ _ (_ :: led2) _ _ (.inl rfl) (Nat.le_refl 1) (Nat.le_of_ble_eq_true rfl) hst9 (by k_asm) (cb_drop N9 (List.forall_mem_cons.mpr ⟨by k_dflt k_mem, List.forall_mem_cons.mpr ⟨by k_dflt k_mem, List.forall_mem_cons.mpr ⟨.head _, fun p hp => by repeat (first | exact hp | apply List.mem_cons_of_mem)⟩⟩⟩))
      (List.forall_mem_cons.mpr ⟨Nat.ne_of_gt l9.2.1, hS2⟩) (List.forall_mem_cons.mpr ⟨Nat.ne_of_gt l9.2.2.1, hC2⟩) (fun p hp => .tail _ (hnews p hp)) (.head _))
end
-- Rf
section
section
open PySem.Sem (wp)
open PySem.Builtin
theorem int_mul_inst (a : Int) (t : Tok) (l : Addr) (C d : Addr) :
    Meets (Builtin.«int.__mul__» ⟨[.int a t, .ref l], []⟩) (fun _ R s => s.heap.get? l = some (instObj C d) ∧ R (.ok (.ret Value.notImplemented)) s) :=
  .of_wp fun prog w A R s h => by obtain ⟨hp, g, d, tk, os⟩ := s; obtain ⟨hl, h⟩ := h; wp_walk; exact ⟨_, rfl, h⟩
end
section
variable {prog : Program} {w : World} {A : Around} {E : Value → Shared → Prop} {s : Shared} {K : Frag} {x d C L f g : Addr} {h₀ : Heap} {m : Str → Option Value} {od : Option Obj}
/-- a number times an object of an own class: the class' own __rmul__ -/
theorem bin_refl {k : Int} {t : Tok} {Q : Value → Shared → Prop} (F : Fr h₀ L s.heap m) (X₀ : K.In h₀) (I : InstAt s.heap x (instObj C d) C od) (hc : selfFirst K C = true)
    (hs : findIn K (.ref C) (PySem.dunder "mul") = some (some (.ref g))) (hr : findIn K (.ref C) (dunderR "mul") = some (some (.ref f))) (hf : isFn K (.ref f) = true) (hsub : subIn K (.ref C) (.type "int") = some false)
    (h : wpAny (model prog w) A (call (.ref f) [.ref x, .int k t]) (W.CmpBack Q) E s) : wpAny (model prog w) A (binaryOp .Mult (.int k t) (.ref x)) Q E s := by
  have X := X₀.keeps F.keep
  obtain ⟨cd, rest, hcd, hm⟩ := ksp_first hc
  have one := ksp_try (b := .int k t) X I hr hf h
  have hx := I.1
  have tI := fun s' : Shared => typeIs_int s' k t
  obtain ⟨hh, gg, dd, tt, os⟩ := s
  have L1 : Looks (model prog w) hh (typeOf (.int k t)) (.type "int") := Looks.of_pure rfl
  have L2 : Looks (model prog w) hh (typeOf (.ref x)) (.ref C) := I.type
  have L3 : Looks (model prog w) hh (fillsNumberSlot (.type "int") "mul") true := Looks.of_pure PySem.F.fills_int_mul
  have L4 : Looks (model prog w) hh (fillsNumberSlot (.ref C) "mul") true := fills_K X hcd hm hs
  have L5 : Looks (model prog w) hh (isSubtype (.ref C) (.type "int")) false := looks_subIn X hsub
  have L6 : Looks (model prog w) hh (numberSlotInPython (.type "int") "mul") false := Looks.of_pure rfl
  have hne : (Value.type "int" == Value.ref C) = false := Bool.eq_false_iff.mpr fun q => by cases beq_iff_eq.mp q
  simp only [binaryOp, Operator.info]
  refine wpAny_holding (wpAny_bind ?_)
  unfold binaryOp1
  refine wpAny_bind (L1.at (wpAny_bind (L2.at (wpAny_bind (L3.at ?_)))))
  simp only [hne, Bool.false_eq_true, if_false]
  ksp_lk
  with_reducible refine wpAny_tryMethod_declines (T := "int") (id := "int.__mul__") (name := PySem.dunder "mul") (tI _) PySem.F.slot_int_mul ?_
  refine call_meets PySem.F.slot_int_mul (tI _) PySem.F.entry_int_mul (PySem.F.args_int_mul_2 _ _) (int_mul_inst k t x C d) ?_
  refine ⟨hx, rfl, ?_⟩
  dsimp only
  simp only [Bool.false_eq_true, if_false, Bool.not_false, Bool.and_self, if_true]
  ksp_lk
  refine wpAny_mono one (fun r s' hr' => ?_) fun _ _ e => e
  obtain ⟨v, rfl, hq⟩ := hr'
  ksp_lk
  exact hq
end
end
-- L05i
section
/-- the generator's table: full, or not yet made -/
def GFull (q : Nat) (a dv : Int) (P : Int × Int) (n : Nat) (led : List (Addr × Obj)) (l : Addr) : Prop :=
  ∃ (vs : List Value) (z : Nat), (l, W.listOf vs.toArray z) ∈ led ∧ TabAre5 q a dv P n led vs ∧ 1 ≤ vs.length ∧ vs.length ≤ 60 ∧ 2 * (n : Int) ≤ 2 ^ (vs.length - 1)
def GTab (q : Nat) (a dv : Int) (P : Int × Int) (n : Nat) (led : List (Addr × Obj)) (l : Addr) : Prop := (∃ z, (l, W.listOf #[] z) ∈ led) ∨ GFull q a dv P n led l
theorem GFull.mono {q : Nat} {a dv : Int} {P : Int × Int} {n : Nat} {led led' : List (Addr × Obj)} {l : Addr} (hs : ∀ p ∈ led, p ∈ led') (h : GFull q a dv P n led l) : GFull q a dv P n led' l := by
  obtain ⟨vs, z, hm, ht, h⟩ := h
  exact ⟨vs, z, hs _ hm, ht.mono hs, h⟩
theorem GTab.mono {q : Nat} {a dv : Int} {P : Int × Int} {n : Nat} {led led' : List (Addr × Obj)} {l : Addr} (hs : ∀ p ∈ led, p ∈ led') (h : GTab q a dv P n led l) : GTab q a dv P n led' l := by
  rcases h with ⟨z, h⟩ | h
  · exact .inl ⟨z, hs _ h⟩
  · exact .inr (h.mono hs)
theorem ne_empty {vs : List Value} (h : 1 ≤ vs.length) : vs.isEmpty = false := by
  cases vs with
  | nil => cases h
  | cons a r => rfl
variable {w : World} {mean : ExcName → Option Value} {mg mb : Str → Option Value}
theorem c_maybeG {news : List (Addr × Obj)} {x d cx cd k l : Addr} {s1 s2 s3 s4 s5 c1 c2 c3 c4 c5 u1 u2 u3 u4 tp ta td tn : Tok} {q n : Nat} {av dv Xv Yv Zv Tv : Int} {P : Int × Int} (hc : Ed.Cx q av dv P n) (hr : Ed.Rp q av dv P n 1 Xv Yv Zv Tv) (hX : 0 ≤ Xv ∧ Xv < q) (hY : 0 ≤ Yv ∧ Yv < q) (hZ : 0 ≤ Zv ∧ Zv < q) (hT : 0 ≤ Tv ∧ Tv < q) (hn9 : n ≤ 1000)
    (l0 : ∀ p ∈ news, p.1 ≠ d) (m0 : (x, instObj 343 d) ∈ news) (m2 : (k, tup4 Xv u1 Yv u2 Zv u3 Tv u4) ∈ news) (m3 : (cx, instObj 88 cd) ∈ news) (m4 : (cd, dictOf (edE w c1 c2 c3 c4 c5 (.int q tp) (.int av ta) (.int dv td) .none .none) 5) ∈ news) (m5 : GTab q av dv P n news l) :
    Sp PR w (hd.heap_39 w.params) topProg LO mean mg mb 6 100 (call (.ref 235) [.ref x]) ((d, dictOf (peE w s1 s2 s3 s4 s5 (.ref cx) (.ref k) (.int n tn) (.bool true) (.ref l)) 5) :: news) (fun _ => True) (RMaybe q av dv P n d cx k s1 s2 s3 s4 s5 (.int n tn) news w) := by
  rcases m5 with ⟨z, m5⟩ | ⟨vs, z, m5, ht, h1, h2, h3⟩
  · exact c_maybe1 hc hr hX hY hZ hT hn9 l0 m0 m2 m3 m4 m5
  · intro dp un gd cn cs a ccd cl outer A₀ base h₀ L M s Q E B F X N T hk hd hu hpre hret
    refine (c_maybeF (vs := vs) (ne_empty h1) (by omega) rfl (.tail _ m0) (.head _) (.tail _ m5)).use B F X N T hk (by omega) (by omega) hpre ?_
    intro h' tk' F' N'
    exact hret l vs z news h' tk' ht h1 h2 h3 m5 (fun _ h => h) l0 F' N'
def RMulG (q : Nat) (a dv : Int) (P : Int × Int) (n : Nat) (kv : Int) (x d cx k l : Addr) (s1 s2 s3 s4 s5 : Tok) (o : Value) (news : List (Addr × Obj)) (w : World) (h₀ : Heap) (L : Addr) (m : Str → Option Value) (s : Shared) (Q : Value → Shared → Prop) : Prop :=
  (kv % (n : Int) = 0 → ∀ l' led h' tk', GTab q a dv P n led l' → (∀ p ∈ news, p ∈ led) → (∀ p ∈ led, p.1 ≠ d) → Fr h₀ L h' m → News h₀ L h' ((d, dictOf (peE w s1 s2 s3 s4 s5 (.ref cx) (.ref k) o (.bool true) (.ref l')) 5) :: led) → Q (.ref 347) { s with heap := h', toks := tk' }) ∧
  (kv = 1 → ∀ h' tk', Fr h₀ L h' m → News h₀ L h' ((d, dictOf (peE w s1 s2 s3 s4 s5 (.ref cx) (.ref k) o (.bool true) (.ref l)) 5) :: news) → Q (.ref x) { s with heap := h', toks := tk' }) ∧
  (kv % (n : Int) ≠ 0 → kv ≠ 1 → ∀ X Y Z T, Ed.Rp q a dv P n kv X Y Z T → (0 ≤ X ∧ X < q) → (0 ≤ Y ∧ Y < q) → (0 ≤ Z ∧ Z < q) → (0 ≤ T ∧ T < q) → ∀ l' led, GTab q a dv P n led l' → (∀ p ∈ news, p ∈ led) → (∀ p ∈ led, p.1 ≠ d) →
    RPe (.ref cx) (X, Y, Z, T) o (.bool false) ((d, dictOf (peE w s1 s2 s3 s4 s5 (.ref cx) (.ref k) o (.bool true) (.ref l')) 5) :: led) w h₀ L m s Q)
theorem c_mulG {news : List (Addr × Obj)} {x d cx cd k l : Addr} {s1 s2 s3 s4 s5 c1 c2 c3 c4 c5 u1 u2 u3 u4 tp ta td tk tn : Tok} {q n : Nat} {av dv Xv Yv Zv Tv kv : Int} {P : Int × Int} (hc : Ed.Cx q av dv P n) (hr : Ed.Rp q av dv P n 1 Xv Yv Zv Tv) (hX : 0 ≤ Xv ∧ Xv < q) (hY : 0 ≤ Yv ∧ Yv < q) (hZ : 0 ≤ Zv ∧ Zv < q) (hT : 0 ≤ Tv ∧ Tv < q) (hn9 : n ≤ 1000)
    (l0 : ∀ p ∈ news, p.1 ≠ d) (m0 : (x, instObj 343 d) ∈ news) (m2 : (k, tup4 Xv u1 Yv u2 Zv u3 Tv u4) ∈ news) (m3 : (cx, instObj 88 cd) ∈ news) (m4 : (cd, dictOf (edE w c1 c2 c3 c4 c5 (.int q tp) (.int av ta) (.int dv td) .none .none) 5) ∈ news) (m5 : GTab q av dv P n news l) :
    SpC PR w (hd.heap_39 w.params) topProg LO mean mg mb 9 200 (.ref 340) [.ref x, .int kv tk] ((d, dictOf (peE w s1 s2 s3 s4 s5 (.ref cx) (.ref k) (.int n tn) (.bool true) (.ref l)) 5) :: news) (fun _ => True) (RMulG q av dv P n kv x d cx k l s1 s2 s3 s4 s5 (.int n tn) news w) := by
  have h1n : (1 : Int) % (n : Int) ≠ 0 := by rw [Int.emod_eq_of_lt (by omega) (by have := hc.big; omega)]; omega
  have hn := Ed.rp_ne hc hr h1n
  have hbig : (1 : Int) < n := by have := hc.big; omega
  have hn9' : (n : Int) ≤ 1000 := by omega
  have hfm := Ed.fm_bd (show (0 : Int) < n * 2 by omega) kv
  have hfk : (kv.fmod (n * 2)) % (n : Int) = kv % n := by
    rw [Int.fmod_eq_emod_of_nonneg _ (by omega)]
    exact Int.emod_emod_of_dvd _ ⟨2, rfl⟩
  have hn1 := hn.1
  have hn2 := hn.2
  (try unfold PR LO); k_fill; w_top off
  unfold SpC
  intro dp un gd cn cs a ccd cl outer A₀ base h₀ L M s Q E B F X N T hk hd hu hpre hret
  try dsimp only at hpre
  k_dflt cell_enter
  (repeat' (first | (k_unfold; (try dsimp only)) | ((with_reducible show wpAny _ _ (execs (List.cons _ _) _) _ _ (Shared.mk _ _ _ (HAdd.hAdd _ _) _)); (rename Fr _ _ _ _ => Fq); refine stm8 Fq ?_; clear Fq; intro tkq mq Fq; (try k_fold)) | with_reducible (k_here; (with_reducible show wpAny _ _ (PySem.truthy (Value.ref _)) _ _ _); k_dflt (refine' truthy_L true ?q1 ?q2 ?q3 ?q4 ?_; (case q1 => k_asm); (case q2 => k_mem); (case q3 => omega); (case q4 => (show _ = false); assumption))) | with_reducible (k_here; (with_reducible show wpAny _ _ (PySem.call (Value.ref 333) _) _ _ _); refine Stop.of ?_) | with_reducible (k_here; (with_reducible show wpAny _ _ (PySem.call (Value.ref 235) _) _ _ _); refine Stop.of ?_) | with_reducible (k_here; (with_reducible show wpAny _ _ (PySem.call (Value.ref 361) _) _ _ _); k_dflt (refine' Sp.use (c_takeU ?q1 ?q2 ?q3 ?q4 ?q5 ?q6) ?k1 ?k2 ?k3 ?k4 ?k5 ?k6 ?k7 ?k8 ?k9 ?_; walk_at "use"; (case q5 => k_updF); (case q6 => (intro o9ᵣ; k_updF)); (case q1 => with_reducible assumption); (case q2 => omega); (case q3 => first | omega | decide); (case q4 => assumption)); unfold RTakeU; intro r9ᵣ tr9ᵣ at9ᵣ ta9ᵣ vs9ᵣ ns9ᵣ zs9ᵣ zc9ᵣ h9ᵣ tk9ᵣ hr91ᵣ hr92ᵣ hst9ᵣ F9ᵣ N9ᵣ; (try dsimp only at N9ᵣ ⊢); (try k_sweep); (try k_fold)) | with_reducible (k_here; (with_reducible show wpAny _ _ (PySem.call (Value.ref 21) _) _ _ _); k_dflt (refine' Sp.use (c_inv ?q1 ?q2 ?q3 ?q4) ?k1 ?k2 ?k3 ?k4 ?k5 ?k6 ?k7 ?k8 ?k9 ?_; walk_at "use"; (case q1 => assumption); (case q2 => assumption); (case q3 => omega); (case q4 => omega)); unfold RInv; intro i9ᵣ t9ᵣ h9ᵣ tk9ᵣ hi1ᵣ hi2ᵣ hi3ᵣ F9ᵣ N9ᵣ; (try dsimp only); (try k_sweep); (try k_fold)) | with_reducible (k_here; (with_reducible show wpAny _ _ (PySem.call (Value.ref 71) _) _ _ _); k_dflt (refine' Sp.use (c_ed_a ?q1 ?q2 ?q3) ?k1 ?k2 ?k3 ?k4 ?k5 ?k6 ?k7 ?k8 ?k9 ?_; walk_at "use"; (case q2 => k_dflt k_mem); (case q3 => k_dflt k_mem); (case q1 => k_dflt (exact ⟨rfl, rfl, rfl⟩))); unfold RV; intro h9ᵣ tk9ᵣ F9ᵣ N9ᵣ; (try dsimp only); (try k_sweep); (try k_fold)) | with_reducible (k_here; (with_reducible show wpAny _ _ (PySem.call (Value.ref 64) _) _ _ _); k_dflt (refine' Sp.use (c_ed_p ?q1 ?q2 ?q3) ?k1 ?k2 ?k3 ?k4 ?k5 ?k6 ?k7 ?k8 ?k9 ?_; walk_at "use"; (case q2 => k_dflt k_mem); (case q3 => k_dflt k_mem); (case q1 => k_dflt (exact ⟨rfl, rfl, rfl⟩))); unfold RV; intro h9ᵣ tk9ᵣ F9ᵣ N9ᵣ; (try dsimp only); (try k_sweep); (try k_fold)) | with_reducible (k_here; (with_reducible show wpAny _ _ (call (Value.builtin "len") [Value.ref _]) _ _ _); k_dflt (refine' kst_len ?q1 ?q2 ?q3 ?q4 ?_; (case q1 => k_asm); (case q2 => k_mem); (case q3 => assumption); (case q4 => omega))) | with_reducible (k_here; (with_reducible show wpAny _ _ (exec (Stmt.For _ _ _ _ _) _) _ _ _); (rename Fr _ _ _ _ => lF'); (with_unfolding_all refine' For_invVF lF' ?k1 ?k2 ?_; (case k1 => exact rfl); (case k2 => exact rfl); k_whole)) | with_reducible (k_here; (with_reducible show wpAny _ _ (subscriptTail _ _ (Value.ref _) (Value.int _ _)) _ _ _); k_dflt (refine' item_tupleT ?t ?a ?b ?c ?d ?_; (case t => exact News.isTup (by k_asm) (by k_mem)); (case a => decide); (case b => decide); (case c => rfl); (case d => rfl); k_whole)) | with_reducible (k_here; (with_reducible show wpAny _ _ (PySem.pyIter (Value.ref _)) _ _ _); refine Stop.of ?_) | walk1 | (dsimp only; walk1) | fail "no step"))
  · unfold RMulG at hret
    exact hret.2.1 (by assumption) _ _ (by k_asm) (by k_asm)
  · refine Stop.to ?_
    k_dflt (refine' Sp.use (c_maybeG hc hr hX hY hZ hT hn9 l0 m0 m2 m3 m4 m5) ?k1 ?k2 ?k3 ?k4 ?k5 ?k6 ?k7 ?k8 ?k9 ?_; walk_at "use")
    unfold RMaybe
    intro l9 vs9 z9 led9 h9 tk9 ht9 hv91 hv92 hv93 hm9 hs9 hd9 F9 N9
    have he9 := ne_empty hv91
    have hm90 := hs9 _ m0
    have hm93 := hs9 _ m3
    have hm94 := hs9 _ m4
    try dsimp only
    (repeat' (first | (k_unfold; (try dsimp only)) | ((with_reducible show wpAny _ _ (execs (List.cons _ _) _) _ _ (Shared.mk _ _ _ (HAdd.hAdd _ _) _)); (rename Fr _ _ _ _ => Fq); refine stm8 Fq ?_; clear Fq; intro tkq mq Fq; (try k_fold)) | with_reducible (k_here; (with_reducible show wpAny _ _ (PySem.truthy (Value.ref _)) _ _ _); k_dflt (refine' truthy_L true ?q1 ?q2 ?q3 ?q4 ?_; (case q1 => k_asm); (case q2 => k_mem); (case q3 => omega); (case q4 => (show _ = false); assumption))) | with_reducible (k_here; (with_reducible show wpAny _ _ (PySem.call (Value.ref 333) _) _ _ _); refine Stop.of ?_) | with_reducible (k_here; (with_reducible show wpAny _ _ (PySem.call (Value.ref 235) _) _ _ _); refine Stop.of ?_) | with_reducible (k_here; (with_reducible show wpAny _ _ (PySem.call (Value.ref 361) _) _ _ _); k_dflt (refine' Sp.use (c_takeU ?q1 ?q2 ?q3 ?q4 ?q5 ?q6) ?k1 ?k2 ?k3 ?k4 ?k5 ?k6 ?k7 ?k8 ?k9 ?_; walk_at "use"; (case q5 => k_updF); (case q6 => (intro o9ᵣ; k_updF)); (case q1 => with_reducible assumption); (case q2 => omega); (case q3 => first | omega | decide); (case q4 => assumption)); unfold RTakeU; intro r9ᵣ tr9ᵣ at9ᵣ ta9ᵣ vs9ᵣ ns9ᵣ zs9ᵣ zc9ᵣ h9ᵣ tk9ᵣ hr91ᵣ hr92ᵣ hst9ᵣ F9ᵣ N9ᵣ; (try dsimp only at N9ᵣ ⊢); (try k_sweep); (try k_fold)) | with_reducible (k_here; (with_reducible show wpAny _ _ (PySem.call (Value.ref 21) _) _ _ _); k_dflt (refine' Sp.use (c_inv ?q1 ?q2 ?q3 ?q4) ?k1 ?k2 ?k3 ?k4 ?k5 ?k6 ?k7 ?k8 ?k9 ?_; walk_at "use"; (case q1 => assumption); (case q2 => assumption); (case q3 => omega); (case q4 => omega)); unfold RInv; intro i9ᵣ t9ᵣ h9ᵣ tk9ᵣ hi1ᵣ hi2ᵣ hi3ᵣ F9ᵣ N9ᵣ; (try dsimp only); (try k_sweep); (try k_fold)) | with_reducible (k_here; (with_reducible show wpAny _ _ (PySem.call (Value.ref 71) _) _ _ _); k_dflt (refine' Sp.use (c_ed_a ?q1 ?q2 ?q3) ?k1 ?k2 ?k3 ?k4 ?k5 ?k6 ?k7 ?k8 ?k9 ?_; walk_at "use"; (case q2 => k_dflt k_mem); (case q3 => k_dflt k_mem); (case q1 => k_dflt (exact ⟨rfl, rfl, rfl⟩))); unfold RV; intro h9ᵣ tk9ᵣ F9ᵣ N9ᵣ; (try dsimp only); (try k_sweep); (try k_fold)) | with_reducible (k_here; (with_reducible show wpAny _ _ (PySem.call (Value.ref 64) _) _ _ _); k_dflt (refine' Sp.use (c_ed_p ?q1 ?q2 ?q3) ?k1 ?k2 ?k3 ?k4 ?k5 ?k6 ?k7 ?k8 ?k9 ?_; walk_at "use"; (case q2 => k_dflt k_mem); (case q3 => k_dflt k_mem); (case q1 => k_dflt (exact ⟨rfl, rfl, rfl⟩))); unfold RV; intro h9ᵣ tk9ᵣ F9ᵣ N9ᵣ; (try dsimp only); (try k_sweep); (try k_fold)) | with_reducible (k_here; (with_reducible show wpAny _ _ (call (Value.builtin "len") [Value.ref _]) _ _ _); k_dflt (refine' kst_len ?q1 ?q2 ?q3 ?q4 ?_; (case q1 => k_asm); (case q2 => k_mem); (case q3 => assumption); (case q4 => omega))) | with_reducible (k_here; (with_reducible show wpAny _ _ (exec (Stmt.For _ _ _ _ _) _) _ _ _); (rename Fr _ _ _ _ => lF'); (with_unfolding_all refine' For_invVF lF' ?k1 ?k2 ?_; (case k1 => exact rfl); (case k2 => exact rfl); k_whole)) | with_reducible (k_here; (with_reducible show wpAny _ _ (subscriptTail _ _ (Value.ref _) (Value.int _ _)) _ _ _); k_dflt (refine' item_tupleT ?t ?a ?b ?c ?d ?_; (case t => exact News.isTup (by k_asm) (by k_mem)); (case a => decide); (case b => decide); (case c => rfl); (case d => rfl); k_whole)) | with_reducible (k_here; (with_reducible show wpAny _ _ (PySem.pyIter (Value.ref _)) _ _ _); refine Stop.of ?_) | walk1 | (dsimp only; walk1) | fail "no step"))
    refine Stop.to ?_
    k_dflt (refine' Sp.use (c_mulpre (vs := vs9) hc ⟨hfm.1, by omega⟩ ⟨hv91, hv92⟩ ?b1 ?b7 ?b2 ?b3 ?b4 ?b5 ?b6) ?k1 ?k2 ?k3 ?k4 ?k5 ?k6 ?k7 ?k8 ?k9 ?_; walk_at "use")
    (case b1 => exact Int.le_trans (by omega) hv93)
    (case b7 => exact ht9.mono fun p hp => .tail _ hp)
    (case b2 => exact .tail _ hm90)
    (case b3 => exact .head _)
    (case b4 => exact .tail _ hm93)
    (case b5 => exact .tail _ hm94)
    (case b6 => exact .tail _ hm9)
    unfold RMulP RV RPe
    have hg9 : GTab q av dv P n led9 l9 := .inr ⟨vs9, z9, hm9, ht9, hv91, hv92, hv93⟩
    refine ⟨?_, ?_⟩
    · intro hk0 h' tk' F' N'
      rw [hfk] at hk0
      try dsimp only
      (repeat' (first | (k_unfold; (try dsimp only)) | ((with_reducible show wpAny _ _ (execs (List.cons _ _) _) _ _ (Shared.mk _ _ _ (HAdd.hAdd _ _) _)); (rename Fr _ _ _ _ => Fq); refine stm8 Fq ?_; clear Fq; intro tkq mq Fq; (try k_fold)) | with_reducible (k_here; (with_reducible show wpAny _ _ (PySem.truthy (Value.ref _)) _ _ _); k_dflt (refine' truthy_L true ?q1 ?q2 ?q3 ?q4 ?_; (case q1 => k_asm); (case q2 => k_mem); (case q3 => omega); (case q4 => (show _ = false); assumption))) | with_reducible (k_here; (with_reducible show wpAny _ _ (PySem.call (Value.ref 333) _) _ _ _); refine Stop.of ?_) | with_reducible (k_here; (with_reducible show wpAny _ _ (PySem.call (Value.ref 235) _) _ _ _); refine Stop.of ?_) | with_reducible (k_here; (with_reducible show wpAny _ _ (PySem.call (Value.ref 361) _) _ _ _); k_dflt (refine' Sp.use (c_takeU ?q1 ?q2 ?q3 ?q4 ?q5 ?q6) ?k1 ?k2 ?k3 ?k4 ?k5 ?k6 ?k7 ?k8 ?k9 ?_; walk_at "use"; (case q5 => k_updF); (case q6 => (intro o9ᵣ; k_updF)); (case q1 => with_reducible assumption); (case q2 => omega); (case q3 => first | omega | decide); (case q4 => assumption)); unfold RTakeU; intro r9ᵣ tr9ᵣ at9ᵣ ta9ᵣ vs9ᵣ ns9ᵣ zs9ᵣ zc9ᵣ h9ᵣ tk9ᵣ hr91ᵣ hr92ᵣ hst9ᵣ F9ᵣ N9ᵣ; (try dsimp only at N9ᵣ ⊢); (try k_sweep); (try k_fold)) | with_reducible (k_here; (with_reducible show wpAny _ _ (PySem.call (Value.ref 21) _) _ _ _); k_dflt (refine' Sp.use (c_inv ?q1 ?q2 ?q3 ?q4) ?k1 ?k2 ?k3 ?k4 ?k5 ?k6 ?k7 ?k8 ?k9 ?_; walk_at "use"; (case q1 => assumption); (case q2 => assumption); (case q3 => omega); (case q4 => omega)); unfold RInv; intro i9ᵣ t9ᵣ h9ᵣ tk9ᵣ hi1ᵣ hi2ᵣ hi3ᵣ F9ᵣ N9ᵣ; (try dsimp only); (try k_sweep); (try k_fold)) | with_reducible (k_here; (with_reducible show wpAny _ _ (PySem.call (Value.ref 71) _) _ _ _); k_dflt (refine' Sp.use (c_ed_a ?q1 ?q2 ?q3) ?k1 ?k2 ?k3 ?k4 ?k5 ?k6 ?k7 ?k8 ?k9 ?_; walk_at "use"; (case q2 => k_dflt k_mem); (case q3 => k_dflt k_mem); (case q1 => k_dflt (exact ⟨rfl, rfl, rfl⟩))); unfold RV; intro h9ᵣ tk9ᵣ F9ᵣ N9ᵣ; (try dsimp only); (try k_sweep); (try k_fold)) | with_reducible (k_here; (with_reducible show wpAny _ _ (PySem.call (Value.ref 64) _) _ _ _); k_dflt (refine' Sp.use (c_ed_p ?q1 ?q2 ?q3) ?k1 ?k2 ?k3 ?k4 ?k5 ?k6 ?k7 ?k8 ?k9 ?_; walk_at "use"; (case q2 => k_dflt k_mem); (case q3 => k_dflt k_mem); (case q1 => k_dflt (exact ⟨rfl, rfl, rfl⟩))); unfold RV; intro h9ᵣ tk9ᵣ F9ᵣ N9ᵣ; (try dsimp only); (try k_sweep); (try k_fold)) | with_reducible (k_here; (with_reducible show wpAny _ _ (call (Value.builtin "len") [Value.ref _]) _ _ _); k_dflt (refine' kst_len ?q1 ?q2 ?q3 ?q4 ?_; (case q1 => k_asm); (case q2 => k_mem); (case q3 => assumption); (case q4 => omega))) | with_reducible (k_here; (with_reducible show wpAny _ _ (exec (Stmt.For _ _ _ _ _) _) _ _ _); (rename Fr _ _ _ _ => lF'); (with_unfolding_all refine' For_invVF lF' ?k1 ?k2 ?_; (case k1 => exact rfl); (case k2 => exact rfl); k_whole)) | with_reducible (k_here; (with_reducible show wpAny _ _ (subscriptTail _ _ (Value.ref _) (Value.int _ _)) _ _ _); k_dflt (refine' item_tupleT ?t ?a ?b ?c ?d ?_; (case t => exact News.isTup (by k_asm) (by k_mem)); (case a => decide); (case b => decide); (case c => rfl); (case d => rfl); k_whole)) | with_reducible (k_here; (with_reducible show wpAny _ _ (PySem.pyIter (Value.ref _)) _ _ _); refine Stop.of ?_) | walk1 | (dsimp only; walk1) | fail "no step"))
      unfold RMulG at hret
      exact hret.1 hk0 _ _ _ _ hg9 hs9 hd9 (by k_asm) (by k_asm)
    · intro hk0 X Y Z T hr' hX' hY' hZ' hT' z' d' l' k' e1 e2 e3 e4 e5 f1 f2 f3 f4 h' tk' F' N' hlt lt1 lt2 lt3
      rw [hfk] at hk0
      replace hr' := Ed.rp_mod hfk hr'
      try dsimp only
      (repeat' (first | (k_unfold; (try dsimp only)) | ((with_reducible show wpAny _ _ (execs (List.cons _ _) _) _ _ (Shared.mk _ _ _ (HAdd.hAdd _ _) _)); (rename Fr _ _ _ _ => Fq); refine stm8 Fq ?_; clear Fq; intro tkq mq Fq; (try k_fold)) | with_reducible (k_here; (with_reducible show wpAny _ _ (PySem.truthy (Value.ref _)) _ _ _); k_dflt (refine' truthy_L true ?q1 ?q2 ?q3 ?q4 ?_; (case q1 => k_asm); (case q2 => k_mem); (case q3 => omega); (case q4 => (show _ = false); assumption))) | with_reducible (k_here; (with_reducible show wpAny _ _ (PySem.call (Value.ref 333) _) _ _ _); refine Stop.of ?_) | with_reducible (k_here; (with_reducible show wpAny _ _ (PySem.call (Value.ref 235) _) _ _ _); refine Stop.of ?_) | with_reducible (k_here; (with_reducible show wpAny _ _ (PySem.call (Value.ref 361) _) _ _ _); k_dflt (refine' Sp.use (c_takeU ?q1 ?q2 ?q3 ?q4 ?q5 ?q6) ?k1 ?k2 ?k3 ?k4 ?k5 ?k6 ?k7 ?k8 ?k9 ?_; walk_at "use"; (case q5 => k_updF); (case q6 => (intro o9ᵣ; k_updF)); (case q1 => with_reducible assumption); (case q2 => omega); (case q3 => first | omega | decide); (case q4 => assumption)); unfold RTakeU; intro r9ᵣ tr9ᵣ at9ᵣ ta9ᵣ vs9ᵣ ns9ᵣ zs9ᵣ zc9ᵣ h9ᵣ tk9ᵣ hr91ᵣ hr92ᵣ hst9ᵣ F9ᵣ N9ᵣ; (try dsimp only at N9ᵣ ⊢); (try k_sweep); (try k_fold)) | with_reducible (k_here; (with_reducible show wpAny _ _ (PySem.call (Value.ref 21) _) _ _ _); k_dflt (refine' Sp.use (c_inv ?q1 ?q2 ?q3 ?q4) ?k1 ?k2 ?k3 ?k4 ?k5 ?k6 ?k7 ?k8 ?k9 ?_; walk_at "use"; (case q1 => assumption); (case q2 => assumption); (case q3 => omega); (case q4 => omega)); unfold RInv; intro i9ᵣ t9ᵣ h9ᵣ tk9ᵣ hi1ᵣ hi2ᵣ hi3ᵣ F9ᵣ N9ᵣ; (try dsimp only); (try k_sweep); (try k_fold)) | with_reducible (k_here; (with_reducible show wpAny _ _ (PySem.call (Value.ref 71) _) _ _ _); k_dflt (refine' Sp.use (c_ed_a ?q1 ?q2 ?q3) ?k1 ?k2 ?k3 ?k4 ?k5 ?k6 ?k7 ?k8 ?k9 ?_; walk_at "use"; (case q2 => k_dflt k_mem); (case q3 => k_dflt k_mem); (case q1 => k_dflt (exact ⟨rfl, rfl, rfl⟩))); unfold RV; intro h9ᵣ tk9ᵣ F9ᵣ N9ᵣ; (try dsimp only); (try k_sweep); (try k_fold)) | with_reducible (k_here; (with_reducible show wpAny _ _ (PySem.call (Value.ref 64) _) _ _ _); k_dflt (refine' Sp.use (c_ed_p ?q1 ?q2 ?q3) ?k1 ?k2 ?k3 ?k4 ?k5 ?k6 ?k7 ?k8 ?k9 ?_; walk_at "use"; (case q2 => k_dflt k_mem); (case q3 => k_dflt k_mem); (case q1 => k_dflt (exact ⟨rfl, rfl, rfl⟩))); unfold RV; intro h9ᵣ tk9ᵣ F9ᵣ N9ᵣ; (try dsimp only); (try k_sweep); (try k_fold)) | with_reducible (k_here; (with_reducible show wpAny _ _ (call (Value.builtin "len") [Value.ref _]) _ _ _); k_dflt (refine' kst_len ?q1 ?q2 ?q3 ?q4 ?_; (case q1 => k_asm); (case q2 => k_mem); (case q3 => assumption); (case q4 => omega))) | with_reducible (k_here; (with_reducible show wpAny _ _ (exec (Stmt.For _ _ _ _ _) _) _ _ _); (rename Fr _ _ _ _ => lF'); (with_unfolding_all refine' For_invVF lF' ?k1 ?k2 ?_; (case k1 => exact rfl); (case k2 => exact rfl); k_whole)) | with_reducible (k_here; (with_reducible show wpAny _ _ (subscriptTail _ _ (Value.ref _) (Value.int _ _)) _ _ _); k_dflt (refine' item_tupleT ?t ?a ?b ?c ?d ?_; (case t => exact News.isTup (by k_asm) (by k_mem)); (case a => decide); (case b => decide); (case c => rfl); (case d => rfl); k_whole)) | with_reducible (k_here; (with_reducible show wpAny _ _ (PySem.pyIter (Value.ref _)) _ _ _); refine Stop.of ?_) | walk1 | (dsimp only; walk1) | fail "no step"))
      unfold RMulG RPe at hret
      exact hret.2.2 hk0 (by assumption) X Y Z T hr' hX' hY' hZ' hT' _ _ hg9 hs9 hd9 _ _ _ _ _ _ _ _ _ _ _ _ _ _ _ (by k_asm) (by k_asm) hlt lt1 lt2 lt3
  · exfalso; omega
  · unfold RMulG at hret
    exact hret.1 (by rw [show kv = 0 by assumption]; exact Int.zero_emod _) _ _ _ _ m5 (fun _ h => h) l0 (by k_asm) (by k_asm)
  · exfalso; omega
  · exfalso; omega
end
-- L05j
section
variable {w : World} {mean : ExcName → Option Value} {mg mb : Str → Option Value}
theorem c_pe_eqI {news : List (Addr × Obj)} {x d k : Addr} {s1 s2 s3 s4 s5 u1 u2 u3 u4 : Tok} {c o g l : Value} {Xv Yv Zv Tv : Int} (hX : Xv ≠ 0) (hT : Tv ≠ 0)
    (m0 : (x, instObj 343 d) ∈ news) (m1 : (d, dictOf (peE w s1 s2 s3 s4 s5 c (.ref k) o g l) 5) ∈ news) (m2 : (k, tup4 Xv u1 Yv u2 Zv u3 Tv u4) ∈ news) (hh : handedIn c = true ∧ handedIn o = true ∧ handedIn g = true ∧ handedIn l = true) :
    Sp PR w (hd.heap_39 w.params) topProg LO mean mg mb 1 8 (call (.ref 277) [.ref x, .ref 347]) news (fun _ => True) (RBool false news) := by
  (try unfold PR LO); k_fill; w_top off
  unfold Sp
  intro dp un gd cn cs a ccd cl outer A₀ base h₀ L M s Q E B F X N T hk hd hu hpre hret
  try dsimp only at hpre
  refine wpAny_call ?_
  k_dflt cell_enter
  obtain ⟨hh1, hh2, hh3, hh4⟩ := hh
  have e : (!(Tv != 0)) = false := by simp [hT]
  (repeat' (first | (k_unfold; (try dsimp only)) | ((with_reducible show wpAny _ _ (execs (List.cons _ _) _) _ _ (Shared.mk _ _ _ (HAdd.hAdd _ _) _)); (rename Fr _ _ _ _ => Fq); refine stm8 Fq ?_; clear Fq; intro tkq mq Fq; (try k_fold)) | with_reducible (k_here; (with_reducible show wpAny _ _ (PySem.call (Value.ref 361) _) _ _ _); k_dflt (refine' Sp.use (c_takeU ?q1 ?q2 ?q3 ?q4 ?q5 ?q6) ?k1 ?k2 ?k3 ?k4 ?k5 ?k6 ?k7 ?k8 ?k9 ?_; walk_at "use"; (case q5 => k_updF); (case q6 => (intro o9ᵣ; k_updF)); (case q1 => with_reducible assumption); (case q2 => omega); (case q3 => first | omega | decide); (case q4 => assumption)); unfold RTakeU; intro r9ᵣ tr9ᵣ at9ᵣ ta9ᵣ vs9ᵣ ns9ᵣ zs9ᵣ zc9ᵣ h9ᵣ tk9ᵣ hr91ᵣ hr92ᵣ hst9ᵣ F9ᵣ N9ᵣ; (try dsimp only at N9ᵣ ⊢); (try k_sweep); (try k_fold)) | with_reducible (k_here; (with_reducible show wpAny _ _ (PySem.call (Value.ref 21) _) _ _ _); k_dflt (refine' Sp.use (c_inv ?q1 ?q2 ?q3 ?q4) ?k1 ?k2 ?k3 ?k4 ?k5 ?k6 ?k7 ?k8 ?k9 ?_; walk_at "use"; (case q1 => assumption); (case q2 => assumption); (case q3 => omega); (case q4 => omega)); unfold RInv; intro i9ᵣ t9ᵣ h9ᵣ tk9ᵣ hi1ᵣ hi2ᵣ hi3ᵣ F9ᵣ N9ᵣ; (try dsimp only); (try k_sweep); (try k_fold)) | with_reducible (k_here; (with_reducible show wpAny _ _ (PySem.call (Value.ref 71) _) _ _ _); k_dflt (refine' Sp.use (c_ed_a ?q1 ?q2 ?q3) ?k1 ?k2 ?k3 ?k4 ?k5 ?k6 ?k7 ?k8 ?k9 ?_; walk_at "use"; (case q2 => k_dflt k_mem); (case q3 => k_dflt k_mem); (case q1 => k_dflt (exact ⟨rfl, rfl, rfl⟩))); unfold RV; intro h9ᵣ tk9ᵣ F9ᵣ N9ᵣ; (try dsimp only); (try k_sweep); (try k_fold)) | with_reducible (k_here; (with_reducible show wpAny _ _ (PySem.call (Value.ref 64) _) _ _ _); k_dflt (refine' Sp.use (c_ed_p ?q1 ?q2 ?q3) ?k1 ?k2 ?k3 ?k4 ?k5 ?k6 ?k7 ?k8 ?k9 ?_; walk_at "use"; (case q2 => k_dflt k_mem); (case q3 => k_dflt k_mem); (case q1 => k_dflt (exact ⟨rfl, rfl, rfl⟩))); unfold RV; intro h9ᵣ tk9ᵣ F9ᵣ N9ᵣ; (try dsimp only); (try k_sweep); (try k_fold)) | with_reducible (k_here; (with_reducible show wpAny _ _ (call (Value.builtin "len") [Value.ref _]) _ _ _); k_dflt (refine' kst_len ?q1 ?q2 ?q3 ?q4 ?_; (case q1 => k_asm); (case q2 => k_mem); (case q3 => assumption); (case q4 => omega))) | with_reducible (k_here; (with_reducible show wpAny _ _ (exec (Stmt.For _ _ _ _ _) _) _ _ _); (rename Fr _ _ _ _ => lF'); (with_unfolding_all refine' For_invVF lF' ?k1 ?k2 ?_; (case k1 => exact rfl); (case k2 => exact rfl); k_whole)) | with_reducible (k_here; (with_reducible show wpAny _ _ (subscriptTail _ _ (Value.ref _) (Value.int _ _)) _ _ _); k_dflt (refine' item_tupleT ?t ?a ?b ?c ?d ?_; (case t => exact News.isTup (by k_asm) (by k_mem)); (case a => decide); (case b => decide); (case c => rfl); (case d => rfl); k_whole)) | with_reducible (k_here; (with_reducible show wpAny _ _ (PySem.pyIter (Value.ref _)) _ _ _); refine Stop.of ?_) | walk1 | (dsimp only; walk1) | fail "no step"))
  · rw [e]; exact hret _ _ (by k_asm) (by k_asm)
  · exfalso; exact hX (by assumption)
theorem c_inf_eqI {news : List (Addr × Obj)} :
    Sp PR w (hd.heap_39 w.params) topProg LO mean mg mb 1 8 (call (.ref 138) [.ref 347, .ref 347]) news (fun _ => True) (RBool true news) := by
  (try unfold PR LO); k_fill
  unfold Sp
  intro dp un gd cn cs a ccd cl outer A₀ base h₀ L M s Q E B F X N T hk hd hu hpre hret
  try dsimp only at hpre
  refine wpAny_call ?_
  k_dflt cell_enter
  (repeat' (first | (k_unfold; (try dsimp only)) | ((with_reducible show wpAny _ _ (execs (List.cons _ _) _) _ _ (Shared.mk _ _ _ (HAdd.hAdd _ _) _)); (rename Fr _ _ _ _ => Fq); refine stm8 Fq ?_; clear Fq; intro tkq mq Fq; (try k_fold)) | with_reducible (k_here; (with_reducible show wpAny _ _ (PySem.call (Value.ref 361) _) _ _ _); k_dflt (refine' Sp.use (c_takeU ?q1 ?q2 ?q3 ?q4 ?q5 ?q6) ?k1 ?k2 ?k3 ?k4 ?k5 ?k6 ?k7 ?k8 ?k9 ?_; walk_at "use"; (case q5 => k_updF); (case q6 => (intro o9ᵣ; k_updF)); (case q1 => with_reducible assumption); (case q2 => omega); (case q3 => first | omega | decide); (case q4 => assumption)); unfold RTakeU; intro r9ᵣ tr9ᵣ at9ᵣ ta9ᵣ vs9ᵣ ns9ᵣ zs9ᵣ zc9ᵣ h9ᵣ tk9ᵣ hr91ᵣ hr92ᵣ hst9ᵣ F9ᵣ N9ᵣ; (try dsimp only at N9ᵣ ⊢); (try k_sweep); (try k_fold)) | with_reducible (k_here; (with_reducible show wpAny _ _ (PySem.call (Value.ref 21) _) _ _ _); k_dflt (refine' Sp.use (c_inv ?q1 ?q2 ?q3 ?q4) ?k1 ?k2 ?k3 ?k4 ?k5 ?k6 ?k7 ?k8 ?k9 ?_; walk_at "use"; (case q1 => assumption); (case q2 => assumption); (case q3 => omega); (case q4 => omega)); unfold RInv; intro i9ᵣ t9ᵣ h9ᵣ tk9ᵣ hi1ᵣ hi2ᵣ hi3ᵣ F9ᵣ N9ᵣ; (try dsimp only); (try k_sweep); (try k_fold)) | with_reducible (k_here; (with_reducible show wpAny _ _ (PySem.call (Value.ref 71) _) _ _ _); k_dflt (refine' Sp.use (c_ed_a ?q1 ?q2 ?q3) ?k1 ?k2 ?k3 ?k4 ?k5 ?k6 ?k7 ?k8 ?k9 ?_; walk_at "use"; (case q2 => k_dflt k_mem); (case q3 => k_dflt k_mem); (case q1 => k_dflt (exact ⟨rfl, rfl, rfl⟩))); unfold RV; intro h9ᵣ tk9ᵣ F9ᵣ N9ᵣ; (try dsimp only); (try k_sweep); (try k_fold)) | with_reducible (k_here; (with_reducible show wpAny _ _ (PySem.call (Value.ref 64) _) _ _ _); k_dflt (refine' Sp.use (c_ed_p ?q1 ?q2 ?q3) ?k1 ?k2 ?k3 ?k4 ?k5 ?k6 ?k7 ?k8 ?k9 ?_; walk_at "use"; (case q2 => k_dflt k_mem); (case q3 => k_dflt k_mem); (case q1 => k_dflt (exact ⟨rfl, rfl, rfl⟩))); unfold RV; intro h9ᵣ tk9ᵣ F9ᵣ N9ᵣ; (try dsimp only); (try k_sweep); (try k_fold)) | with_reducible (k_here; (with_reducible show wpAny _ _ (call (Value.builtin "len") [Value.ref _]) _ _ _); k_dflt (refine' kst_len ?q1 ?q2 ?q3 ?q4 ?_; (case q1 => k_asm); (case q2 => k_mem); (case q3 => assumption); (case q4 => omega))) | with_reducible (k_here; (with_reducible show wpAny _ _ (exec (Stmt.For _ _ _ _ _) _) _ _ _); (rename Fr _ _ _ _ => lF'); (with_unfolding_all refine' For_invVF lF' ?k1 ?k2 ?_; (case k1 => exact rfl); (case k2 => exact rfl); k_whole)) | with_reducible (k_here; (with_reducible show wpAny _ _ (subscriptTail _ _ (Value.ref _) (Value.int _ _)) _ _ _); k_dflt (refine' item_tupleT ?t ?a ?b ?c ?d ?_; (case t => exact News.isTup (by k_asm) (by k_mem)); (case a => decide); (case b => decide); (case c => rfl); (case d => rfl); k_whole)) | with_reducible (k_here; (with_reducible show wpAny _ _ (PySem.pyIter (Value.ref _)) _ _ _); refine Stop.of ?_) | walk1 | (dsimp only; walk1) | fail "no step"))
  exact hret _ _ (by k_asm) (by k_asm)
theorem c_scale1 {news : List (Addr × Obj)} {x d k : Addr} {s1 s2 s3 s4 s5 u1 u2 u3 u4 : Tok} {c o g l : Value} {Xv Yv Tv : Int}
    (m0 : (x, instObj 343 d) ∈ news) (m1 : (d, dictOf (peE w s1 s2 s3 s4 s5 c (.ref k) o g l) 5) ∈ news) (m2 : (k, tup4 Xv u1 Yv u2 1 u3 Tv u4) ∈ news) (hh : handedIn c = true ∧ handedIn o = true ∧ handedIn g = true ∧ handedIn l = true) :
    Sp PR w (hd.heap_39 w.params) topProg LO mean mg mb 1 8 (call (.ref 270) [.ref x]) news (fun _ => True) (RV (.ref x) news) := by
  (try unfold PR LO); k_fill
  unfold Sp
  intro dp un gd cn cs a ccd cl outer A₀ base h₀ L M s Q E B F X N T hk hd hu hpre hret
  try dsimp only at hpre
  refine wpAny_call ?_
  k_dflt cell_enter
  obtain ⟨hh1, hh2, hh3, hh4⟩ := hh
  (repeat' (first | (k_unfold; (try dsimp only)) | ((with_reducible show wpAny _ _ (execs (List.cons _ _) _) _ _ (Shared.mk _ _ _ (HAdd.hAdd _ _) _)); (rename Fr _ _ _ _ => Fq); refine stm8 Fq ?_; clear Fq; intro tkq mq Fq; (try k_fold)) | with_reducible (k_here; (with_reducible show wpAny _ _ (PySem.call (Value.ref 361) _) _ _ _); k_dflt (refine' Sp.use (c_takeU ?q1 ?q2 ?q3 ?q4 ?q5 ?q6) ?k1 ?k2 ?k3 ?k4 ?k5 ?k6 ?k7 ?k8 ?k9 ?_; walk_at "use"; (case q5 => k_updF); (case q6 => (intro o9ᵣ; k_updF)); (case q1 => with_reducible assumption); (case q2 => omega); (case q3 => first | omega | decide); (case q4 => assumption)); unfold RTakeU; intro r9ᵣ tr9ᵣ at9ᵣ ta9ᵣ vs9ᵣ ns9ᵣ zs9ᵣ zc9ᵣ h9ᵣ tk9ᵣ hr91ᵣ hr92ᵣ hst9ᵣ F9ᵣ N9ᵣ; (try dsimp only at N9ᵣ ⊢); (try k_sweep); (try k_fold)) | with_reducible (k_here; (with_reducible show wpAny _ _ (PySem.call (Value.ref 21) _) _ _ _); k_dflt (refine' Sp.use (c_inv ?q1 ?q2 ?q3 ?q4) ?k1 ?k2 ?k3 ?k4 ?k5 ?k6 ?k7 ?k8 ?k9 ?_; walk_at "use"; (case q1 => assumption); (case q2 => assumption); (case q3 => omega); (case q4 => omega)); unfold RInv; intro i9ᵣ t9ᵣ h9ᵣ tk9ᵣ hi1ᵣ hi2ᵣ hi3ᵣ F9ᵣ N9ᵣ; (try dsimp only); (try k_sweep); (try k_fold)) | with_reducible (k_here; (with_reducible show wpAny _ _ (PySem.call (Value.ref 71) _) _ _ _); k_dflt (refine' Sp.use (c_ed_a ?q1 ?q2 ?q3) ?k1 ?k2 ?k3 ?k4 ?k5 ?k6 ?k7 ?k8 ?k9 ?_; walk_at "use"; (case q2 => k_dflt k_mem); (case q3 => k_dflt k_mem); (case q1 => k_dflt (exact ⟨rfl, rfl, rfl⟩))); unfold RV; intro h9ᵣ tk9ᵣ F9ᵣ N9ᵣ; (try dsimp only); (try k_sweep); (try k_fold)) | with_reducible (k_here; (with_reducible show wpAny _ _ (PySem.call (Value.ref 64) _) _ _ _); k_dflt (refine' Sp.use (c_ed_p ?q1 ?q2 ?q3) ?k1 ?k2 ?k3 ?k4 ?k5 ?k6 ?k7 ?k8 ?k9 ?_; walk_at "use"; (case q2 => k_dflt k_mem); (case q3 => k_dflt k_mem); (case q1 => k_dflt (exact ⟨rfl, rfl, rfl⟩))); unfold RV; intro h9ᵣ tk9ᵣ F9ᵣ N9ᵣ; (try dsimp only); (try k_sweep); (try k_fold)) | with_reducible (k_here; (with_reducible show wpAny _ _ (call (Value.builtin "len") [Value.ref _]) _ _ _); k_dflt (refine' kst_len ?q1 ?q2 ?q3 ?q4 ?_; (case q1 => k_asm); (case q2 => k_mem); (case q3 => assumption); (case q4 => omega))) | with_reducible (k_here; (with_reducible show wpAny _ _ (exec (Stmt.For _ _ _ _ _) _) _ _ _); (rename Fr _ _ _ _ => lF'); (with_unfolding_all refine' For_invVF lF' ?k1 ?k2 ?_; (case k1 => exact rfl); (case k2 => exact rfl); k_whole)) | with_reducible (k_here; (with_reducible show wpAny _ _ (subscriptTail _ _ (Value.ref _) (Value.int _ _)) _ _ _); k_dflt (refine' item_tupleT ?t ?a ?b ?c ?d ?_; (case t => exact News.isTup (by k_asm) (by k_mem)); (case a => decide); (case b => decide); (case c => rfl); (case d => rfl); k_whole)) | with_reducible (k_here; (with_reducible show wpAny _ _ (PySem.pyIter (Value.ref _)) _ _ _); refine Stop.of ?_) | walk1 | (dsimp only; walk1) | fail "no step"))
  exact hret _ _ (by k_asm) (by k_asm)
theorem eq_t2s {prog : Program} {w : World} {A : Around} {E : Value → Shared → Prop} {s : Shared} {h₀ : Heap} {L r1 r2 : Addr} {news : List (Addr × Obj)} {x y : Int} {t1 u1 t2 u2 : Tok} {Q : Value → Shared → Prop} (N : News h₀ L s.heap news) (h1 : (r1, tup2 x t1 y u1) ∈ news) (h2 : (r2, tup2 x t2 y u2) ∈ news) (hu : A.units + 64 < cLine)
    (h : Q (.bool true) s) : wpAny (model prog w) A (compareOp .Eq (.ref r1) (.ref r2)) Q E s := eq_t2 N h1 h2 hu (by rw [decide_eq_true rfl]; exact h)
theorem ne_t2s {prog : Program} {w : World} {A : Around} {E : Value → Shared → Prop} {s : Shared} {h₀ : Heap} {L r1 r2 : Addr} {news : List (Addr × Obj)} {x y : Int} {t1 u1 t2 u2 : Tok} {Q : Value → Shared → Prop} (N : News h₀ L s.heap news) (h1 : (r1, tup2 x t1 y u1) ∈ news) (h2 : (r2, tup2 x t2 y u2) ∈ news) (hu : A.units + 64 < cLine)
    (h : Q (.bool false) s) : wpAny (model prog w) A (compareOp .NotEq (.ref r1) (.ref r2)) Q E s := ne_t2 N h1 h2 hu (by rw [decide_eq_true rfl]; exact h)
theorem news_swap {h₀ h : Heap} {L : Addr} {a b : Addr × Obj} {led : List (Addr × Obj)} (N : News h₀ L h (a :: b :: led)) : News h₀ L h (b :: a :: led) := cb_drop N (List.forall_mem_cons.mpr ⟨.tail _ (.head _), List.forall_mem_cons.mpr ⟨.head _, fun _ hp => .tail _ (.tail _ hp)⟩⟩)
theorem c_told {news : List (Addr × Obj)} {x d cx cd k : Addr} {s1 s2 s3 s4 s5 c1 c2 c3 c4 c5 u1 u2 u3 u4 tp ta td tt : Tok} {o g l : Value} {q n : Nat} {av dv i Xv Yv Zv Tv : Int} {P : Int × Int} (hc : Ed.Cx q av dv P n) (hr : Ed.Rp q av dv P n i Xv Yv Zv Tv) (hX : 0 ≤ Xv ∧ Xv < q) (hY : 0 ≤ Yv ∧ Yv < q) (hZ : 0 ≤ Zv ∧ Zv < q) (hT : 0 ≤ Tv ∧ Tv < q) (hi : i % (n : Int) ≠ 0)
    (m0 : (x, instObj 343 d) ∈ news) (m1 : (d, dictOf (peE w s1 s2 s3 s4 s5 (.ref cx) (.ref k) o g l) 5) ∈ news) (m2 : (k, tup4 Xv u1 Yv u2 Zv u3 Tv u4) ∈ news) (m3 : (cx, instObj 88 cd) ∈ news) (m4 : (cd, dictOf (edE w c1 c2 c3 c4 c5 (.int q tp) (.int av ta) (.int dv td) .none .none) 5) ∈ news) (hh : handedIn o = true ∧ handedIn g = true ∧ handedIn l = true) :
    Sp PR w (hd.heap_39 w.params) topProg LO mean mg mb 5 60 (call (.ref 415) [.ref x, .int (q : Int) tt]) news (fun _ => True) (RT2 (Ed.zM q av dv P n i) news) := by
  have hq := hc.cv.pr
  obtain ⟨hb1, hb2⟩ := Ed.primes_int hq
  have hn := Ed.rp_ne hc hr hi
  have hn1 := hn.1
  have hn2 := hn.2
  have hz8 := Ed.zM_in hc i
  unfold Ed.InB at hz8
  have e1 : (Ed.zM q av dv P n i).1.fmod q = (Ed.zM q av dv P n i).1 := Ed.fm_id ⟨hz8.1, hz8.2.1⟩
  have e2 : (Ed.zM q av dv P n i).2.fmod q = (Ed.zM q av dv P n i).2 := Ed.fm_id ⟨hz8.2.2.1, hz8.2.2.2⟩
  (try unfold PR LO); k_fill
  unfold Sp
  intro dp un gd cn cs a ccd cl outer A₀ base h₀ L M s Q E B F X N T hk hd hu hpre hret
  try dsimp only at hpre
  refine wpAny_call ?_
  k_dflt cell_enter
  obtain ⟨hh1, hh2, hh3⟩ := hh
  (repeat' (first | (k_unfold; (try dsimp only)) | ((with_reducible show wpAny _ _ (execs (List.cons _ _) _) _ _ (Shared.mk _ _ _ (HAdd.hAdd _ _) _)); (rename Fr _ _ _ _ => Fq); refine stm8 Fq ?_; clear Fq; intro tkq mq Fq; (try k_fold)) | with_reducible (k_here; (with_reducible show wpAny _ _ (compareOp .NotEq (Value.ref _) (Value.ref _)) _ _ _); k_dflt (refine' ne_t2s ?q1 ?q2 ?q3 ?q4 ?_; (case q1 => k_asm); (case q2 => k_mem); (case q3 => k_mem); (case q4 => ktr_units))) | with_reducible (k_here; (with_reducible show wpAny _ _ (compareOp .Eq (Value.ref _) (Value.ref _)) _ _ _); k_dflt (refine' eq_t2s ?q1 ?q2 ?q3 ?q4 ?_; (case q1 => k_asm); (case q2 => k_mem); (case q3 => k_mem); (case q4 => ktr_units))) | with_reducible (k_here; (with_reducible show wpAny _ _ (compareOp .NotEq (Value.ref _) (Value.ref _)) _ _ _); k_dflt (refine' ne_t2 ?q1 ?q2 ?q3 ?q4 ?_; (case q1 => k_asm); (case q2 => k_mem); (case q3 => k_mem); (case q4 => ktr_units))) | with_reducible (k_here; (with_reducible show wpAny _ _ (compareOp .Eq (Value.ref _) (Value.ref _)) _ _ _); k_dflt (refine' eq_t2 ?q1 ?q2 ?q3 ?q4 ?_; (case q1 => k_asm); (case q2 => k_mem); (case q3 => k_mem); (case q4 => ktr_units))) | with_reducible (k_here; (with_reducible show wpAny _ _ (PySem.call (Value.ref 249) _) _ _ _); k_dflt (refine' Sp.use (c_pe_y ?q1 ?q2 ?q3 ?q4 ?q5 ?q6 ?m0 ?m1 ?m2 ?m3 ?m4 ?q7) ?k1 ?k2 ?k3 ?k4 ?k5 ?k6 ?k7 ?k8 ?k9 ?_; walk_at "use"; (case m0 => k_dflt k_mem); (case m1 => k_dflt k_mem); (case m2 => k_dflt k_mem); (case m3 => k_dflt k_mem); (case m4 => k_dflt k_mem); (case q1 => assumption); (case q2 => assumption); (case q3 => assumption); (case q4 => assumption); (case q5 => assumption); (case q6 => assumption); (case q7 => exact ⟨by assumption, by assumption, by assumption⟩)); unfold RInt; intro t9ᵣ h9ᵣ tk9ᵣ F9ᵣ N9ᵣ; (try dsimp only); (try k_sweep); (try k_fold)) | with_reducible (k_here; (with_reducible show wpAny _ _ (PySem.call (Value.ref 242) _) _ _ _); k_dflt (refine' Sp.use (c_pe_x ?q1 ?q2 ?q3 ?q4 ?q5 ?q6 ?m0 ?m1 ?m2 ?m3 ?m4 ?q7) ?k1 ?k2 ?k3 ?k4 ?k5 ?k6 ?k7 ?k8 ?k9 ?_; walk_at "use"; (case m0 => k_dflt k_mem); (case m1 => k_dflt k_mem); (case m2 => k_dflt k_mem); (case m3 => k_dflt k_mem); (case m4 => k_dflt k_mem); (case q1 => assumption); (case q2 => assumption); (case q3 => assumption); (case q4 => assumption); (case q5 => assumption); (case q6 => assumption); (case q7 => exact ⟨by assumption, by assumption, by assumption⟩)); unfold RInt; intro t9ᵣ h9ᵣ tk9ᵣ F9ᵣ N9ᵣ; (try dsimp only); (try k_sweep); (try k_fold)) | with_reducible (k_here; (with_reducible show wpAny _ _ (PySem.call (Value.ref 138) _) _ _ _); k_dflt (refine' Sp.use c_inf_eqI ?k1 ?k2 ?k3 ?k4 ?k5 ?k6 ?k7 ?k8 ?k9 ?_; walk_at "use"); unfold RBool; intro h9ᵣ tk9ᵣ F9ᵣ N9ᵣ; (try dsimp only [PySem.W.CmpBack]); (try dsimp only); (try k_sweep); (try k_fold)) | with_reducible (k_here; (with_reducible show wpAny _ _ (PySem.call (Value.ref 277) _) _ _ _); k_dflt (refine' Sp.use (c_pe_eqI ?q1 ?q2 ?m0 ?m1 ?m2 ?q3) ?k1 ?k2 ?k3 ?k4 ?k5 ?k6 ?k7 ?k8 ?k9 ?_; walk_at "use"; (case m0 => k_dflt k_mem); (case m1 => k_dflt k_mem); (case m2 => k_dflt k_mem); (case q1 => assumption); (case q2 => assumption); (case q3 => first | assumption | exact ⟨rfl, by assumption, by assumption, by assumption⟩)); unfold RBool; intro h9ᵣ tk9ᵣ F9ᵣ N9ᵣ; (try dsimp only [PySem.W.CmpBack]); (try dsimp only); (try k_sweep); (try k_fold)) | with_reducible (k_here; (with_reducible show wpAny _ _ (PySem.call (Value.ref 361) _) _ _ _); k_dflt (refine' Sp.use (c_takeU ?q1 ?q2 ?q3 ?q4 ?q5 ?q6) ?k1 ?k2 ?k3 ?k4 ?k5 ?k6 ?k7 ?k8 ?k9 ?_; walk_at "use"; (case q5 => k_updF); (case q6 => (intro o9ᵣ; k_updF)); (case q1 => with_reducible assumption); (case q2 => omega); (case q3 => first | omega | decide); (case q4 => assumption)); unfold RTakeU; intro r9ᵣ tr9ᵣ at9ᵣ ta9ᵣ vs9ᵣ ns9ᵣ zs9ᵣ zc9ᵣ h9ᵣ tk9ᵣ hr91ᵣ hr92ᵣ hst9ᵣ F9ᵣ N9ᵣ; (try dsimp only at N9ᵣ ⊢); (try k_sweep); (try k_fold)) | with_reducible (k_here; (with_reducible show wpAny _ _ (PySem.call (Value.ref 21) _) _ _ _); k_dflt (refine' Sp.use (c_inv ?q1 ?q2 ?q3 ?q4) ?k1 ?k2 ?k3 ?k4 ?k5 ?k6 ?k7 ?k8 ?k9 ?_; walk_at "use"; (case q1 => assumption); (case q2 => assumption); (case q3 => omega); (case q4 => omega)); unfold RInv; intro i9ᵣ t9ᵣ h9ᵣ tk9ᵣ hi1ᵣ hi2ᵣ hi3ᵣ F9ᵣ N9ᵣ; (try dsimp only); (try k_sweep); (try k_fold)) | with_reducible (k_here; (with_reducible show wpAny _ _ (PySem.call (Value.ref 71) _) _ _ _); k_dflt (refine' Sp.use (c_ed_a ?q1 ?q2 ?q3) ?k1 ?k2 ?k3 ?k4 ?k5 ?k6 ?k7 ?k8 ?k9 ?_; walk_at "use"; (case q2 => k_dflt k_mem); (case q3 => k_dflt k_mem); (case q1 => k_dflt (exact ⟨rfl, rfl, rfl⟩))); unfold RV; intro h9ᵣ tk9ᵣ F9ᵣ N9ᵣ; (try dsimp only); (try k_sweep); (try k_fold)) | with_reducible (k_here; (with_reducible show wpAny _ _ (PySem.call (Value.ref 64) _) _ _ _); k_dflt (refine' Sp.use (c_ed_p ?q1 ?q2 ?q3) ?k1 ?k2 ?k3 ?k4 ?k5 ?k6 ?k7 ?k8 ?k9 ?_; walk_at "use"; (case q2 => k_dflt k_mem); (case q3 => k_dflt k_mem); (case q1 => k_dflt (exact ⟨rfl, rfl, rfl⟩))); unfold RV; intro h9ᵣ tk9ᵣ F9ᵣ N9ᵣ; (try dsimp only); (try k_sweep); (try k_fold)) | with_reducible (k_here; (with_reducible show wpAny _ _ (call (Value.builtin "len") [Value.ref _]) _ _ _); k_dflt (refine' kst_len ?q1 ?q2 ?q3 ?q4 ?_; (case q1 => k_asm); (case q2 => k_mem); (case q3 => assumption); (case q4 => omega))) | with_reducible (k_here; (with_reducible show wpAny _ _ (exec (Stmt.For _ _ _ _ _) _) _ _ _); (rename Fr _ _ _ _ => lF'); (with_unfolding_all refine' For_invVF lF' ?k1 ?k2 ?_; (case k1 => exact rfl); (case k2 => exact rfl); k_whole)) | with_reducible (k_here; (with_reducible show wpAny _ _ (subscriptTail _ _ (Value.ref _) (Value.int _ _)) _ _ _); k_dflt (refine' item_tupleT ?t ?a ?b ?c ?d ?_; (case t => exact News.isTup (by k_asm) (by k_mem)); (case a => decide); (case b => decide); (case c => rfl); (case d => rfl); k_whole)) | with_reducible (k_here; (with_reducible show wpAny _ _ (PySem.pyIter (Value.ref _)) _ _ _); refine Stop.of ?_) | walk1 | (dsimp only; walk1) | fail "no step"))
  (rename (∀ (q : Addr × Obj), q ∈ news → q.1 < _) => l9)
  (rename News _ _ _ _ => N9)
  rw [e1, e2] at N9
  exact hret _ _ _ _ _ (by k_asm) N9 l9
def RSca (q : Nat) (a dd : Int) (P : Int × Int) (n : Nat) (i : Int) (b : Bool) (d cx : Addr) (s1 s3 s4 s5 : Tok) (o g l : Value) (news : List (Addr × Obj)) (w : World) (h₀ : Heap) (L : Addr) (m : Str → Option Value) (s : Shared) (Q : Value → Shared → Prop) : Prop :=
  ∀ k s2 u1 u2 u3 u4 led h' tk', Fr h₀ L h' m → News h₀ L h' ((d, dictOf (peE w s1 s2 s3 s4 s5 (.ref cx) (.ref k) o g l) 5) :: led) → (k, tup4 (Ed.zM q a dd P n i).1 u1 (Ed.zM q a dd P n i).2 u2 1 u3 (((Ed.zM q a dd P n i).1 * (Ed.zM q a dd P n i).2).fmod q) u4) ∈ led → (∀ p ∈ news, p ∈ led) → (∀ p ∈ led, p.1 ≠ d) → Q (.bool b) { s with heap := h', toks := tk' }
theorem c_lscaled {news : List (Addr × Obj)} {x d cx cd k r : Addr} {s1 s2 s3 s4 s5 c1 c2 c3 c4 c5 u1 u2 u3 u4 tp ta td tt r1 r2 : Tok} {o g l : Value} {q n : Nat} {av dv i Xv Yv Zv Tv : Int} {P : Int × Int} (hc : Ed.Cx q av dv P n) (hr : Ed.Rp q av dv P n i Xv Yv Zv Tv) (hX : 0 ≤ Xv ∧ Xv < q) (hY : 0 ≤ Yv ∧ Yv < q) (hZ : 0 ≤ Zv ∧ Zv < q) (hT : 0 ≤ Tv ∧ Tv < q) (hi : i % (n : Int) ≠ 0)
    (l0 : ∀ p ∈ news, p.1 ≠ d) (m0 : (x, instObj 343 d) ∈ news) (m2 : (k, tup4 Xv u1 Yv u2 Zv u3 Tv u4) ∈ news) (m3 : (cx, instObj 88 cd) ∈ news) (m4 : (cd, dictOf (edE w c1 c2 c3 c4 c5 (.int q tp) (.int av ta) (.int dv td) .none .none) 5) ∈ news) (hh : handedIn o = true ∧ handedIn g = true ∧ handedIn l = true) (m5 : (r, tup2 (Ed.zM q av dv P n i).1 r1 (Ed.zM q av dv P n i).2 r2) ∈ news) :
    Sp PR w (hd.heap_39 w.params) topProg LO mean mg mb 8 150 (call (.ref 429) [.ref x, .ref r, .int (q : Int) tt]) ((d, dictOf (peE w s1 s2 s3 s4 s5 (.ref cx) (.ref k) o g l) 5) :: news) (fun _ => True) (RSca q av dv P n i true d cx s1 s3 s4 s5 o g l news w) := by
  have hq := hc.cv.pr
  obtain ⟨hb1, hb2⟩ := Ed.primes_int hq
  have hn := Ed.rp_ne hc hr hi
  have hn1 := hn.1
  have hn2 := hn.2
  have hr9 := Ed.rp_scaled hc i
  have hn9 := Ed.rp_ne hc hr9 hi
  have hz8 := Ed.zM_in hc i
  unfold Ed.InB at hz8
  have hzX : 0 ≤ (Ed.zM q av dv P n i).1 ∧ (Ed.zM q av dv P n i).1 < q := ⟨hz8.1, hz8.2.1⟩
  have hzY : 0 ≤ (Ed.zM q av dv P n i).2 ∧ (Ed.zM q av dv P n i).2 < q := ⟨hz8.2.2.1, hz8.2.2.2⟩
  have hz1 : (0 : Int) ≤ 1 ∧ (1 : Int) < q := by omega
  have hf8 := Ed.fm_bd (show (0 : Int) < q by omega) ((Ed.zM q av dv P n i).1 * (Ed.zM q av dv P n i).2)
  obtain ⟨hh1, hh2, hh3⟩ := hh
  (try unfold PR LO); k_fill
  unfold Sp
  intro dp un gd cn cs a ccd cl outer A₀ base h₀ L M s Q E B F X N T hk hd hu hpre hret
  try dsimp only at hpre
  refine wpAny_call ?_
  k_dflt cell_enter
  (repeat' (first | (k_unfold; (try dsimp only)) | ((with_reducible show wpAny _ _ (execs (List.cons _ _) _) _ _ (Shared.mk _ _ _ (HAdd.hAdd _ _) _)); (rename Fr _ _ _ _ => Fq); refine stm8 Fq ?_; clear Fq; intro tkq mq Fq; (try k_fold)) | with_reducible (k_here; (with_reducible show wpAny _ _ (PySem.call (Value.ref 415) _) _ _ _); k_dflt (refine' Sp.use (c_told ?q1 ?q2 ?q3 ?q4 ?q5 ?q6 ?q8 ?m0 ?m1 ?m2 ?m3 ?m4 ?q7) ?k1 ?k2 ?k3 ?k4 ?k5 ?k6 ?k7 ?k8 ?k9 ?_; walk_at "use"; (case m0 => k_dflt k_mem); (case m1 => k_dflt k_mem); (case m2 => k_dflt k_mem); (case m3 => k_dflt k_mem); (case m4 => k_dflt k_mem); (case q1 => assumption); (case q2 => assumption); (case q3 => assumption); (case q4 => assumption); (case q5 => assumption); (case q6 => assumption); (case q8 => assumption); (case q7 => exact ⟨by assumption, by assumption, by assumption⟩)); unfold RT2; intro D9ᵣ t1ᵣ t2ᵣ h9ᵣ tk9ᵣ F9ᵣ N9ᵣ l1ᵣ; (try k_lt l1ᵣ); (try dsimp only); (try k_sweep); (try k_fold)) | with_reducible (k_here; (with_reducible show wpAny _ _ (PySem.call (Value.ref 270) _) _ _ _); refine Stop.of ?_) | with_reducible (k_here; (with_reducible show wpAny _ _ (compareOp .NotEq (Value.ref _) (Value.ref _)) _ _ _); k_dflt (refine' ne_t2s ?q1 ?q2 ?q3 ?q4 ?_; (case q1 => k_asm); (case q2 => k_mem); (case q3 => k_mem); (case q4 => ktr_units))) | with_reducible (k_here; (with_reducible show wpAny _ _ (compareOp .Eq (Value.ref _) (Value.ref _)) _ _ _); k_dflt (refine' eq_t2s ?q1 ?q2 ?q3 ?q4 ?_; (case q1 => k_asm); (case q2 => k_mem); (case q3 => k_mem); (case q4 => ktr_units))) | with_reducible (k_here; (with_reducible show wpAny _ _ (compareOp .NotEq (Value.ref _) (Value.ref _)) _ _ _); k_dflt (refine' ne_t2 ?q1 ?q2 ?q3 ?q4 ?_; (case q1 => k_asm); (case q2 => k_mem); (case q3 => k_mem); (case q4 => ktr_units))) | with_reducible (k_here; (with_reducible show wpAny _ _ (compareOp .Eq (Value.ref _) (Value.ref _)) _ _ _); k_dflt (refine' eq_t2 ?q1 ?q2 ?q3 ?q4 ?_; (case q1 => k_asm); (case q2 => k_mem); (case q3 => k_mem); (case q4 => ktr_units))) | with_reducible (k_here; (with_reducible show wpAny _ _ (PySem.call (Value.ref 249) _) _ _ _); k_dflt (refine' Sp.use (c_pe_y ?q1 ?q2 ?q3 ?q4 ?q5 ?q6 ?m0 ?m1 ?m2 ?m3 ?m4 ?q7) ?k1 ?k2 ?k3 ?k4 ?k5 ?k6 ?k7 ?k8 ?k9 ?_; walk_at "use"; (case m0 => k_dflt k_mem); (case m1 => k_dflt k_mem); (case m2 => k_dflt k_mem); (case m3 => k_dflt k_mem); (case m4 => k_dflt k_mem); (case q1 => assumption); (case q2 => assumption); (case q3 => assumption); (case q4 => assumption); (case q5 => assumption); (case q6 => assumption); (case q7 => exact ⟨by assumption, by assumption, by assumption⟩)); unfold RInt; intro t9ᵣ h9ᵣ tk9ᵣ F9ᵣ N9ᵣ; (try dsimp only); (try k_sweep); (try k_fold)) | with_reducible (k_here; (with_reducible show wpAny _ _ (PySem.call (Value.ref 242) _) _ _ _); k_dflt (refine' Sp.use (c_pe_x ?q1 ?q2 ?q3 ?q4 ?q5 ?q6 ?m0 ?m1 ?m2 ?m3 ?m4 ?q7) ?k1 ?k2 ?k3 ?k4 ?k5 ?k6 ?k7 ?k8 ?k9 ?_; walk_at "use"; (case m0 => k_dflt k_mem); (case m1 => k_dflt k_mem); (case m2 => k_dflt k_mem); (case m3 => k_dflt k_mem); (case m4 => k_dflt k_mem); (case q1 => assumption); (case q2 => assumption); (case q3 => assumption); (case q4 => assumption); (case q5 => assumption); (case q6 => assumption); (case q7 => exact ⟨by assumption, by assumption, by assumption⟩)); unfold RInt; intro t9ᵣ h9ᵣ tk9ᵣ F9ᵣ N9ᵣ; (try dsimp only); (try k_sweep); (try k_fold)) | with_reducible (k_here; (with_reducible show wpAny _ _ (PySem.call (Value.ref 138) _) _ _ _); k_dflt (refine' Sp.use c_inf_eqI ?k1 ?k2 ?k3 ?k4 ?k5 ?k6 ?k7 ?k8 ?k9 ?_; walk_at "use"); unfold RBool; intro h9ᵣ tk9ᵣ F9ᵣ N9ᵣ; (try dsimp only [PySem.W.CmpBack]); (try dsimp only); (try k_sweep); (try k_fold)) | with_reducible (k_here; (with_reducible show wpAny _ _ (PySem.call (Value.ref 277) _) _ _ _); k_dflt (refine' Sp.use (c_pe_eqI ?q1 ?q2 ?m0 ?m1 ?m2 ?q3) ?k1 ?k2 ?k3 ?k4 ?k5 ?k6 ?k7 ?k8 ?k9 ?_; walk_at "use"; (case m0 => k_dflt k_mem); (case m1 => k_dflt k_mem); (case m2 => k_dflt k_mem); (case q1 => assumption); (case q2 => assumption); (case q3 => first | assumption | exact ⟨rfl, by assumption, by assumption, by assumption⟩)); unfold RBool; intro h9ᵣ tk9ᵣ F9ᵣ N9ᵣ; (try dsimp only [PySem.W.CmpBack]); (try dsimp only); (try k_sweep); (try k_fold)) | with_reducible (k_here; (with_reducible show wpAny _ _ (PySem.call (Value.ref 361) _) _ _ _); k_dflt (refine' Sp.use (c_takeU ?q1 ?q2 ?q3 ?q4 ?q5 ?q6) ?k1 ?k2 ?k3 ?k4 ?k5 ?k6 ?k7 ?k8 ?k9 ?_; walk_at "use"; (case q5 => k_updF); (case q6 => (intro o9ᵣ; k_updF)); (case q1 => with_reducible assumption); (case q2 => omega); (case q3 => first | omega | decide); (case q4 => assumption)); unfold RTakeU; intro r9ᵣ tr9ᵣ at9ᵣ ta9ᵣ vs9ᵣ ns9ᵣ zs9ᵣ zc9ᵣ h9ᵣ tk9ᵣ hr91ᵣ hr92ᵣ hst9ᵣ F9ᵣ N9ᵣ; (try dsimp only at N9ᵣ ⊢); (try k_sweep); (try k_fold)) | with_reducible (k_here; (with_reducible show wpAny _ _ (PySem.call (Value.ref 21) _) _ _ _); k_dflt (refine' Sp.use (c_inv ?q1 ?q2 ?q3 ?q4) ?k1 ?k2 ?k3 ?k4 ?k5 ?k6 ?k7 ?k8 ?k9 ?_; walk_at "use"; (case q1 => assumption); (case q2 => assumption); (case q3 => omega); (case q4 => omega)); unfold RInv; intro i9ᵣ t9ᵣ h9ᵣ tk9ᵣ hi1ᵣ hi2ᵣ hi3ᵣ F9ᵣ N9ᵣ; (try dsimp only); (try k_sweep); (try k_fold)) | with_reducible (k_here; (with_reducible show wpAny _ _ (PySem.call (Value.ref 71) _) _ _ _); k_dflt (refine' Sp.use (c_ed_a ?q1 ?q2 ?q3) ?k1 ?k2 ?k3 ?k4 ?k5 ?k6 ?k7 ?k8 ?k9 ?_; walk_at "use"; (case q2 => k_dflt k_mem); (case q3 => k_dflt k_mem); (case q1 => k_dflt (exact ⟨rfl, rfl, rfl⟩))); unfold RV; intro h9ᵣ tk9ᵣ F9ᵣ N9ᵣ; (try dsimp only); (try k_sweep); (try k_fold)) | with_reducible (k_here; (with_reducible show wpAny _ _ (PySem.call (Value.ref 64) _) _ _ _); k_dflt (refine' Sp.use (c_ed_p ?q1 ?q2 ?q3) ?k1 ?k2 ?k3 ?k4 ?k5 ?k6 ?k7 ?k8 ?k9 ?_; walk_at "use"; (case q2 => k_dflt k_mem); (case q3 => k_dflt k_mem); (case q1 => k_dflt (exact ⟨rfl, rfl, rfl⟩))); unfold RV; intro h9ᵣ tk9ᵣ F9ᵣ N9ᵣ; (try dsimp only); (try k_sweep); (try k_fold)) | with_reducible (k_here; (with_reducible show wpAny _ _ (call (Value.builtin "len") [Value.ref _]) _ _ _); k_dflt (refine' kst_len ?q1 ?q2 ?q3 ?q4 ?_; (case q1 => k_asm); (case q2 => k_mem); (case q3 => assumption); (case q4 => omega))) | with_reducible (k_here; (with_reducible show wpAny _ _ (exec (Stmt.For _ _ _ _ _) _) _ _ _); (rename Fr _ _ _ _ => lF'); (with_unfolding_all refine' For_invVF lF' ?k1 ?k2 ?_; (case k1 => exact rfl); (case k2 => exact rfl); k_whole)) | with_reducible (k_here; (with_reducible show wpAny _ _ (subscriptTail _ _ (Value.ref _) (Value.int _ _)) _ _ _); k_dflt (refine' item_tupleT ?t ?a ?b ?c ?d ?_; (case t => exact News.isTup (by k_asm) (by k_mem)); (case a => decide); (case b => decide); (case c => rfl); (case d => rfl); k_whole)) | with_reducible (k_here; (with_reducible show wpAny _ _ (PySem.pyIter (Value.ref _)) _ _ _); refine Stop.of ?_) | walk1 | (dsimp only; walk1) | fail "no step"))
  refine Stop.to ?_
  (rename News _ _ _ _ => N9)
  (rename (d < _ ∧ AllLt _ news) => l9)
  replace N9 := news_swap N9
  k_dflt (refine' Sp.use (c_scale hc hr hX hY hZ hT ?b0 ?b1 ?b2 ?b3 ?b4 ?b5) ?k1 ?k2 ?k3 ?k4 ?k5 ?k6 ?k7 ?k8 ?k9 ?_; walk_at "use")
  (case b5 => exact ⟨hh1, hh2, hh3⟩)
  (case b0 => exact List.forall_mem_cons.mpr ⟨Nat.ne_of_gt l9.1, l0⟩)
  (case b1 => exact .tail _ m0)
  (case b2 => exact .tail _ m2)
  (case b3 => exact .tail _ m3)
  (case b4 => exact .tail _ m4)
  unfold RScale
  intro k7 g7 v7 v8 v9 v10 led7 h7 tk7 F7 N7 hk7 hs7 hd7
  have hs8 : ∀ p ∈ news, p ∈ led7 := fun p hp => hs7 p (.tail _ hp)
  have m07 := hs8 _ m0
  have m37 := hs8 _ m3
  have m47 := hs8 _ m4
  have m57 := hs8 _ m5
  clear hr hX hY hZ hT hn1 hn2 l0 m0 m2 m3 m4 m5 hs7
  have hn1 := hn9.1
  have hn2 := hn9.2
  try dsimp only
  (repeat' (first | (k_unfold; (try dsimp only)) | ((with_reducible show wpAny _ _ (execs (List.cons _ _) _) _ _ (Shared.mk _ _ _ (HAdd.hAdd _ _) _)); (rename Fr _ _ _ _ => Fq); refine stm8 Fq ?_; clear Fq; intro tkq mq Fq; (try k_fold)) | with_reducible (k_here; (with_reducible show wpAny _ _ (PySem.call (Value.ref 415) _) _ _ _); k_dflt (refine' Sp.use (c_told ?q1 ?q2 ?q3 ?q4 ?q5 ?q6 ?q8 ?m0 ?m1 ?m2 ?m3 ?m4 ?q7) ?k1 ?k2 ?k3 ?k4 ?k5 ?k6 ?k7 ?k8 ?k9 ?_; walk_at "use"; (case m0 => k_dflt k_mem); (case m1 => k_dflt k_mem); (case m2 => k_dflt k_mem); (case m3 => k_dflt k_mem); (case m4 => k_dflt k_mem); (case q1 => assumption); (case q2 => assumption); (case q3 => assumption); (case q4 => assumption); (case q5 => assumption); (case q6 => assumption); (case q8 => assumption); (case q7 => exact ⟨by assumption, by assumption, by assumption⟩)); unfold RT2; intro D9ᵣ t1ᵣ t2ᵣ h9ᵣ tk9ᵣ F9ᵣ N9ᵣ l1ᵣ; (try k_lt l1ᵣ); (try dsimp only); (try k_sweep); (try k_fold)) | with_reducible (k_here; (with_reducible show wpAny _ _ (PySem.call (Value.ref 270) _) _ _ _); refine Stop.of ?_) | with_reducible (k_here; (with_reducible show wpAny _ _ (compareOp .NotEq (Value.ref _) (Value.ref _)) _ _ _); k_dflt (refine' ne_t2s ?q1 ?q2 ?q3 ?q4 ?_; (case q1 => k_asm); (case q2 => k_mem); (case q3 => k_mem); (case q4 => ktr_units))) | with_reducible (k_here; (with_reducible show wpAny _ _ (compareOp .Eq (Value.ref _) (Value.ref _)) _ _ _); k_dflt (refine' eq_t2s ?q1 ?q2 ?q3 ?q4 ?_; (case q1 => k_asm); (case q2 => k_mem); (case q3 => k_mem); (case q4 => ktr_units))) | with_reducible (k_here; (with_reducible show wpAny _ _ (compareOp .NotEq (Value.ref _) (Value.ref _)) _ _ _); k_dflt (refine' ne_t2 ?q1 ?q2 ?q3 ?q4 ?_; (case q1 => k_asm); (case q2 => k_mem); (case q3 => k_mem); (case q4 => ktr_units))) | with_reducible (k_here; (with_reducible show wpAny _ _ (compareOp .Eq (Value.ref _) (Value.ref _)) _ _ _); k_dflt (refine' eq_t2 ?q1 ?q2 ?q3 ?q4 ?_; (case q1 => k_asm); (case q2 => k_mem); (case q3 => k_mem); (case q4 => ktr_units))) | with_reducible (k_here; (with_reducible show wpAny _ _ (PySem.call (Value.ref 249) _) _ _ _); k_dflt (refine' Sp.use (c_pe_y ?q1 ?q2 ?q3 ?q4 ?q5 ?q6 ?m0 ?m1 ?m2 ?m3 ?m4 ?q7) ?k1 ?k2 ?k3 ?k4 ?k5 ?k6 ?k7 ?k8 ?k9 ?_; walk_at "use"; (case m0 => k_dflt k_mem); (case m1 => k_dflt k_mem); (case m2 => k_dflt k_mem); (case m3 => k_dflt k_mem); (case m4 => k_dflt k_mem); (case q1 => assumption); (case q2 => assumption); (case q3 => assumption); (case q4 => assumption); (case q5 => assumption); (case q6 => assumption); (case q7 => exact ⟨by assumption, by assumption, by assumption⟩)); unfold RInt; intro t9ᵣ h9ᵣ tk9ᵣ F9ᵣ N9ᵣ; (try dsimp only); (try k_sweep); (try k_fold)) | with_reducible (k_here; (with_reducible show wpAny _ _ (PySem.call (Value.ref 242) _) _ _ _); k_dflt (refine' Sp.use (c_pe_x ?q1 ?q2 ?q3 ?q4 ?q5 ?q6 ?m0 ?m1 ?m2 ?m3 ?m4 ?q7) ?k1 ?k2 ?k3 ?k4 ?k5 ?k6 ?k7 ?k8 ?k9 ?_; walk_at "use"; (case m0 => k_dflt k_mem); (case m1 => k_dflt k_mem); (case m2 => k_dflt k_mem); (case m3 => k_dflt k_mem); (case m4 => k_dflt k_mem); (case q1 => assumption); (case q2 => assumption); (case q3 => assumption); (case q4 => assumption); (case q5 => assumption); (case q6 => assumption); (case q7 => exact ⟨by assumption, by assumption, by assumption⟩)); unfold RInt; intro t9ᵣ h9ᵣ tk9ᵣ F9ᵣ N9ᵣ; (try dsimp only); (try k_sweep); (try k_fold)) | with_reducible (k_here; (with_reducible show wpAny _ _ (PySem.call (Value.ref 138) _) _ _ _); k_dflt (refine' Sp.use c_inf_eqI ?k1 ?k2 ?k3 ?k4 ?k5 ?k6 ?k7 ?k8 ?k9 ?_; walk_at "use"); unfold RBool; intro h9ᵣ tk9ᵣ F9ᵣ N9ᵣ; (try dsimp only [PySem.W.CmpBack]); (try dsimp only); (try k_sweep); (try k_fold)) | with_reducible (k_here; (with_reducible show wpAny _ _ (PySem.call (Value.ref 277) _) _ _ _); k_dflt (refine' Sp.use (c_pe_eqI ?q1 ?q2 ?m0 ?m1 ?m2 ?q3) ?k1 ?k2 ?k3 ?k4 ?k5 ?k6 ?k7 ?k8 ?k9 ?_; walk_at "use"; (case m0 => k_dflt k_mem); (case m1 => k_dflt k_mem); (case m2 => k_dflt k_mem); (case q1 => assumption); (case q2 => assumption); (case q3 => first | assumption | exact ⟨rfl, by assumption, by assumption, by assumption⟩)); unfold RBool; intro h9ᵣ tk9ᵣ F9ᵣ N9ᵣ; (try dsimp only [PySem.W.CmpBack]); (try dsimp only); (try k_sweep); (try k_fold)) | with_reducible (k_here; (with_reducible show wpAny _ _ (PySem.call (Value.ref 361) _) _ _ _); k_dflt (refine' Sp.use (c_takeU ?q1 ?q2 ?q3 ?q4 ?q5 ?q6) ?k1 ?k2 ?k3 ?k4 ?k5 ?k6 ?k7 ?k8 ?k9 ?_; walk_at "use"; (case q5 => k_updF); (case q6 => (intro o9ᵣ; k_updF)); (case q1 => with_reducible assumption); (case q2 => omega); (case q3 => first | omega | decide); (case q4 => assumption)); unfold RTakeU; intro r9ᵣ tr9ᵣ at9ᵣ ta9ᵣ vs9ᵣ ns9ᵣ zs9ᵣ zc9ᵣ h9ᵣ tk9ᵣ hr91ᵣ hr92ᵣ hst9ᵣ F9ᵣ N9ᵣ; (try dsimp only at N9ᵣ ⊢); (try k_sweep); (try k_fold)) | with_reducible (k_here; (with_reducible show wpAny _ _ (PySem.call (Value.ref 21) _) _ _ _); k_dflt (refine' Sp.use (c_inv ?q1 ?q2 ?q3 ?q4) ?k1 ?k2 ?k3 ?k4 ?k5 ?k6 ?k7 ?k8 ?k9 ?_; walk_at "use"; (case q1 => assumption); (case q2 => assumption); (case q3 => omega); (case q4 => omega)); unfold RInv; intro i9ᵣ t9ᵣ h9ᵣ tk9ᵣ hi1ᵣ hi2ᵣ hi3ᵣ F9ᵣ N9ᵣ; (try dsimp only); (try k_sweep); (try k_fold)) | with_reducible (k_here; (with_reducible show wpAny _ _ (PySem.call (Value.ref 71) _) _ _ _); k_dflt (refine' Sp.use (c_ed_a ?q1 ?q2 ?q3) ?k1 ?k2 ?k3 ?k4 ?k5 ?k6 ?k7 ?k8 ?k9 ?_; walk_at "use"; (case q2 => k_dflt k_mem); (case q3 => k_dflt k_mem); (case q1 => k_dflt (exact ⟨rfl, rfl, rfl⟩))); unfold RV; intro h9ᵣ tk9ᵣ F9ᵣ N9ᵣ; (try dsimp only); (try k_sweep); (try k_fold)) | with_reducible (k_here; (with_reducible show wpAny _ _ (PySem.call (Value.ref 64) _) _ _ _); k_dflt (refine' Sp.use (c_ed_p ?q1 ?q2 ?q3) ?k1 ?k2 ?k3 ?k4 ?k5 ?k6 ?k7 ?k8 ?k9 ?_; walk_at "use"; (case q2 => k_dflt k_mem); (case q3 => k_dflt k_mem); (case q1 => k_dflt (exact ⟨rfl, rfl, rfl⟩))); unfold RV; intro h9ᵣ tk9ᵣ F9ᵣ N9ᵣ; (try dsimp only); (try k_sweep); (try k_fold)) | with_reducible (k_here; (with_reducible show wpAny _ _ (call (Value.builtin "len") [Value.ref _]) _ _ _); k_dflt (refine' kst_len ?q1 ?q2 ?q3 ?q4 ?_; (case q1 => k_asm); (case q2 => k_mem); (case q3 => assumption); (case q4 => omega))) | with_reducible (k_here; (with_reducible show wpAny _ _ (exec (Stmt.For _ _ _ _ _) _) _ _ _); (rename Fr _ _ _ _ => lF'); (with_unfolding_all refine' For_invVF lF' ?k1 ?k2 ?_; (case k1 => exact rfl); (case k2 => exact rfl); k_whole)) | with_reducible (k_here; (with_reducible show wpAny _ _ (subscriptTail _ _ (Value.ref _) (Value.int _ _)) _ _ _); k_dflt (refine' item_tupleT ?t ?a ?b ?c ?d ?_; (case t => exact News.isTup (by k_asm) (by k_mem)); (case a => decide); (case b => decide); (case c => rfl); (case d => rfl); k_whole)) | with_reducible (k_here; (with_reducible show wpAny _ _ (PySem.pyIter (Value.ref _)) _ _ _); refine Stop.of ?_) | walk1 | (dsimp only; walk1) | fail "no step"))
  refine Stop.to ?_
  k_dflt (refine' Sp.use (c_scale1 ?b1 ?b2 ?b3 ?b5) ?k1 ?k2 ?k3 ?k4 ?k5 ?k6 ?k7 ?k8 ?k9 ?_; walk_at "use")
  (case b1 => exact .tail _ (.tail _ m07))
  (case b2 => exact .tail _ (.head _))
  (case b3 => exact .tail _ (.tail _ hk7))
  (case b5 => exact ⟨rfl, hh1, hh2, hh3⟩)
  unfold RV
  intro h8 tk8 F8 N8
  try dsimp only
  (repeat' (first | (k_unfold; (try dsimp only)) | ((with_reducible show wpAny _ _ (execs (List.cons _ _) _) _ _ (Shared.mk _ _ _ (HAdd.hAdd _ _) _)); (rename Fr _ _ _ _ => Fq); refine stm8 Fq ?_; clear Fq; intro tkq mq Fq; (try k_fold)) | with_reducible (k_here; (with_reducible show wpAny _ _ (PySem.call (Value.ref 415) _) _ _ _); k_dflt (refine' Sp.use (c_told ?q1 ?q2 ?q3 ?q4 ?q5 ?q6 ?q8 ?m0 ?m1 ?m2 ?m3 ?m4 ?q7) ?k1 ?k2 ?k3 ?k4 ?k5 ?k6 ?k7 ?k8 ?k9 ?_; walk_at "use"; (case m0 => k_dflt k_mem); (case m1 => k_dflt k_mem); (case m2 => k_dflt k_mem); (case m3 => k_dflt k_mem); (case m4 => k_dflt k_mem); (case q1 => assumption); (case q2 => assumption); (case q3 => assumption); (case q4 => assumption); (case q5 => assumption); (case q6 => assumption); (case q8 => assumption); (case q7 => exact ⟨by assumption, by assumption, by assumption⟩)); unfold RT2; intro D9ᵣ t1ᵣ t2ᵣ h9ᵣ tk9ᵣ F9ᵣ N9ᵣ l1ᵣ; (try k_lt l1ᵣ); (try dsimp only); (try k_sweep); (try k_fold)) | with_reducible (k_here; (with_reducible show wpAny _ _ (PySem.call (Value.ref 270) _) _ _ _); refine Stop.of ?_) | with_reducible (k_here; (with_reducible show wpAny _ _ (compareOp .NotEq (Value.ref _) (Value.ref _)) _ _ _); k_dflt (refine' ne_t2s ?q1 ?q2 ?q3 ?q4 ?_; (case q1 => k_asm); (case q2 => k_mem); (case q3 => k_mem); (case q4 => ktr_units))) | with_reducible (k_here; (with_reducible show wpAny _ _ (compareOp .Eq (Value.ref _) (Value.ref _)) _ _ _); k_dflt (refine' eq_t2s ?q1 ?q2 ?q3 ?q4 ?_; (case q1 => k_asm); (case q2 => k_mem); (case q3 => k_mem); (case q4 => ktr_units))) | with_reducible (k_here; (with_reducible show wpAny _ _ (compareOp .NotEq (Value.ref _) (Value.ref _)) _ _ _); k_dflt (refine' ne_t2 ?q1 ?q2 ?q3 ?q4 ?_; (case q1 => k_asm); (case q2 => k_mem); (case q3 => k_mem); (case q4 => ktr_units))) | with_reducible (k_here; (with_reducible show wpAny _ _ (compareOp .Eq (Value.ref _) (Value.ref _)) _ _ _); k_dflt (refine' eq_t2 ?q1 ?q2 ?q3 ?q4 ?_; (case q1 => k_asm); (case q2 => k_mem); (case q3 => k_mem); (case q4 => ktr_units))) | with_reducible (k_here; (with_reducible show wpAny _ _ (PySem.call (Value.ref 249) _) _ _ _); k_dflt (refine' Sp.use (c_pe_y ?q1 ?q2 ?q3 ?q4 ?q5 ?q6 ?m0 ?m1 ?m2 ?m3 ?m4 ?q7) ?k1 ?k2 ?k3 ?k4 ?k5 ?k6 ?k7 ?k8 ?k9 ?_; walk_at "use"; (case m0 => k_dflt k_mem); (case m1 => k_dflt k_mem); (case m2 => k_dflt k_mem); (case m3 => k_dflt k_mem); (case m4 => k_dflt k_mem); (case q1 => assumption); (case q2 => assumption); (case q3 => assumption); (case q4 => assumption); (case q5 => assumption); (case q6 => assumption); (case q7 => exact ⟨by assumption, by assumption, by assumption⟩)); unfold RInt; intro t9ᵣ h9ᵣ tk9ᵣ F9ᵣ N9ᵣ; (try dsimp only); (try k_sweep); (try k_fold)) | with_reducible (k_here; (with_reducible show wpAny _ _ (PySem.call (Value.ref 242) _) _ _ _); k_dflt (refine' Sp.use (c_pe_x ?q1 ?q2 ?q3 ?q4 ?q5 ?q6 ?m0 ?m1 ?m2 ?m3 ?m4 ?q7) ?k1 ?k2 ?k3 ?k4 ?k5 ?k6 ?k7 ?k8 ?k9 ?_; walk_at "use"; (case m0 => k_dflt k_mem); (case m1 => k_dflt k_mem); (case m2 => k_dflt k_mem); (case m3 => k_dflt k_mem); (case m4 => k_dflt k_mem); (case q1 => assumption); (case q2 => assumption); (case q3 => assumption); (case q4 => assumption); (case q5 => assumption); (case q6 => assumption); (case q7 => exact ⟨by assumption, by assumption, by assumption⟩)); unfold RInt; intro t9ᵣ h9ᵣ tk9ᵣ F9ᵣ N9ᵣ; (try dsimp only); (try k_sweep); (try k_fold)) | with_reducible (k_here; (with_reducible show wpAny _ _ (PySem.call (Value.ref 138) _) _ _ _); k_dflt (refine' Sp.use c_inf_eqI ?k1 ?k2 ?k3 ?k4 ?k5 ?k6 ?k7 ?k8 ?k9 ?_; walk_at "use"); unfold RBool; intro h9ᵣ tk9ᵣ F9ᵣ N9ᵣ; (try dsimp only [PySem.W.CmpBack]); (try dsimp only); (try k_sweep); (try k_fold)) | with_reducible (k_here; (with_reducible show wpAny _ _ (PySem.call (Value.ref 277) _) _ _ _); k_dflt (refine' Sp.use (c_pe_eqI ?q1 ?q2 ?m0 ?m1 ?m2 ?q3) ?k1 ?k2 ?k3 ?k4 ?k5 ?k6 ?k7 ?k8 ?k9 ?_; walk_at "use"; (case m0 => k_dflt k_mem); (case m1 => k_dflt k_mem); (case m2 => k_dflt k_mem); (case q1 => assumption); (case q2 => assumption); (case q3 => first | assumption | exact ⟨rfl, by assumption, by assumption, by assumption⟩)); unfold RBool; intro h9ᵣ tk9ᵣ F9ᵣ N9ᵣ; (try dsimp only [PySem.W.CmpBack]); (try dsimp only); (try k_sweep); (try k_fold)) | with_reducible (k_here; (with_reducible show wpAny _ _ (PySem.call (Value.ref 361) _) _ _ _); k_dflt (refine' Sp.use (c_takeU ?q1 ?q2 ?q3 ?q4 ?q5 ?q6) ?k1 ?k2 ?k3 ?k4 ?k5 ?k6 ?k7 ?k8 ?k9 ?_; walk_at "use"; (case q5 => k_updF); (case q6 => (intro o9ᵣ; k_updF)); (case q1 => with_reducible assumption); (case q2 => omega); (case q3 => first | omega | decide); (case q4 => assumption)); unfold RTakeU; intro r9ᵣ tr9ᵣ at9ᵣ ta9ᵣ vs9ᵣ ns9ᵣ zs9ᵣ zc9ᵣ h9ᵣ tk9ᵣ hr91ᵣ hr92ᵣ hst9ᵣ F9ᵣ N9ᵣ; (try dsimp only at N9ᵣ ⊢); (try k_sweep); (try k_fold)) | with_reducible (k_here; (with_reducible show wpAny _ _ (PySem.call (Value.ref 21) _) _ _ _); k_dflt (refine' Sp.use (c_inv ?q1 ?q2 ?q3 ?q4) ?k1 ?k2 ?k3 ?k4 ?k5 ?k6 ?k7 ?k8 ?k9 ?_; walk_at "use"; (case q1 => assumption); (case q2 => assumption); (case q3 => omega); (case q4 => omega)); unfold RInv; intro i9ᵣ t9ᵣ h9ᵣ tk9ᵣ hi1ᵣ hi2ᵣ hi3ᵣ F9ᵣ N9ᵣ; (try dsimp only); (try k_sweep); (try k_fold)) | with_reducible (k_here; (with_reducible show wpAny _ _ (PySem.call (Value.ref 71) _) _ _ _); k_dflt (refine' Sp.use (c_ed_a ?q1 ?q2 ?q3) ?k1 ?k2 ?k3 ?k4 ?k5 ?k6 ?k7 ?k8 ?k9 ?_; walk_at "use"; (case q2 => k_dflt k_mem); (case q3 => k_dflt k_mem); (case q1 => k_dflt (exact ⟨rfl, rfl, rfl⟩))); unfold RV; intro h9ᵣ tk9ᵣ F9ᵣ N9ᵣ; (try dsimp only); (try k_sweep); (try k_fold)) | with_reducible (k_here; (with_reducible show wpAny _ _ (PySem.call (Value.ref 64) _) _ _ _); k_dflt (refine' Sp.use (c_ed_p ?q1 ?q2 ?q3) ?k1 ?k2 ?k3 ?k4 ?k5 ?k6 ?k7 ?k8 ?k9 ?_; walk_at "use"; (case q2 => k_dflt k_mem); (case q3 => k_dflt k_mem); (case q1 => k_dflt (exact ⟨rfl, rfl, rfl⟩))); unfold RV; intro h9ᵣ tk9ᵣ F9ᵣ N9ᵣ; (try dsimp only); (try k_sweep); (try k_fold)) | with_reducible (k_here; (with_reducible show wpAny _ _ (call (Value.builtin "len") [Value.ref _]) _ _ _); k_dflt (refine' kst_len ?q1 ?q2 ?q3 ?q4 ?_; (case q1 => k_asm); (case q2 => k_mem); (case q3 => assumption); (case q4 => omega))) | with_reducible (k_here; (with_reducible show wpAny _ _ (exec (Stmt.For _ _ _ _ _) _) _ _ _); (rename Fr _ _ _ _ => lF'); (with_unfolding_all refine' For_invVF lF' ?k1 ?k2 ?_; (case k1 => exact rfl); (case k2 => exact rfl); k_whole)) | with_reducible (k_here; (with_reducible show wpAny _ _ (subscriptTail _ _ (Value.ref _) (Value.int _ _)) _ _ _); k_dflt (refine' item_tupleT ?t ?a ?b ?c ?d ?_; (case t => exact News.isTup (by k_asm) (by k_mem)); (case a => decide); (case b => decide); (case c => rfl); (case d => rfl); k_whole)) | with_reducible (k_here; (with_reducible show wpAny _ _ (PySem.pyIter (Value.ref _)) _ _ _); refine Stop.of ?_) | walk1 | (dsimp only; walk1) | fail "no step"))
  exact hret _ _ _ _ _ _ _ _ _ (by k_asm) (by (exact cb_drop (by assumption) fun q hq => by repeat (first | exact hq | apply List.mem_cons_of_mem))) hk7 hs8 hd7
theorem c_lscaled1 {news : List (Addr × Obj)} {x d cx cd k r : Addr} {s1 s2 s3 s4 s5 c1 c2 c3 c4 c5 u1 u2 u3 u4 tp ta td tt r1 r2 : Tok} {o g l : Value} {q n : Nat} {av dv i Xv Yv Tv : Int} {P : Int × Int} (hc : Ed.Cx q av dv P n) (hr : Ed.Rp q av dv P n i Xv Yv 1 Tv) (hX : 0 ≤ Xv ∧ Xv < q) (hY : 0 ≤ Yv ∧ Yv < q) (hT : 0 ≤ Tv ∧ Tv < q) (hi : i % (n : Int) ≠ 0)
    (m0 : (x, instObj 343 d) ∈ news) (m1 : (d, dictOf (peE w s1 s2 s3 s4 s5 (.ref cx) (.ref k) o g l) 5) ∈ news) (m2 : (k, tup4 Xv u1 Yv u2 1 u3 Tv u4) ∈ news) (m3 : (cx, instObj 88 cd) ∈ news) (m4 : (cd, dictOf (edE w c1 c2 c3 c4 c5 (.int q tp) (.int av ta) (.int dv td) .none .none) 5) ∈ news) (hh : handedIn o = true ∧ handedIn g = true ∧ handedIn l = true) (m5 : (r, tup2 (Ed.zM q av dv P n i).1 r1 (Ed.zM q av dv P n i).2 r2) ∈ news) :
    Sp PR w (hd.heap_39 w.params) topProg LO mean mg mb 8 150 (call (.ref 429) [.ref x, .ref r, .int (q : Int) tt]) news (fun _ => True) (RBool true news) := by
  obtain ⟨hb1, hb2⟩ := Ed.primes_int hc.cv.pr
  have hz1 : (0 : Int) ≤ 1 ∧ (1 : Int) < q := by omega
  have hn := Ed.rp_ne hc hr hi
  have hn1 := hn.1
  have hn2 := hn.2
  obtain ⟨hh1, hh2, hh3⟩ := hh
  (try unfold PR LO); k_fill
  unfold Sp
  intro dp un gd cn cs a ccd cl outer A₀ base h₀ L M s Q E B F X N T hk hd hu hpre hret
  try dsimp only at hpre
  refine wpAny_call ?_
  k_dflt cell_enter
  (repeat' (first | (k_unfold; (try dsimp only)) | ((with_reducible show wpAny _ _ (execs (List.cons _ _) _) _ _ (Shared.mk _ _ _ (HAdd.hAdd _ _) _)); (rename Fr _ _ _ _ => Fq); refine stm8 Fq ?_; clear Fq; intro tkq mq Fq; (try k_fold)) | with_reducible (k_here; (with_reducible show wpAny _ _ (PySem.call (Value.ref 270) _) _ _ _); k_dflt (refine' Sp.use (c_scale1 ?m0 ?m1 ?m2 ?q7) ?k1 ?k2 ?k3 ?k4 ?k5 ?k6 ?k7 ?k8 ?k9 ?_; walk_at "use"; (case m0 => k_dflt k_mem); (case m1 => k_dflt k_mem); (case m2 => k_dflt k_mem); (case q7 => exact ⟨rfl, by assumption, by assumption, by assumption⟩)); unfold RV; intro h9ᵣ tk9ᵣ F9ᵣ N9ᵣ; (try dsimp only); (try k_sweep); (try k_fold)) | with_reducible (k_here; (with_reducible show wpAny _ _ (PySem.call (Value.ref 415) _) _ _ _); k_dflt (refine' Sp.use (c_told ?q1 ?q2 ?q3 ?q4 ?q5 ?q6 ?q8 ?m0 ?m1 ?m2 ?m3 ?m4 ?q7) ?k1 ?k2 ?k3 ?k4 ?k5 ?k6 ?k7 ?k8 ?k9 ?_; walk_at "use"; (case m0 => k_dflt k_mem); (case m1 => k_dflt k_mem); (case m2 => k_dflt k_mem); (case m3 => k_dflt k_mem); (case m4 => k_dflt k_mem); (case q1 => assumption); (case q2 => assumption); (case q3 => assumption); (case q4 => assumption); (case q5 => assumption); (case q6 => assumption); (case q8 => assumption); (case q7 => exact ⟨by assumption, by assumption, by assumption⟩)); unfold RT2; intro D9ᵣ t1ᵣ t2ᵣ h9ᵣ tk9ᵣ F9ᵣ N9ᵣ l1ᵣ; (try k_lt l1ᵣ); (try dsimp only); (try k_sweep); (try k_fold)) | with_reducible (k_here; (with_reducible show wpAny _ _ (PySem.call (Value.ref 270) _) _ _ _); refine Stop.of ?_) | with_reducible (k_here; (with_reducible show wpAny _ _ (compareOp .NotEq (Value.ref _) (Value.ref _)) _ _ _); k_dflt (refine' ne_t2s ?q1 ?q2 ?q3 ?q4 ?_; (case q1 => k_asm); (case q2 => k_mem); (case q3 => k_mem); (case q4 => ktr_units))) | with_reducible (k_here; (with_reducible show wpAny _ _ (compareOp .Eq (Value.ref _) (Value.ref _)) _ _ _); k_dflt (refine' eq_t2s ?q1 ?q2 ?q3 ?q4 ?_; (case q1 => k_asm); (case q2 => k_mem); (case q3 => k_mem); (case q4 => ktr_units))) | with_reducible (k_here; (with_reducible show wpAny _ _ (compareOp .NotEq (Value.ref _) (Value.ref _)) _ _ _); k_dflt (refine' ne_t2 ?q1 ?q2 ?q3 ?q4 ?_; (case q1 => k_asm); (case q2 => k_mem); (case q3 => k_mem); (case q4 => ktr_units))) | with_reducible (k_here; (with_reducible show wpAny _ _ (compareOp .Eq (Value.ref _) (Value.ref _)) _ _ _); k_dflt (refine' eq_t2 ?q1 ?q2 ?q3 ?q4 ?_; (case q1 => k_asm); (case q2 => k_mem); (case q3 => k_mem); (case q4 => ktr_units))) | with_reducible (k_here; (with_reducible show wpAny _ _ (PySem.call (Value.ref 249) _) _ _ _); k_dflt (refine' Sp.use (c_pe_y ?q1 ?q2 ?q3 ?q4 ?q5 ?q6 ?m0 ?m1 ?m2 ?m3 ?m4 ?q7) ?k1 ?k2 ?k3 ?k4 ?k5 ?k6 ?k7 ?k8 ?k9 ?_; walk_at "use"; (case m0 => k_dflt k_mem); (case m1 => k_dflt k_mem); (case m2 => k_dflt k_mem); (case m3 => k_dflt k_mem); (case m4 => k_dflt k_mem); (case q1 => assumption); (case q2 => assumption); (case q3 => assumption); (case q4 => assumption); (case q5 => assumption); (case q6 => assumption); (case q7 => exact ⟨by assumption, by assumption, by assumption⟩)); unfold RInt; intro t9ᵣ h9ᵣ tk9ᵣ F9ᵣ N9ᵣ; (try dsimp only); (try k_sweep); (try k_fold)) | with_reducible (k_here; (with_reducible show wpAny _ _ (PySem.call (Value.ref 242) _) _ _ _); k_dflt (refine' Sp.use (c_pe_x ?q1 ?q2 ?q3 ?q4 ?q5 ?q6 ?m0 ?m1 ?m2 ?m3 ?m4 ?q7) ?k1 ?k2 ?k3 ?k4 ?k5 ?k6 ?k7 ?k8 ?k9 ?_; walk_at "use"; (case m0 => k_dflt k_mem); (case m1 => k_dflt k_mem); (case m2 => k_dflt k_mem); (case m3 => k_dflt k_mem); (case m4 => k_dflt k_mem); (case q1 => assumption); (case q2 => assumption); (case q3 => assumption); (case q4 => assumption); (case q5 => assumption); (case q6 => assumption); (case q7 => exact ⟨by assumption, by assumption, by assumption⟩)); unfold RInt; intro t9ᵣ h9ᵣ tk9ᵣ F9ᵣ N9ᵣ; (try dsimp only); (try k_sweep); (try k_fold)) | with_reducible (k_here; (with_reducible show wpAny _ _ (PySem.call (Value.ref 138) _) _ _ _); k_dflt (refine' Sp.use c_inf_eqI ?k1 ?k2 ?k3 ?k4 ?k5 ?k6 ?k7 ?k8 ?k9 ?_; walk_at "use"); unfold RBool; intro h9ᵣ tk9ᵣ F9ᵣ N9ᵣ; (try dsimp only [PySem.W.CmpBack]); (try dsimp only); (try k_sweep); (try k_fold)) | with_reducible (k_here; (with_reducible show wpAny _ _ (PySem.call (Value.ref 277) _) _ _ _); k_dflt (refine' Sp.use (c_pe_eqI ?q1 ?q2 ?m0 ?m1 ?m2 ?q3) ?k1 ?k2 ?k3 ?k4 ?k5 ?k6 ?k7 ?k8 ?k9 ?_; walk_at "use"; (case m0 => k_dflt k_mem); (case m1 => k_dflt k_mem); (case m2 => k_dflt k_mem); (case q1 => assumption); (case q2 => assumption); (case q3 => first | assumption | exact ⟨rfl, by assumption, by assumption, by assumption⟩)); unfold RBool; intro h9ᵣ tk9ᵣ F9ᵣ N9ᵣ; (try dsimp only [PySem.W.CmpBack]); (try dsimp only); (try k_sweep); (try k_fold)) | with_reducible (k_here; (with_reducible show wpAny _ _ (PySem.call (Value.ref 361) _) _ _ _); k_dflt (refine' Sp.use (c_takeU ?q1 ?q2 ?q3 ?q4 ?q5 ?q6) ?k1 ?k2 ?k3 ?k4 ?k5 ?k6 ?k7 ?k8 ?k9 ?_; walk_at "use"; (case q5 => k_updF); (case q6 => (intro o9ᵣ; k_updF)); (case q1 => with_reducible assumption); (case q2 => omega); (case q3 => first | omega | decide); (case q4 => assumption)); unfold RTakeU; intro r9ᵣ tr9ᵣ at9ᵣ ta9ᵣ vs9ᵣ ns9ᵣ zs9ᵣ zc9ᵣ h9ᵣ tk9ᵣ hr91ᵣ hr92ᵣ hst9ᵣ F9ᵣ N9ᵣ; (try dsimp only at N9ᵣ ⊢); (try k_sweep); (try k_fold)) | with_reducible (k_here; (with_reducible show wpAny _ _ (PySem.call (Value.ref 21) _) _ _ _); k_dflt (refine' Sp.use (c_inv ?q1 ?q2 ?q3 ?q4) ?k1 ?k2 ?k3 ?k4 ?k5 ?k6 ?k7 ?k8 ?k9 ?_; walk_at "use"; (case q1 => assumption); (case q2 => assumption); (case q3 => omega); (case q4 => omega)); unfold RInv; intro i9ᵣ t9ᵣ h9ᵣ tk9ᵣ hi1ᵣ hi2ᵣ hi3ᵣ F9ᵣ N9ᵣ; (try dsimp only); (try k_sweep); (try k_fold)) | with_reducible (k_here; (with_reducible show wpAny _ _ (PySem.call (Value.ref 71) _) _ _ _); k_dflt (refine' Sp.use (c_ed_a ?q1 ?q2 ?q3) ?k1 ?k2 ?k3 ?k4 ?k5 ?k6 ?k7 ?k8 ?k9 ?_; walk_at "use"; (case q2 => k_dflt k_mem); (case q3 => k_dflt k_mem); (case q1 => k_dflt (exact ⟨rfl, rfl, rfl⟩))); unfold RV; intro h9ᵣ tk9ᵣ F9ᵣ N9ᵣ; (try dsimp only); (try k_sweep); (try k_fold)) | with_reducible (k_here; (with_reducible show wpAny _ _ (PySem.call (Value.ref 64) _) _ _ _); k_dflt (refine' Sp.use (c_ed_p ?q1 ?q2 ?q3) ?k1 ?k2 ?k3 ?k4 ?k5 ?k6 ?k7 ?k8 ?k9 ?_; walk_at "use"; (case q2 => k_dflt k_mem); (case q3 => k_dflt k_mem); (case q1 => k_dflt (exact ⟨rfl, rfl, rfl⟩))); unfold RV; intro h9ᵣ tk9ᵣ F9ᵣ N9ᵣ; (try dsimp only); (try k_sweep); (try k_fold)) | with_reducible (k_here; (with_reducible show wpAny _ _ (call (Value.builtin "len") [Value.ref _]) _ _ _); k_dflt (refine' kst_len ?q1 ?q2 ?q3 ?q4 ?_; (case q1 => k_asm); (case q2 => k_mem); (case q3 => assumption); (case q4 => omega))) | with_reducible (k_here; (with_reducible show wpAny _ _ (exec (Stmt.For _ _ _ _ _) _) _ _ _); (rename Fr _ _ _ _ => lF'); (with_unfolding_all refine' For_invVF lF' ?k1 ?k2 ?_; (case k1 => exact rfl); (case k2 => exact rfl); k_whole)) | with_reducible (k_here; (with_reducible show wpAny _ _ (subscriptTail _ _ (Value.ref _) (Value.int _ _)) _ _ _); k_dflt (refine' item_tupleT ?t ?a ?b ?c ?d ?_; (case t => exact News.isTup (by k_asm) (by k_mem)); (case a => decide); (case b => decide); (case c => rfl); (case d => rfl); k_whole)) | with_reducible (k_here; (with_reducible show wpAny _ _ (PySem.pyIter (Value.ref _)) _ _ _); refine Stop.of ?_) | walk1 | (dsimp only; walk1) | fail "no step"))
  exact hret _ _ (by k_asm) (by (exact cb_drop (by assumption) fun q hq => by repeat (first | exact hq | apply List.mem_cons_of_mem)))
theorem c_lscaledI {news : List (Addr × Obj)} {r : Addr} {tt r1 r2 t : Tok} {q : Int} (m5 : (r, tup2 0 r1 1 r2) ∈ news) :
    Sp PR w (hd.heap_39 w.params) topProg LO mean mg mb 8 150 (call (.ref 429) [.ref 347, .ref r, .int q tt]) news (fun _ => True) (RBool true news) := by
  (try unfold PR LO); k_fill
  unfold Sp
  intro dp un gd cn cs a ccd cl outer A₀ base h₀ L M s Q E B F X N T hk hd hu hpre hret
  try dsimp only at hpre
  refine wpAny_call ?_
  k_dflt cell_enter
  (repeat' (first | (k_unfold; (try dsimp only)) | ((with_reducible show wpAny _ _ (execs (List.cons _ _) _) _ _ (Shared.mk _ _ _ (HAdd.hAdd _ _) _)); (rename Fr _ _ _ _ => Fq); refine stm8 Fq ?_; clear Fq; intro tkq mq Fq; (try k_fold)) | with_reducible (k_here; (with_reducible show wpAny _ _ (PySem.call (Value.ref 270) _) _ _ _); k_dflt (refine' Sp.use (c_scale1 ?m0 ?m1 ?m2 ?q7) ?k1 ?k2 ?k3 ?k4 ?k5 ?k6 ?k7 ?k8 ?k9 ?_; walk_at "use"; (case m0 => k_dflt k_mem); (case m1 => k_dflt k_mem); (case m2 => k_dflt k_mem); (case q7 => exact ⟨rfl, by assumption, by assumption, by assumption⟩)); unfold RV; intro h9ᵣ tk9ᵣ F9ᵣ N9ᵣ; (try dsimp only); (try k_sweep); (try k_fold)) | with_reducible (k_here; (with_reducible show wpAny _ _ (PySem.call (Value.ref 415) _) _ _ _); k_dflt (refine' Sp.use (c_told ?q1 ?q2 ?q3 ?q4 ?q5 ?q6 ?q8 ?m0 ?m1 ?m2 ?m3 ?m4 ?q7) ?k1 ?k2 ?k3 ?k4 ?k5 ?k6 ?k7 ?k8 ?k9 ?_; walk_at "use"; (case m0 => k_dflt k_mem); (case m1 => k_dflt k_mem); (case m2 => k_dflt k_mem); (case m3 => k_dflt k_mem); (case m4 => k_dflt k_mem); (case q1 => assumption); (case q2 => assumption); (case q3 => assumption); (case q4 => assumption); (case q5 => assumption); (case q6 => assumption); (case q8 => assumption); (case q7 => exact ⟨by assumption, by assumption, by assumption⟩)); unfold RT2; intro D9ᵣ t1ᵣ t2ᵣ h9ᵣ tk9ᵣ F9ᵣ N9ᵣ l1ᵣ; (try k_lt l1ᵣ); (try dsimp only); (try k_sweep); (try k_fold)) | with_reducible (k_here; (with_reducible show wpAny _ _ (PySem.call (Value.ref 270) _) _ _ _); refine Stop.of ?_) | with_reducible (k_here; (with_reducible show wpAny _ _ (compareOp .NotEq (Value.ref _) (Value.ref _)) _ _ _); k_dflt (refine' ne_t2s ?q1 ?q2 ?q3 ?q4 ?_; (case q1 => k_asm); (case q2 => k_mem); (case q3 => k_mem); (case q4 => ktr_units))) | with_reducible (k_here; (with_reducible show wpAny _ _ (compareOp .Eq (Value.ref _) (Value.ref _)) _ _ _); k_dflt (refine' eq_t2s ?q1 ?q2 ?q3 ?q4 ?_; (case q1 => k_asm); (case q2 => k_mem); (case q3 => k_mem); (case q4 => ktr_units))) | with_reducible (k_here; (with_reducible show wpAny _ _ (compareOp .NotEq (Value.ref _) (Value.ref _)) _ _ _); k_dflt (refine' ne_t2 ?q1 ?q2 ?q3 ?q4 ?_; (case q1 => k_asm); (case q2 => k_mem); (case q3 => k_mem); (case q4 => ktr_units))) | with_reducible (k_here; (with_reducible show wpAny _ _ (compareOp .Eq (Value.ref _) (Value.ref _)) _ _ _); k_dflt (refine' eq_t2 ?q1 ?q2 ?q3 ?q4 ?_; (case q1 => k_asm); (case q2 => k_mem); (case q3 => k_mem); (case q4 => ktr_units))) | with_reducible (k_here; (with_reducible show wpAny _ _ (PySem.call (Value.ref 249) _) _ _ _); k_dflt (refine' Sp.use (c_pe_y ?q1 ?q2 ?q3 ?q4 ?q5 ?q6 ?m0 ?m1 ?m2 ?m3 ?m4 ?q7) ?k1 ?k2 ?k3 ?k4 ?k5 ?k6 ?k7 ?k8 ?k9 ?_; walk_at "use"; (case m0 => k_dflt k_mem); (case m1 => k_dflt k_mem); (case m2 => k_dflt k_mem); (case m3 => k_dflt k_mem); (case m4 => k_dflt k_mem); (case q1 => assumption); (case q2 => assumption); (case q3 => assumption); (case q4 => assumption); (case q5 => assumption); (case q6 => assumption); (case q7 => exact ⟨by assumption, by assumption, by assumption⟩)); unfold RInt; intro t9ᵣ h9ᵣ tk9ᵣ F9ᵣ N9ᵣ; (try dsimp only); (try k_sweep); (try k_fold)) | with_reducible (k_here; (with_reducible show wpAny _ _ (PySem.call (Value.ref 242) _) _ _ _); k_dflt (refine' Sp.use (c_pe_x ?q1 ?q2 ?q3 ?q4 ?q5 ?q6 ?m0 ?m1 ?m2 ?m3 ?m4 ?q7) ?k1 ?k2 ?k3 ?k4 ?k5 ?k6 ?k7 ?k8 ?k9 ?_; walk_at "use"; (case m0 => k_dflt k_mem); (case m1 => k_dflt k_mem); (case m2 => k_dflt k_mem); (case m3 => k_dflt k_mem); (case m4 => k_dflt k_mem); (case q1 => assumption); (case q2 => assumption); (case q3 => assumption); (case q4 => assumption); (case q5 => assumption); (case q6 => assumption); (case q7 => exact ⟨by assumption, by assumption, by assumption⟩)); unfold RInt; intro t9ᵣ h9ᵣ tk9ᵣ F9ᵣ N9ᵣ; (try dsimp only); (try k_sweep); (try k_fold)) | with_reducible (k_here; (with_reducible show wpAny _ _ (PySem.call (Value.ref 138) _) _ _ _); k_dflt (refine' Sp.use c_inf_eqI ?k1 ?k2 ?k3 ?k4 ?k5 ?k6 ?k7 ?k8 ?k9 ?_; walk_at "use"); unfold RBool; intro h9ᵣ tk9ᵣ F9ᵣ N9ᵣ; (try dsimp only [PySem.W.CmpBack]); (try dsimp only); (try k_sweep); (try k_fold)) | with_reducible (k_here; (with_reducible show wpAny _ _ (PySem.call (Value.ref 277) _) _ _ _); k_dflt (refine' Sp.use (c_pe_eqI ?q1 ?q2 ?m0 ?m1 ?m2 ?q3) ?k1 ?k2 ?k3 ?k4 ?k5 ?k6 ?k7 ?k8 ?k9 ?_; walk_at "use"; (case m0 => k_dflt k_mem); (case m1 => k_dflt k_mem); (case m2 => k_dflt k_mem); (case q1 => assumption); (case q2 => assumption); (case q3 => first | assumption | exact ⟨rfl, by assumption, by assumption, by assumption⟩)); unfold RBool; intro h9ᵣ tk9ᵣ F9ᵣ N9ᵣ; (try dsimp only [PySem.W.CmpBack]); (try dsimp only); (try k_sweep); (try k_fold)) | with_reducible (k_here; (with_reducible show wpAny _ _ (PySem.call (Value.ref 361) _) _ _ _); k_dflt (refine' Sp.use (c_takeU ?q1 ?q2 ?q3 ?q4 ?q5 ?q6) ?k1 ?k2 ?k3 ?k4 ?k5 ?k6 ?k7 ?k8 ?k9 ?_; walk_at "use"; (case q5 => k_updF); (case q6 => (intro o9ᵣ; k_updF)); (case q1 => with_reducible assumption); (case q2 => omega); (case q3 => first | omega | decide); (case q4 => assumption)); unfold RTakeU; intro r9ᵣ tr9ᵣ at9ᵣ ta9ᵣ vs9ᵣ ns9ᵣ zs9ᵣ zc9ᵣ h9ᵣ tk9ᵣ hr91ᵣ hr92ᵣ hst9ᵣ F9ᵣ N9ᵣ; (try dsimp only at N9ᵣ ⊢); (try k_sweep); (try k_fold)) | with_reducible (k_here; (with_reducible show wpAny _ _ (PySem.call (Value.ref 21) _) _ _ _); k_dflt (refine' Sp.use (c_inv ?q1 ?q2 ?q3 ?q4) ?k1 ?k2 ?k3 ?k4 ?k5 ?k6 ?k7 ?k8 ?k9 ?_; walk_at "use"; (case q1 => assumption); (case q2 => assumption); (case q3 => omega); (case q4 => omega)); unfold RInv; intro i9ᵣ t9ᵣ h9ᵣ tk9ᵣ hi1ᵣ hi2ᵣ hi3ᵣ F9ᵣ N9ᵣ; (try dsimp only); (try k_sweep); (try k_fold)) | with_reducible (k_here; (with_reducible show wpAny _ _ (PySem.call (Value.ref 71) _) _ _ _); k_dflt (refine' Sp.use (c_ed_a ?q1 ?q2 ?q3) ?k1 ?k2 ?k3 ?k4 ?k5 ?k6 ?k7 ?k8 ?k9 ?_; walk_at "use"; (case q2 => k_dflt k_mem); (case q3 => k_dflt k_mem); (case q1 => k_dflt (exact ⟨rfl, rfl, rfl⟩))); unfold RV; intro h9ᵣ tk9ᵣ F9ᵣ N9ᵣ; (try dsimp only); (try k_sweep); (try k_fold)) | with_reducible (k_here; (with_reducible show wpAny _ _ (PySem.call (Value.ref 64) _) _ _ _); k_dflt (refine' Sp.use (c_ed_p ?q1 ?q2 ?q3) ?k1 ?k2 ?k3 ?k4 ?k5 ?k6 ?k7 ?k8 ?k9 ?_; walk_at "use"; (case q2 => k_dflt k_mem); (case q3 => k_dflt k_mem); (case q1 => k_dflt (exact ⟨rfl, rfl, rfl⟩))); unfold RV; intro h9ᵣ tk9ᵣ F9ᵣ N9ᵣ; (try dsimp only); (try k_sweep); (try k_fold)) | with_reducible (k_here; (with_reducible show wpAny _ _ (call (Value.builtin "len") [Value.ref _]) _ _ _); k_dflt (refine' kst_len ?q1 ?q2 ?q3 ?q4 ?_; (case q1 => k_asm); (case q2 => k_mem); (case q3 => assumption); (case q4 => omega))) | with_reducible (k_here; (with_reducible show wpAny _ _ (exec (Stmt.For _ _ _ _ _) _) _ _ _); (rename Fr _ _ _ _ => lF'); (with_unfolding_all refine' For_invVF lF' ?k1 ?k2 ?_; (case k1 => exact rfl); (case k2 => exact rfl); k_whole)) | with_reducible (k_here; (with_reducible show wpAny _ _ (subscriptTail _ _ (Value.ref _) (Value.int _ _)) _ _ _); k_dflt (refine' item_tupleT ?t ?a ?b ?c ?d ?_; (case t => exact News.isTup (by k_asm) (by k_mem)); (case a => decide); (case b => decide); (case c => rfl); (case d => rfl); k_whole)) | with_reducible (k_here; (with_reducible show wpAny _ _ (PySem.pyIter (Value.ref _)) _ _ _); refine Stop.of ?_) | walk1 | (dsimp only; walk1) | fail "no step"))
  all_goals exact hret _ _ (by k_asm) (by (exact cb_drop (by assumption) fun q hq => by repeat (first | exact hq | apply List.mem_cons_of_mem)))
end
-- L05k
section
theorem withI {G : Prop} {r b : Int} (_h : r < b) (k : ∀ x, x = r → G) : G := k r rfl
variable {w : World} {mean : ExcName → Option Value} {mg mb : Str → Option Value}
def RExt (q : Nat) (x y : Int) (c o g : Value) (S C : Addr) (A : Int) (news : List (Addr × Obj)) (w : World) (h₀ : Heap) (L : Addr) (m : Str → Option Value) (s : Shared) (Q : Value → Shared → Prop) : Prop :=
  ∀ Zv at' ta' vs' ns' zs' zc', 0 < Zv → Zv < (q : Int) → StI vs' ns' at' (A + 2) → RPe c ((x * Zv).fmod q, (y * Zv).fmod q, Zv, (x * y * Zv).fmod q) o g ((S, stO at' ta' C zs') :: (C, W.listOf vs'.toArray zc') :: news) w h₀ L m s Q
theorem c_ext {news : List (Addr × Obj)} {S C cx cd r : Addr} {at0 A : Int} {ta : Tok} {vs : List Value} {ns : List Int} {zs zc : Nat} {c1 c2 c3 c4 c5 tp t2 td r1 r2 : Tok} {o : Value} {g : Bool} {q : Nat} {av dv x y : Int} (hq : q ∈ Ed.primes24) (hb : Ed.InB q (x, y)) (hst : StI vs ns at0 A) (hA : A ≤ 10000) (hne : S ≠ C) (hS : ∀ p ∈ news, p.1 ≠ S) (hC : ∀ p ∈ news, p.1 ≠ C)
    (m3 : (cx, instObj 88 cd) ∈ news) (m4 : (cd, dictOf (edE w c1 c2 c3 c4 c5 (.int q tp) (.int av t2) (.int dv td) .none .none) 5) ∈ news) (m5 : (r, tup2 x r1 y r2) ∈ news) :
    Sp PR w (hd.heap_39 w.params) topProg LO mean mg mb 5 60 (call (.ref 408) [.ref S, .ref cx, .ref r, o, .bool g]) ((S, stO at0 ta C zs) :: (C, W.listOf vs.toArray zc) :: news) (fun _ => True) (RExt q x y (.ref cx) o (.bool g) S C A news w) := by
  have hne1 : @Ne Nat S C := hne
  have hne2 : @Ne Nat C S := fun e => hne e.symm
  obtain ⟨hb1, hb2⟩ := Ed.primes_int hq
  unfold Ed.InB at hb
  dsimp only at hb
  (try unfold PR LO); k_fill; w_top off
  unfold Sp
  intro dp un gd cn cs a ccd cl outer A₀ base h₀ L M s Q E B F X N T hk hd hu hpre hret
  try dsimp only at hpre
  refine wpAny_call ?_
  k_dflt cell_enter
  (repeat' (first | (k_unfold; (try dsimp only)) | ((with_reducible show wpAny _ _ (execs (List.cons _ _) _) _ _ (Shared.mk _ _ _ (HAdd.hAdd _ _) _)); (rename Fr _ _ _ _ => Fq); refine stm8 Fq ?_; clear Fq; intro tkq mq Fq; (try k_fold)) | with_reducible (k_here; (with_reducible show wpAny _ _ (PySem.call (Value.ref 343) _) _ _ _); k_dflt (refine' Sp.use c_mkPE7 ?k1 ?k2 ?k3 ?k4 ?k5 ?k6 ?k7 ?k8 ?k9 ?_; walk_at "use"); unfold RPe; intro z9ᵣ d9ᵣ l9ᵣ k9ᵣ t1ᵣ t2ᵣ t3ᵣ t4ᵣ t5ᵣ u1ᵣ u2ᵣ u3ᵣ u4ᵣ h9ᵣ tk9ᵣ F9ᵣ N9ᵣ l1ᵣ l2ᵣ l3ᵣ l4ᵣ; (try dsimp only); (try k_sweep); (try k_fold)) | with_reducible (k_here; (with_reducible show wpAny _ _ (PySem.call (Value.ref 361) _) _ _ _); k_dflt (refine' Sp.use (c_takeU ?q1 ?q2 ?q3 ?q4 ?q5 ?q6) ?k1 ?k2 ?k3 ?k4 ?k5 ?k6 ?k7 ?k8 ?k9 ?_; walk_at "use"; (case q5 => k_updF); (case q6 => (intro o9ᵣ; k_updF)); (case q1 => with_reducible assumption); (case q2 => omega); (case q3 => first | omega | decide); (case q4 => assumption)); unfold RTakeU; intro r9ᵣ tr9ᵣ at9ᵣ ta9ᵣ vs9ᵣ ns9ᵣ zs9ᵣ zc9ᵣ h9ᵣ tk9ᵣ hr91ᵣ hr92ᵣ hst9ᵣ F9ᵣ N9ᵣ; (try dsimp only at N9ᵣ ⊢); (try k_sweep); (try k_fold)) | with_reducible (k_here; (with_reducible show wpAny _ _ (PySem.call (Value.ref 21) _) _ _ _); k_dflt (refine' Sp.use (c_inv ?q1 ?q2 ?q3 ?q4) ?k1 ?k2 ?k3 ?k4 ?k5 ?k6 ?k7 ?k8 ?k9 ?_; walk_at "use"; (case q1 => assumption); (case q2 => assumption); (case q3 => omega); (case q4 => omega)); unfold RInv; intro i9ᵣ t9ᵣ h9ᵣ tk9ᵣ hi1ᵣ hi2ᵣ hi3ᵣ F9ᵣ N9ᵣ; (try dsimp only); (try k_sweep); (try k_fold)) | with_reducible (k_here; (with_reducible show wpAny _ _ (PySem.call (Value.ref 71) _) _ _ _); k_dflt (refine' Sp.use (c_ed_a ?q1 ?q2 ?q3) ?k1 ?k2 ?k3 ?k4 ?k5 ?k6 ?k7 ?k8 ?k9 ?_; walk_at "use"; (case q2 => k_dflt k_mem); (case q3 => k_dflt k_mem); (case q1 => k_dflt (exact ⟨rfl, rfl, rfl⟩))); unfold RV; intro h9ᵣ tk9ᵣ F9ᵣ N9ᵣ; (try dsimp only); (try k_sweep); (try k_fold)) | with_reducible (k_here; (with_reducible show wpAny _ _ (PySem.call (Value.ref 64) _) _ _ _); k_dflt (refine' Sp.use (c_ed_p ?q1 ?q2 ?q3) ?k1 ?k2 ?k3 ?k4 ?k5 ?k6 ?k7 ?k8 ?k9 ?_; walk_at "use"; (case q2 => k_dflt k_mem); (case q3 => k_dflt k_mem); (case q1 => k_dflt (exact ⟨rfl, rfl, rfl⟩))); unfold RV; intro h9ᵣ tk9ᵣ F9ᵣ N9ᵣ; (try dsimp only); (try k_sweep); (try k_fold)) | with_reducible (k_here; (with_reducible show wpAny _ _ (call (Value.builtin "len") [Value.ref _]) _ _ _); k_dflt (refine' kst_len ?q1 ?q2 ?q3 ?q4 ?_; (case q1 => k_asm); (case q2 => k_mem); (case q3 => assumption); (case q4 => omega))) | with_reducible (k_here; (with_reducible show wpAny _ _ (exec (Stmt.For _ _ _ _ _) _) _ _ _); (rename Fr _ _ _ _ => lF'); (with_unfolding_all refine' For_invVF lF' ?k1 ?k2 ?_; (case k1 => exact rfl); (case k2 => exact rfl); k_whole)) | with_reducible (k_here; (with_reducible show wpAny _ _ (subscriptTail _ _ (Value.ref _) (Value.int _ _)) _ _ _); k_dflt (refine' item_tupleT ?t ?a ?b ?c ?d ?_; (case t => exact News.isTup (by k_asm) (by k_mem)); (case a => decide); (case b => decide); (case c => rfl); (case d => rfl); k_whole)) | with_reducible (k_here; (with_reducible show wpAny _ _ (PySem.pyIter (Value.ref _)) _ _ _); refine Stop.of ?_) | walk1 | (dsimp only; walk1) | fail "no step"))
  · (rename (∀ (q : Addr × Obj), q ∈ _ → q.1 < _) => l9)
    exact hret 1 _ _ _ _ _ _ (by omega) (by omega) (StI.mono (by assumption) (by omega)) _ _ _ _ _ _ _ _ _ _ _ _ _ _ _ (by k_asm) (by (exact cb_drop (by assumption) (List.forall_mem_cons.mpr ⟨.head _, List.forall_mem_cons.mpr ⟨.tail _ (.head _), List.forall_mem_cons.mpr ⟨.tail _ (.tail _ (.head _)), List.forall_mem_cons.mpr ⟨.tail _ (.tail _ (.tail _ (.head _))), fun q hq => by repeat (first | exact hq | apply List.mem_cons_of_mem)⟩⟩⟩⟩))) (fun q hq => l9 q (.tail _ hq)) (by assumption) (by assumption) (by assumption)
  · (rename (∀ (q : Addr × Obj), q ∈ _ → q.1 < _) => l9)
    (rename (_ < (q : Int) - 1) => hr92)
    revert l9
    refine withI hr92 ?_
    rintro z0 rfl l9
    exact hret (1 + z0) _ _ _ _ _ _ (by omega) (by omega) (StI.mono (by assumption) (by omega)) _ _ _ _ _ _ _ _ _ _ _ _ _ _ _ (by k_asm) (by (exact cb_drop (by assumption) (List.forall_mem_cons.mpr ⟨.head _, List.forall_mem_cons.mpr ⟨.tail _ (.head _), List.forall_mem_cons.mpr ⟨.tail _ (.tail _ (.head _)), List.forall_mem_cons.mpr ⟨.tail _ (.tail _ (.tail _ (.head _))), fun q hq => by repeat (first | exact hq | apply List.mem_cons_of_mem)⟩⟩⟩⟩))) (fun q hq => l9 q (.tail _ hq)) (by assumption) (by assumption) (by assumption)
end
-- L05l
section
set_option genInjectivity false in
set_option genSizeOf false in
/-- what the law has made: the curve and the three points -/
structure W3 where
  q : Nat
  n : Nat
  a : Int
  d : Int
  P : Int × Int
  cx : Addr
  x1 : Addr
  x2 : Addr
  x3 : Addr
  d1 : Addr
  d2 : Addr
  d3 : Addr
  l1 : Addr
  l2 : Addr
  a1 : Tok
  a3 : Tok
  a4 : Tok
  a5 : Tok
  b1 : Tok
  b3 : Tok
  b4 : Tok
  b5 : Tok
  g1 : Tok
  g3 : Tok
  g4 : Tok
  g5 : Tok
  tb : Tok
  tg : Tok
abbrev W3.D1 (t : W3) (w : World) (k : Addr) (e : Tok) : Obj := dictOf (peE w t.a1 e t.a3 t.a4 t.a5 (.ref t.cx) (.ref k) .none (.bool false) (.ref t.l1)) 5
abbrev W3.D2 (t : W3) (w : World) (k : Addr) (e : Tok) : Obj := dictOf (peE w t.b1 e t.b3 t.b4 t.b5 (.ref t.cx) (.ref k) (.int t.n t.tb) (.bool false) (.ref t.l2)) 5
abbrev W3.D3 (t : W3) (w : World) (k : Addr) (e : Tok) (l : Addr) : Obj := dictOf (peE w t.g1 e t.g3 t.g4 t.g5 (.ref t.cx) (.ref k) (.int t.n t.tg) (.bool true) (.ref l)) 5
/-- coordinates of the i-th multiple; b: scaled -/
def PtZ (t : W3) (b : Prop) (led : List (Addr × Obj)) (k : Addr) : Prop :=
  ∃ X Y Z T u1 u2 u3 u4, (k, tup4 X u1 Y u2 Z u3 T u4) ∈ led ∧ Ed.Rp t.q t.a t.d t.P t.n 1 X Y Z T ∧ (0 ≤ X ∧ X < t.q) ∧ (0 ≤ Y ∧ Y < t.q) ∧ (0 ≤ Z ∧ Z < t.q) ∧ (0 ≤ T ∧ T < t.q) ∧ (b → Z = 1)
theorem PtZ.mono {t : W3} {b b' : Prop} {led led' : List (Addr × Obj)} {k : Addr} (hs : ∀ p ∈ led, p ∈ led') (hb : b' → b) (h : PtZ t b led k) : PtZ t b' led' k := by
  obtain ⟨X, Y, Z, T, u1, u2, u3, u4, hm, h1, h2, h3, h4, h5, h6⟩ := h
  exact ⟨X, Y, Z, T, u1, u2, u3, u4, hs _ hm, h1, h2, h3, h4, h5, fun h => h6 (hb h)⟩
def CurveAt (w : World) (t : W3) (led : List (Addr × Obj)) : Prop :=
  ∃ cd c1 c2 c3 c4 c5 t1 t2 t3, (t.cx, instObj 88 cd) ∈ led ∧ (cd, dictOf (edE w c1 c2 c3 c4 c5 (.int t.q t1) (.int t.a t2) (.int t.d t3) .none .none) 5) ∈ led
theorem CurveAt.mono {w : World} {t : W3} {led led' : List (Addr × Obj)} (hs : ∀ p ∈ led, p ∈ led') (h : CurveAt w t led) : CurveAt w t led' := by
  obtain ⟨cd, c1, c2, c3, c4, c5, t1, t2, t3, h1, h2⟩ := h
  exact ⟨cd, c1, c2, c3, c4, c5, t1, t2, t3, hs _ h1, hs _ h2⟩
set_option genInjectivity false in
set_option genSizeOf false in
structure C3 where
  k1 : Addr
  e1 : Tok
  k2 : Addr
  e2 : Tok
  k3 : Addr
  e3 : Tok
  led : List (Addr × Obj)
abbrev Led3 (w : World) (t : W3) (l3 : Addr) (c : C3) : List (Addr × Obj) := (t.d1, t.D1 w c.k1 c.e1) :: (t.d2, t.D2 w c.k2 c.e2) :: (t.d3, t.D3 w c.k3 c.e3 l3) :: c.led
structure Inv3 (w : World) (t : W3) (led0 : List (Addr × Obj)) (i : Nat) (c : C3) : Prop where
  p1 : PtZ t (1 ≤ i) c.led c.k1
  p2 : PtZ t (2 ≤ i) c.led c.k2
  p3 : PtZ t (3 ≤ i) c.led c.k3
  sub : ∀ p ∈ led0, p ∈ c.led
  n1 : ∀ p ∈ c.led, p.1 ≠ t.d1
  n2 : ∀ p ∈ c.led, p.1 ≠ t.d2
  n3 : ∀ p ∈ c.led, p.1 ≠ t.d3
variable {w : World} {mean : ExcName → Option Value} {mg mb : Str → Option Value}
theorem one_mod {q : Nat} {a d : Int} {P : Int × Int} {n : Nat} (hc : Ed.Cx q a d P n) : (1 : Int) % (n : Int) ≠ 0 := by
  rw [Int.emod_eq_of_lt (by omega) (by have := hc.big; omega)]; omega
/-- one of the three scaled, the two others kept -/
theorem c_lsc1 {led : List (Addr × Obj)} {xa da db dc r k : Addr} {s1 s2 s3 s4 s5 tt r1 r2 : Tok} {Db Dc : Obj} {ov : Value} {g : Bool} {l : Addr} {t : W3} (hc : Ed.Cx t.q t.a t.d t.P t.n) (hcu : CurveAt w t led) (hov : handedIn ov = true) (hbc : Db.cls = .type "dict" ∧ Dc.cls = .type "dict") (hp : PtZ t False led k)
    (na : ∀ p ∈ led, p.1 ≠ da) (nb : ∀ p ∈ led, p.1 ≠ db) (nc : ∀ p ∈ led, p.1 ≠ dc) (hab : db ≠ da) (hac : dc ≠ da) (m0 : (xa, instObj 343 da) ∈ led) (m5 : (r, tup2 (Ed.zM t.q t.a t.d t.P t.n 1).1 r1 (Ed.zM t.q t.a t.d t.P t.n 1).2 r2) ∈ led) :
    Sp PR w (hd.heap_39 w.params) topProg LO mean mg mb 8 150 (call (.ref 429) [.ref xa, .ref r, .int (t.q : Int) tt]) ((da, dictOf (peE w s1 s2 s3 s4 s5 (.ref t.cx) (.ref k) ov (.bool g) (.ref l)) 5) :: (db, Db) :: (dc, Dc) :: led) (fun _ => True)
      (fun h₀ L m s Q => ∀ k' s2' led' h' tk', Fr h₀ L h' m → News h₀ L h' ((da, dictOf (peE w s1 s2' s3 s4 s5 (.ref t.cx) (.ref k') ov (.bool g) (.ref l)) 5) :: (db, Db) :: (dc, Dc) :: led') → PtZ t True led' k' → (∀ p ∈ led, p ∈ led') → (∀ p ∈ led', p.1 ≠ da) → (∀ p ∈ led', p.1 ≠ db) → (∀ p ∈ led', p.1 ≠ dc) → Q (.bool true) { s with heap := h', toks := tk' }) := by
  obtain ⟨X, Y, Z, T, u1, u2, u3, u4, mk, hr, hX, hY, hZ, hT, _⟩ := hp
  obtain ⟨cd, c1, c2, c3, c4, c5, t1, t2, t3, m3, m4⟩ := hcu
  intro dp un gd cn cs a ccd cl outer A₀ base h₀ L M s Q E B F X₀ N T₀ hk hd hu hpre hret
  refine (c_lscaled (news := (db, Db) :: (dc, Dc) :: led) hc hr hX hY hZ hT (one_mod hc) (List.forall_mem_cons.mpr ⟨hab, List.forall_mem_cons.mpr ⟨hac, na⟩⟩) (.tail _ (.tail _ m0)) (.tail _ (.tail _ mk)) (.tail _ (.tail _ m3)) (.tail _ (.tail _ m4)) ⟨hov, rfl, rfl⟩ (.tail _ (.tail _ m5))).use B F X₀ N T₀ hk hd hu hpre ?_
  intro k' s2' v1 v2 v3 v4 led' h' tk' F' N' hk' hs' hd'
  refine frontN [(da, _), (db, Db), (dc, Dc)] N' (List.forall_mem_cons.mpr ⟨.head _, List.forall_mem_cons.mpr ⟨.tail _ (hs' _ (.head _)), List.forall_mem_cons.mpr ⟨.tail _ (hs' _ (.tail _ (.head _))), List.forall_mem_nil _⟩⟩⟩) ?_
  intro led8 N8 hne8 hsub8 hA8 hO8
  have hz8 := Ed.zM_in hc 1
  unfold Ed.InB at hz8
  have hmk := hO8 _ (.tail _ hk') (List.forall_mem_cons.mpr ⟨by simp, List.forall_mem_cons.mpr ⟨by simp [hbc.1], List.forall_mem_cons.mpr ⟨by simp [hbc.2], List.forall_mem_nil _⟩⟩⟩)
  obtain ⟨hb1, hb2⟩ := Ed.primes_int hc.cv.pr
  exact hret k' s2' led8 h' tk' F' N8 ⟨_, _, _, _, _, _, _, _, hmk, Ed.rp_scaled hc 1, ⟨hz8.1, hz8.2.1⟩, ⟨hz8.2.2.1, hz8.2.2.2⟩, ⟨by omega, by omega⟩, Ed.fm_bd (by omega) _, fun _ => rfl⟩
    (fun p hp => hA8 p (.tail _ (hs' p (.tail _ (.tail _ hp)))) (List.forall_mem_cons.mpr ⟨na p hp, List.forall_mem_cons.mpr ⟨nb p hp, List.forall_mem_cons.mpr ⟨nc p hp, List.forall_mem_nil _⟩⟩⟩)) (hne8 _ (.head _)) (hne8 _ (.tail _ (.head _))) (hne8 _ (.tail _ (.tail _ (.head _))))
theorem news_perm3 {h₀ h : Heap} {L : Addr} {a b c : Addr × Obj} {led : List (Addr × Obj)} (N : News h₀ L h (a :: b :: c :: led)) : News h₀ L h (b :: a :: c :: led) ∧ News h₀ L h (c :: a :: b :: led) :=
  ⟨cb_drop N (List.forall_mem_cons.mpr ⟨.tail _ (.head _), List.forall_mem_cons.mpr ⟨.head _, List.forall_mem_cons.mpr ⟨.tail _ (.tail _ (.head _)), fun _ hp => .tail _ (.tail _ (.tail _ hp))⟩⟩⟩),
   cb_drop N (List.forall_mem_cons.mpr ⟨.tail _ (.tail _ (.head _)), List.forall_mem_cons.mpr ⟨.head _, List.forall_mem_cons.mpr ⟨.tail _ (.head _), fun _ hp => .tail _ (.tail _ (.tail _ hp))⟩⟩⟩)⟩
theorem news_perm3' {h₀ h : Heap} {L : Addr} {a b c : Addr × Obj} {led : List (Addr × Obj)} (N : News h₀ L h (c :: a :: b :: led)) : News h₀ L h (a :: b :: c :: led) :=
  cb_drop N (List.forall_mem_cons.mpr ⟨.tail _ (.head _), List.forall_mem_cons.mpr ⟨.tail _ (.tail _ (.head _)), List.forall_mem_cons.mpr ⟨.head _, fun _ hp => .tail _ (.tail _ (.tail _ hp))⟩⟩⟩)
/-- the i-th of the three scaled -/
theorem c_lsc3 {led0 : List (Addr × Obj)} {c : C3} {i : Nat} {v : Value} {l3 r : Addr} {tt r1 r2 : Tok} {t : W3} (hc : Ed.Cx t.q t.a t.d t.P t.n) (hcu : CurveAt w t led0) (m1 : (t.x1, instObj 343 t.d1) ∈ led0) (m2 : (t.x2, instObj 343 t.d2) ∈ led0) (m3 : (t.x3, instObj 343 t.d3) ∈ led0)
    (h12 : t.d1 ≠ t.d2) (h13 : t.d1 ≠ t.d3) (h23 : t.d2 ≠ t.d3) (m5 : (r, tup2 (Ed.zM t.q t.a t.d t.P t.n 1).1 r1 (Ed.zM t.q t.a t.d t.P t.n 1).2 r2) ∈ led0) (hv : [Value.ref t.x1, Value.ref t.x2, Value.ref t.x3][i]? = some v) (hI : Inv3 w t led0 i c) :
    Sp PR w (hd.heap_39 w.params) topProg LO mean mg mb 8 150 (call (.ref 429) [v, .ref r, .int (t.q : Int) tt]) (Led3 w t l3 c) (fun _ => True)
      (fun h₀ L m s Q => ∀ c' h' tk', Inv3 w t led0 (i + 1) c' → Fr h₀ L h' m → News h₀ L h' (Led3 w t l3 c') → Q (.bool true) { s with heap := h', toks := tk' }) := by
  intro dp un gd cn cs a ccd cl outer A₀ base h₀ L M s Q E B F X₀ N T₀ hk hd hu hpre hret
  have hcu' := hcu.mono hI.sub
  have m5' := hI.sub _ m5
  rcases i with _ | _ | _ | i
  · obtain rfl : Value.ref t.x1 = v := by simpa using hv
    refine (c_lsc1 hc hcu' rfl ⟨rfl, rfl⟩ (hI.p1.mono (fun _ h => h) (fun h => h.elim)) hI.n1 hI.n2 hI.n3 (fun e => h12 e.symm) (fun e => h13 e.symm) (hI.sub _ m1) m5').use B F X₀ N T₀ hk hd hu hpre ?_
    intro k' s2' led' h' tk' F' N' hp' hs' n1 n2 n3
    exact hret ⟨k', s2', c.k2, c.e2, c.k3, c.e3, led'⟩ h' tk' ⟨hp'.mono (fun _ h => h) (fun _ => trivial), hI.p2.mono hs' (fun h => by omega), hI.p3.mono hs' (fun h => by omega), fun p hp => hs' p (hI.sub p hp), n1, n2, n3⟩ F' N'
  · obtain rfl : Value.ref t.x2 = v := by simpa using hv
    refine (c_lsc1 hc hcu' rfl ⟨rfl, rfl⟩ (hI.p2.mono (fun _ h => h) (fun h => h.elim)) hI.n2 hI.n1 hI.n3 h12 (fun e => h23 e.symm) (hI.sub _ m2) m5').use B F X₀ (news_perm3 N).1 T₀ hk hd hu hpre ?_
    intro k' s2' led' h' tk' F' N' hp' hs' n2 n1 n3
    exact hret ⟨c.k1, c.e1, k', s2', c.k3, c.e3, led'⟩ h' tk' ⟨hI.p1.mono hs' (fun h => by omega), hp'.mono (fun _ h => h) (fun _ => trivial), hI.p3.mono hs' (fun h => by omega), fun p hp => hs' p (hI.sub p hp), n1, n2, n3⟩ F' (news_perm3 N').1
  · obtain rfl : Value.ref t.x3 = v := by simpa using hv
    refine (c_lsc1 hc hcu' rfl ⟨rfl, rfl⟩ (hI.p3.mono (fun _ h => h) (fun h => h.elim)) hI.n3 hI.n1 hI.n2 h13 h23 (hI.sub _ m3) m5').use B F X₀ (news_perm3 N).2 T₀ hk hd hu hpre ?_
    intro k' s2' led' h' tk' F' N' hp' hs' n3 n1 n2
    exact hret ⟨c.k1, c.e1, c.k2, c.e2, k', s2', led'⟩ h' tk' ⟨hI.p1.mono hs' (fun h => by omega), hI.p2.mono hs' (fun h => by omega), hp'.mono (fun _ h => h) (fun _ => trivial), fun p hp => hs' p (hI.sub p hp), n1, n2, n3⟩ F' (news_perm3' N')
  · simp at hv
end
-- L05m
section
/-- one of the three, with its order -/
def Told3 (w : World) (t : W3) (k3 : Addr) (led : List (Addr × Obj)) (x : Addr) (ov : Value) : Prop :=
  (∃ k e z, x = t.x1 ∧ ov = .none ∧ (t.x1, instObj 343 t.d1) ∈ led ∧ (t.d1, t.D1 w k e) ∈ led ∧ (t.l1, W.listOf #[] z) ∈ led ∧ PtZ t True led k) ∨
  (∃ k e z, x = t.x2 ∧ ov = .int t.n t.tb ∧ (t.x2, instObj 343 t.d2) ∈ led ∧ (t.d2, t.D2 w k e) ∈ led ∧ (t.l2, W.listOf #[] z) ∈ led ∧ PtZ t True led k) ∨
  (x = t.x3 ∧ ov = .int t.n t.tg ∧ (t.x3, instObj 343 t.d3) ∈ led ∧ PtZ t True led k3)
theorem Told3.mono {w : World} {t : W3} {k3 : Addr} {led led' : List (Addr × Obj)} {x : Addr} {ov : Value} (hs : ∀ p ∈ led, p ∈ led') (h : Told3 w t k3 led x ov) : Told3 w t k3 led' x ov := by
  rcases h with ⟨k, e, z, a, b, c, d, f, g⟩ | ⟨k, e, z, a, b, c, d, f, g⟩ | ⟨a, b, c, d⟩
  · exact .inl ⟨k, e, z, a, b, hs _ c, hs _ d, hs _ f, g.mono hs id⟩
  · exact .inr (.inl ⟨k, e, z, a, b, hs _ c, hs _ d, hs _ f, g.mono hs id⟩)
  · exact .inr (.inr ⟨a, b, hs _ c, d.mono hs id⟩)
def OvOk (ov : Value) : Prop := ov = .none ∨ ∃ (n : Nat) (t : Tok), ov = .int n t
theorem OvOk.handed {ov : Value} (h : OvOk ov) : handedIn ov = true := by rcases h with rfl | ⟨_, _, rfl⟩ <;> rfl
theorem Told3.get {G : Prop} {w : World} {t : W3} {k3 : Addr} {e3 : Tok} {l : Addr} {led : List (Addr × Obj)} {x : Addr} {ov : Value} (h : Told3 w t k3 led x ov)
    (g : ∀ dx k gx lx s1 s2 s3 s4 s5, (x, instObj 343 dx) ∈ (t.d3, t.D3 w k3 e3 l) :: led → (dx, dictOf (peE w s1 s2 s3 s4 s5 (.ref t.cx) (.ref k) ov (.bool gx) (.ref lx)) 5) ∈ (t.d3, t.D3 w k3 e3 l) :: led → PtZ t True led k → OvOk ov → G) : G := by
  rcases h with ⟨k, e, z, a, b, c, d, f, i⟩ | ⟨k, e, z, a, b, c, d, f, i⟩ | ⟨a, b, c, d⟩
  · subst a; subst b; exact g _ k _ _ _ _ _ _ _ (.tail _ c) (.tail _ d) i (.inl rfl)
  · subst a; subst b; exact g _ k _ _ _ _ _ _ _ (.tail _ c) (.tail _ d) i (.inr ⟨_, _, rfl⟩)
  · subst a; subst b; exact g _ k3 _ _ _ _ _ _ _ (.tail _ c) (.head _) d (.inr ⟨_, _, rfl⟩)
theorem CurveAt.get {G : Prop} {w : World} {t : W3} {led : List (Addr × Obj)} (h : CurveAt w t led) (g : ∀ cd c1 c2 c3 c4 c5 t1 t2 t3, (t.cx, instObj 88 cd) ∈ led → (cd, dictOf (edE w c1 c2 c3 c4 c5 (.int t.q t1) (.int t.a t2) (.int t.d t3) .none .none) 5) ∈ led → G) : G := by
  obtain ⟨cd, c1, c2, c3, c4, c5, t1, t2, t3, m3, m4⟩ := h
  exact g cd c1 c2 c3 c4 c5 t1 t2 t3 m3 m4
theorem PtZ.get {G : Prop} {t : W3} {led : List (Addr × Obj)} {k : Addr} (h : PtZ t True led k) (g : ∀ X Y T u1 u2 u3 u4, (k, tup4 X u1 Y u2 1 u3 T u4) ∈ led → Ed.Rp t.q t.a t.d t.P t.n 1 X Y 1 T → (0 ≤ X ∧ X < t.q) → (0 ≤ Y ∧ Y < t.q) → (0 ≤ (1 : Int) ∧ (1 : Int) < t.q) → (0 ≤ T ∧ T < t.q) → G) : G := by
  obtain ⟨X, Y, Z, T, u1, u2, u3, u4, a, b, c, d, e, f, i⟩ := h
  obtain rfl : Z = 1 := i trivial
  exact g X Y T u1 u2 u3 u4 a b c d e f
def RMulT (w : World) (t : W3) (k3 : Addr) (e3 : Tok) (kv : Int) (x : Addr) (ov : Value) (led : List (Addr × Obj)) (h₀ : Heap) (L : Addr) (m : Str → Option Value) (s : Shared) (Q : Value → Shared → Prop) : Prop :=
  (kv % (t.n : Int) = 0 → ∀ l' led' h' tk', GTab t.q t.a t.d t.P t.n led' l' → (∀ p ∈ led, p ∈ led') → (∀ p ∈ led', p.1 ≠ t.d3) → Fr h₀ L h' m → News h₀ L h' ((t.d3, t.D3 w k3 e3 l') :: led') → Q (.ref 347) { s with heap := h', toks := tk' }) ∧
  (kv = 1 → ∀ l' led' h' tk', GTab t.q t.a t.d t.P t.n led' l' → (∀ p ∈ led, p ∈ led') → (∀ p ∈ led', p.1 ≠ t.d3) → Fr h₀ L h' m → News h₀ L h' ((t.d3, t.D3 w k3 e3 l') :: led') → Q (.ref x) { s with heap := h', toks := tk' }) ∧
  (kv % (t.n : Int) ≠ 0 → kv ≠ 1 → ∀ X Y Z T, Ed.Rp t.q t.a t.d t.P t.n kv X Y Z T → (0 ≤ X ∧ X < t.q) → (0 ≤ Y ∧ Y < t.q) → (0 ≤ Z ∧ Z < t.q) → (0 ≤ T ∧ T < t.q) → ∀ l' led', GTab t.q t.a t.d t.P t.n led' l' → (∀ p ∈ led, p ∈ led') → (∀ p ∈ led', p.1 ≠ t.d3) →
    RPe (.ref t.cx) (X, Y, Z, T) ov (.bool false) ((t.d3, t.D3 w k3 e3 l') :: led') w h₀ L m s Q)
/-- what a multiplication gives back, by its address: the neutral point, the point itself, or a new one -/
inductive ResU (w : World) (t : W3) (kv : Int) (x : Addr) (ov : Value) (led0 led1 : List (Addr × Obj)) (ra : Addr) : Prop
  | zero (h : kv % (t.n : Int) = 0) (e : ra = 347) (el : led1 = led0)
  | one (h : kv = 1) (e : ra = x) (el : led1 = led0)
  | new (h : kv % (t.n : Int) ≠ 0) (X Y Z T : Int) (d k l : Addr) (b1 b2 b3 b4 b5 v1 v2 v3 v4 : Tok) (hr : Ed.Rp t.q t.a t.d t.P t.n kv X Y Z T) (hX : 0 ≤ X ∧ X < t.q) (hY : 0 ≤ Y ∧ Y < t.q) (hZ : 0 ≤ Z ∧ Z < t.q) (hT : 0 ≤ T ∧ T < t.q)
    (g0 : (ra, instObj 343 d) ∈ led1) (g2 : (k, tup4 X v1 Y v2 Z v3 T v4) ∈ led1) (g1 : (d, dictOf (peE w b1 b2 b3 b4 b5 (.ref t.cx) (.ref k) ov (.bool false) (.ref l)) 5) ∈ led1) (g3 : ra ≠ d) (g4 : k ≠ d) (g5 : t.d3 ≠ d) (gd : ∀ p ∈ led0, p.1 ≠ d) (gs : ∀ p ∈ led0, p ∈ led1)
def RMulU (w : World) (t : W3) (k3 : Addr) (e3 : Tok) (kv : Int) (x : Addr) (ov : Value) (led : List (Addr × Obj)) (h₀ : Heap) (L : Addr) (m : Str → Option Value) (s : Shared) (Q : Value → Shared → Prop) : Prop :=
  ∀ ra l' led0 led1 h' tk', ResU w t kv x ov led0 led1 ra → GTab t.q t.a t.d t.P t.n led0 l' → (∀ p ∈ led, p ∈ led0) → (∀ p ∈ led0, p.1 ≠ t.d3) → (∀ p ∈ led1, p.1 ≠ t.d3) → Fr h₀ L h' m → News h₀ L h' ((t.d3, t.D3 w k3 e3 l') :: led1) → Q (.ref ra) { s with heap := h', toks := tk' }
theorem mulT_of {w : World} {t : W3} {k3 : Addr} {e3 : Tok} {kv : Int} {x : Addr} {ov : Value} {led : List (Addr × Obj)} {h₀ : Heap} {L : Addr} {m : Str → Option Value} {s : Shared} {Q : Value → Shared → Prop} (h : RMulU w t k3 e3 kv x ov led h₀ L m s Q) : RMulT w t k3 e3 kv x ov led h₀ L m s Q := by
  refine ⟨?_, ?_, ?_⟩
  · intro hk l' led' h' tk' hg hs n3 F N
    exact h _ l' led' led' h' tk' (.zero hk rfl rfl) hg hs n3 n3 F N
  · intro hk l' led' h' tk' hg hs n3 F N
    exact h _ l' led' led' h' tk' (.one hk rfl rfl) hg hs n3 n3 F N
  · intro hk _ X Y Z T hr hX hY hZ hT l' led' hg hs n3 z d l9 k b1 b2 b3 b4 b5 v1 v2 v3 v4 h' tk' F N o1 o2 o3 o4
    have r2 : @LT.lt Nat _ d z := o2
    have r3 : @LT.lt Nat _ z k := o3
    have r4 : @LT.lt Nat _ t.d3 d := o1 _ (.head _)
    have r5 : @LT.lt Nat _ d k := Nat.lt_trans r2 r3
    refine h z l' led' ((k, tup4 X v1 Y v2 Z v3 T v4) :: (z, instObj 343 d) :: (d, dictOf (peE w b1 b2 b3 b4 b5 (.ref t.cx) (.ref k) ov (.bool false) (.ref l9)) 5) :: led') h' tk' (.new hk X Y Z T d k l9 b1 b2 b3 b4 b5 v1 v2 v3 v4 hr hX hY hZ hT (.tail _ (.head _)) (.head _) (.tail _ (.tail _ (.head _))) (Nat.ne_of_gt r2) (Nat.ne_of_gt r5) (Nat.ne_of_lt r4) (fun p hp => Nat.ne_of_lt (o1 p (.tail _ hp))) (fun p hp => .tail _ (.tail _ (.tail _ hp)))) hg hs n3 ?_ F ?_
    · exact List.forall_mem_cons.mpr ⟨Nat.ne_of_gt (Nat.lt_trans r4 r5), List.forall_mem_cons.mpr ⟨Nat.ne_of_gt (Nat.lt_trans r4 r2), List.forall_mem_cons.mpr ⟨Nat.ne_of_gt r4, n3⟩⟩⟩
    · exact cb_drop N (List.forall_mem_cons.mpr ⟨.tail _ (.tail _ (.tail _ (.tail _ (.head _)))), List.forall_mem_cons.mpr ⟨.tail _ (.head _), List.forall_mem_cons.mpr ⟨.tail _ (.tail _ (.head _)), List.forall_mem_cons.mpr ⟨.tail _ (.tail _ (.tail _ (.head _))), fun _ hp => .tail _ (.tail _ (.tail _ (.tail _ (.tail _ hp))))⟩⟩⟩⟩)
variable {w : World} {mean : ExcName → Option Value} {mg mb : Str → Option Value}
theorem c_mulT {led : List (Addr × Obj)} {t : W3} {k3 l x : Addr} {e3 tk : Tok} {ov : Value} {kv : Int} (hc : Ed.Cx t.q t.a t.d t.P t.n) (hn9 : t.n ≤ 1000) (hkv : -1000000000000000000 ≤ kv ∧ kv ≤ 1000000000000000000) (hcu : CurveAt w t led) (hg : GTab t.q t.a t.d t.P t.n led l) (n3 : ∀ p ∈ led, p.1 ≠ t.d3) (ht : Told3 w t k3 led x ov) :
    SpC PR w (hd.heap_39 w.params) topProg LO mean mg mb 9 200 (.ref 340) [.ref x, .int kv tk] ((t.d3, t.D3 w k3 e3 l) :: led) (fun _ => True) (RMulU w t k3 e3 kv x ov led) := by
  refine hcu.get ?_
  intro cd c1 c2 c3 c4 c5 t1 t2 t3 m3 m4
  rcases ht with ⟨k, e, z, rfl, rfl, i1, i2, i3, hp⟩ | ⟨k, e, z, rfl, rfl, i1, i2, i3, hp⟩ | ⟨rfl, rfl, i1, hp⟩ <;> refine hp.get ?_ <;> intro X Y T u1 u2 u3 u4 mk hr hX hY hZ hT <;> intro dp un gd cn cs a ccd cl outer A₀ base h₀ L M s Q E B F X₀ N T₀ hk hd hu hpre hret <;> replace hret := mulT_of hret <;> unfold RMulT at hret
  · refine c_mulA hc hr hX hY hZ hT hn9 (.inl rfl) hkv (.tail _ i1) (.tail _ i2) (.tail _ mk) (.tail _ m3) (.tail _ m4) (.tail _ i3) dp un gd cn cs a ccd cl outer A₀ base h₀ L M s Q E B F X₀ N T₀ hk (by omega) (by omega) hpre ⟨?_, ?_, ?_⟩
    · exact fun h1 h' tk' F' N' => hret.1 h1 l led h' tk' hg (fun _ h => h) n3 F' N'
    · exact fun h1 h' tk' F' N' => hret.2.1 h1 l led h' tk' hg (fun _ h => h) n3 F' N'
    · exact fun h1 h2 X Y Z T hr hX hY hZ hT => hret.2.2 h1 h2 X Y Z T hr hX hY hZ hT l led hg (fun _ h => h) n3
  · refine c_mulA hc hr hX hY hZ hT hn9 (.inr ⟨_, rfl⟩) hkv (.tail _ i1) (.tail _ i2) (.tail _ mk) (.tail _ m3) (.tail _ m4) (.tail _ i3) dp un gd cn cs a ccd cl outer A₀ base h₀ L M s Q E B F X₀ N T₀ hk (by omega) (by omega) hpre ⟨?_, ?_, ?_⟩
    · exact fun h1 h' tk' F' N' => hret.1 h1 l led h' tk' hg (fun _ h => h) n3 F' N'
    · exact fun h1 h' tk' F' N' => hret.2.1 h1 l led h' tk' hg (fun _ h => h) n3 F' N'
    · exact fun h1 h2 X Y Z T hr hX hY hZ hT => hret.2.2 h1 h2 X Y Z T hr hX hY hZ hT l led hg (fun _ h => h) n3
  · refine c_mulG hc hr hX hY hZ hT hn9 n3 i1 mk m3 m4 hg dp un gd cn cs a ccd cl outer A₀ base h₀ L M s Q E B F X₀ N T₀ hk hd hu hpre ⟨?_, ?_, ?_⟩
    · exact fun h1 l' led' h' tk' hg' hs' n3' F' N' => hret.1 h1 l' led' h' tk' hg' hs' n3' F' N'
    · exact fun h1 h' tk' F' N' => hret.2.1 h1 l led h' tk' hg (fun _ h => h) n3 F' N'
    · exact fun h1 h2 X Y Z T hr hX hY hZ hT l' led' hg' hs' n3' => hret.2.2 h1 h2 X Y Z T hr hX hY hZ hT l' led' hg' hs' n3'
theorem c_rmulT {led : List (Addr × Obj)} {t : W3} {k3 l x : Addr} {e3 tk : Tok} {ov : Value} {kv : Int} (hc : Ed.Cx t.q t.a t.d t.P t.n) (hn9 : t.n ≤ 1000) (hkv : -1000000000000000000 ≤ kv ∧ kv ≤ 1000000000000000000) (hcu : CurveAt w t led) (hg : GTab t.q t.a t.d t.P t.n led l) (n3 : ∀ p ∈ led, p.1 ≠ t.d3) (ht : Told3 w t k3 led x ov) :
    Sp PR w (hd.heap_39 w.params) topProg LO mean mg mb 11 250 (call (.ref 326) [.ref x, .int kv tk]) ((t.d3, t.D3 w k3 e3 l) :: led) (fun _ => True) (RMulU w t k3 e3 kv x ov led) := by
  refine ht.get (e3 := e3) (l := l) ?_
  intro dx kx gx lx s1 s2 s3 s4 s5 m0 m1 _ _
  (try unfold PR LO); k_fill; w_top off
  unfold Sp
  intro dp un gd cn cs a ccd cl outer A₀ base h₀ L M s Q E B F X N T hk hd hu hpre hret
  try dsimp only at hpre
  refine wpAny_call ?_
  k_dflt cell_enter
  (repeat' (first | (k_unfold; (try dsimp only)) | ((with_reducible show wpAny _ _ (execs (List.cons _ _) _) _ _ (Shared.mk _ _ _ (HAdd.hAdd _ _) _)); (rename Fr _ _ _ _ => Fq); refine stm8 Fq ?_; clear Fq; intro tkq mq Fq; (try k_fold)) | with_reducible (k_here; (with_reducible show wpAny _ _ (PySem.call (Value.ref 340) _) _ _ _); refine Stop.of ?_) | with_reducible (k_here; (with_reducible show wpAny _ _ (PySem.call (Value.ref 361) _) _ _ _); k_dflt (refine' Sp.use (c_takeU ?q1 ?q2 ?q3 ?q4 ?q5 ?q6) ?k1 ?k2 ?k3 ?k4 ?k5 ?k6 ?k7 ?k8 ?k9 ?_; walk_at "use"; (case q5 => k_updF); (case q6 => (intro o9ᵣ; k_updF)); (case q1 => with_reducible assumption); (case q2 => omega); (case q3 => first | omega | decide); (case q4 => assumption)); unfold RTakeU; intro r9ᵣ tr9ᵣ at9ᵣ ta9ᵣ vs9ᵣ ns9ᵣ zs9ᵣ zc9ᵣ h9ᵣ tk9ᵣ hr91ᵣ hr92ᵣ hst9ᵣ F9ᵣ N9ᵣ; (try dsimp only at N9ᵣ ⊢); (try k_sweep); (try k_fold)) | with_reducible (k_here; (with_reducible show wpAny _ _ (PySem.call (Value.ref 21) _) _ _ _); k_dflt (refine' Sp.use (c_inv ?q1 ?q2 ?q3 ?q4) ?k1 ?k2 ?k3 ?k4 ?k5 ?k6 ?k7 ?k8 ?k9 ?_; walk_at "use"; (case q1 => assumption); (case q2 => assumption); (case q3 => omega); (case q4 => omega)); unfold RInv; intro i9ᵣ t9ᵣ h9ᵣ tk9ᵣ hi1ᵣ hi2ᵣ hi3ᵣ F9ᵣ N9ᵣ; (try dsimp only); (try k_sweep); (try k_fold)) | with_reducible (k_here; (with_reducible show wpAny _ _ (PySem.call (Value.ref 71) _) _ _ _); k_dflt (refine' Sp.use (c_ed_a ?q1 ?q2 ?q3) ?k1 ?k2 ?k3 ?k4 ?k5 ?k6 ?k7 ?k8 ?k9 ?_; walk_at "use"; (case q2 => k_dflt k_mem); (case q3 => k_dflt k_mem); (case q1 => k_dflt (exact ⟨rfl, rfl, rfl⟩))); unfold RV; intro h9ᵣ tk9ᵣ F9ᵣ N9ᵣ; (try dsimp only); (try k_sweep); (try k_fold)) | with_reducible (k_here; (with_reducible show wpAny _ _ (PySem.call (Value.ref 64) _) _ _ _); k_dflt (refine' Sp.use (c_ed_p ?q1 ?q2 ?q3) ?k1 ?k2 ?k3 ?k4 ?k5 ?k6 ?k7 ?k8 ?k9 ?_; walk_at "use"; (case q2 => k_dflt k_mem); (case q3 => k_dflt k_mem); (case q1 => k_dflt (exact ⟨rfl, rfl, rfl⟩))); unfold RV; intro h9ᵣ tk9ᵣ F9ᵣ N9ᵣ; (try dsimp only); (try k_sweep); (try k_fold)) | with_reducible (k_here; (with_reducible show wpAny _ _ (call (Value.builtin "len") [Value.ref _]) _ _ _); k_dflt (refine' kst_len ?q1 ?q2 ?q3 ?q4 ?_; (case q1 => k_asm); (case q2 => k_mem); (case q3 => assumption); (case q4 => omega))) | with_reducible (k_here; (with_reducible show wpAny _ _ (exec (Stmt.For _ _ _ _ _) _) _ _ _); (rename Fr _ _ _ _ => lF'); (with_unfolding_all refine' For_invVF lF' ?k1 ?k2 ?_; (case k1 => exact rfl); (case k2 => exact rfl); k_whole)) | with_reducible (k_here; (with_reducible show wpAny _ _ (subscriptTail _ _ (Value.ref _) (Value.int _ _)) _ _ _); k_dflt (refine' item_tupleT ?t ?a ?b ?c ?d ?_; (case t => exact News.isTup (by k_asm) (by k_mem)); (case a => decide); (case b => decide); (case c => rfl); (case d => rfl); k_whole)) | with_reducible (k_here; (with_reducible show wpAny _ _ (PySem.pyIter (Value.ref _)) _ _ _); refine Stop.of ?_) | walk1 | (dsimp only; walk1) | fail "no step"))
  refine Stop.to ?_
  k_dflt (refine' Sp.use (SpC.sp (c_mulT hc hn9 hkv hcu hg n3 ht)) ?k1 ?k2 ?k3 ?k4 ?k5 ?k6 ?k7 ?k8 ?k9 ?_; walk_at "use")
  intro ra l' led0 led1 h' tk' hres hg' hs' n3' n31' F' N'
  dsimp only [PySem.W.CmpBack]
  (repeat' (first | (k_unfold; (try dsimp only)) | ((with_reducible show wpAny _ _ (execs (List.cons _ _) _) _ _ (Shared.mk _ _ _ (HAdd.hAdd _ _) _)); (rename Fr _ _ _ _ => Fq); refine stm8 Fq ?_; clear Fq; intro tkq mq Fq; (try k_fold)) | with_reducible (k_here; (with_reducible show wpAny _ _ (PySem.call (Value.ref 340) _) _ _ _); refine Stop.of ?_) | with_reducible (k_here; (with_reducible show wpAny _ _ (PySem.call (Value.ref 361) _) _ _ _); k_dflt (refine' Sp.use (c_takeU ?q1 ?q2 ?q3 ?q4 ?q5 ?q6) ?k1 ?k2 ?k3 ?k4 ?k5 ?k6 ?k7 ?k8 ?k9 ?_; walk_at "use"; (case q5 => k_updF); (case q6 => (intro o9ᵣ; k_updF)); (case q1 => with_reducible assumption); (case q2 => omega); (case q3 => first | omega | decide); (case q4 => assumption)); unfold RTakeU; intro r9ᵣ tr9ᵣ at9ᵣ ta9ᵣ vs9ᵣ ns9ᵣ zs9ᵣ zc9ᵣ h9ᵣ tk9ᵣ hr91ᵣ hr92ᵣ hst9ᵣ F9ᵣ N9ᵣ; (try dsimp only at N9ᵣ ⊢); (try k_sweep); (try k_fold)) | with_reducible (k_here; (with_reducible show wpAny _ _ (PySem.call (Value.ref 21) _) _ _ _); k_dflt (refine' Sp.use (c_inv ?q1 ?q2 ?q3 ?q4) ?k1 ?k2 ?k3 ?k4 ?k5 ?k6 ?k7 ?k8 ?k9 ?_; walk_at "use"; (case q1 => assumption); (case q2 => assumption); (case q3 => omega); (case q4 => omega)); unfold RInv; intro i9ᵣ t9ᵣ h9ᵣ tk9ᵣ hi1ᵣ hi2ᵣ hi3ᵣ F9ᵣ N9ᵣ; (try dsimp only); (try k_sweep); (try k_fold)) | with_reducible (k_here; (with_reducible show wpAny _ _ (PySem.call (Value.ref 71) _) _ _ _); k_dflt (refine' Sp.use (c_ed_a ?q1 ?q2 ?q3) ?k1 ?k2 ?k3 ?k4 ?k5 ?k6 ?k7 ?k8 ?k9 ?_; walk_at "use"; (case q2 => k_dflt k_mem); (case q3 => k_dflt k_mem); (case q1 => k_dflt (exact ⟨rfl, rfl, rfl⟩))); unfold RV; intro h9ᵣ tk9ᵣ F9ᵣ N9ᵣ; (try dsimp only); (try k_sweep); (try k_fold)) | with_reducible (k_here; (with_reducible show wpAny _ _ (PySem.call (Value.ref 64) _) _ _ _); k_dflt (refine' Sp.use (c_ed_p ?q1 ?q2 ?q3) ?k1 ?k2 ?k3 ?k4 ?k5 ?k6 ?k7 ?k8 ?k9 ?_; walk_at "use"; (case q2 => k_dflt k_mem); (case q3 => k_dflt k_mem); (case q1 => k_dflt (exact ⟨rfl, rfl, rfl⟩))); unfold RV; intro h9ᵣ tk9ᵣ F9ᵣ N9ᵣ; (try dsimp only); (try k_sweep); (try k_fold)) | with_reducible (k_here; (with_reducible show wpAny _ _ (call (Value.builtin "len") [Value.ref _]) _ _ _); k_dflt (refine' kst_len ?q1 ?q2 ?q3 ?q4 ?_; (case q1 => k_asm); (case q2 => k_mem); (case q3 => assumption); (case q4 => omega))) | with_reducible (k_here; (with_reducible show wpAny _ _ (exec (Stmt.For _ _ _ _ _) _) _ _ _); (rename Fr _ _ _ _ => lF'); (with_unfolding_all refine' For_invVF lF' ?k1 ?k2 ?_; (case k1 => exact rfl); (case k2 => exact rfl); k_whole)) | with_reducible (k_here; (with_reducible show wpAny _ _ (subscriptTail _ _ (Value.ref _) (Value.int _ _)) _ _ _); k_dflt (refine' item_tupleT ?t ?a ?b ?c ?d ?_; (case t => exact News.isTup (by k_asm) (by k_mem)); (case a => decide); (case b => decide); (case c => rfl); (case d => rfl); k_whole)) | with_reducible (k_here; (with_reducible show wpAny _ _ (PySem.pyIter (Value.ref _)) _ _ _); refine Stop.of ?_) | walk1 | (dsimp only; walk1) | fail "no step"))
  exact hret ra l' led0 led1 _ _ hres hg' hs' n3' n31' (by k_asm) (by k_asm)
end
-- L05o
section
/-- entries brought to the front; what is no such object stays -/
theorem frontO {G : Prop} {h₀ h : Heap} {L : Addr} {led : List (Addr × Obj)} (as : List (Addr × Obj)) (N : News h₀ L h led) (has : ∀ p ∈ as, p ∈ led)
    (k : ∀ led', News h₀ L h (as ++ led') → (∀ a ∈ as, ∀ p ∈ led', p.1 ≠ a.1) → (∀ p ∈ led', p ∈ led) → (∀ p ∈ led, (∀ a ∈ as, p.1 ≠ a.1) → p ∈ led') → (∀ p ∈ led, (∀ a ∈ as, p.2 ≠ a.2) → p ∈ led') → G) : G := by
  have mk : ∀ p ∈ led, (∀ a ∈ as, p.1 ≠ a.1) → p ∈ led.filter fun q => as.all fun a => q.1 != a.1 := fun p hp h => List.mem_filter.mpr ⟨hp, by simp only [List.all_eq_true, bne_iff_ne]; exact h⟩
  have out : ∀ p ∈ led.filter (fun q => as.all fun a => q.1 != a.1), p ∈ led ∧ ∀ a ∈ as, p.1 ≠ a.1 := fun p hp => by
    have h := List.mem_filter.mp hp
    simp only [List.all_eq_true, bne_iff_ne] at h
    exact h
  refine k (led.filter fun q => as.all fun a => q.1 != a.1) (fun p hp => ?_) (fun a ha p hp => (out p hp).2 a ha) (fun p hp => (out p hp).1) mk (fun p hp hc => mk p hp fun a ha e => hc a ha ?_)
  · rcases List.mem_append.mp hp with h | h
    · exact N _ (has p h)
    · exact N _ (out p h).1
  · have h1 := (N p hp).1
    have h2 := (N a (has a ha)).1
    rw [e] at h1
    exact Option.some.inj (h1.symm.trans h2)
/-- what the table is not made of -/
def Alien (o : Obj) : Prop := o.cls = .type "list_iterator" ∨ o.cls = .type "range_iterator" ∨ o.cls = .type "dict" ∨ ∃ x t rest z, o = W.listOf (Value.int x t :: rest).toArray z
theorem GTab.monoA {q : Nat} {a dv : Int} {P : Int × Int} {n : Nat} {led led' : List (Addr × Obj)} {l : Addr} (hs : ∀ p ∈ led, ¬ Alien p.2 → p ∈ led') : GTab q a dv P n led l → GTab q a dv P n led' l
  | .inl ⟨z, h⟩ => .inl ⟨z, hs _ h (by
      rintro (h | h | h | ⟨x, t, r, z', h⟩)
      · simp at h
      · simp at h
      · simp at h
      · simp at h)⟩
  | .inr ⟨vs, z, h, ht, h1, h2, h3⟩ => .inr ⟨vs, z, hs _ h (by
      rintro (h | h | h | ⟨x, t, r, z', h⟩)
      · simp at h
      · simp at h
      · simp at h
      · obtain ⟨r0, _, _, _, e, _⟩ := ht 0 _ (List.getElem?_eq_getElem (by omega))
        have e2 : vs = Value.int x t :: r := by
          injection h with _ _ h4
          injection h4 with h5
          simpa using congrArg Array.toList h5
        rw [List.getElem_of_eq e2] at e
        simp at e), fun i v hv => by
      obtain ⟨r, t, u, x, e, hm⟩ := ht i v hv
      refine ⟨r, t, u, x, e, hs _ hm ?_⟩
      rintro (h | h | h | ⟨x, t, r, z', h⟩)
      · simp at h
      · simp at h
      · simp at h
      · have := congrArg Obj.cls h
        simp at this, h1, h2, h3⟩
theorem alien_st {at0 : Int} {ta : Tok} {C : Addr} {zs : Nat} : Alien (stO at0 ta C zs) := .inr (.inr (.inr ⟨at0, ta, [.ref C], zs, rfl⟩))
theorem alien_cells {vs : List Value} {ns : List Int} {at0 A : Int} {z : Nat} (h : StI vs ns at0 A) : Alien (W.listOf vs.toArray z) := by
  have h1 := h.ln.1
  have h2 := h.is
  cases h2 with
  | nil => simp at h1
  | cons n t _ => exact .inr (.inr (.inr ⟨n, t, _, z, rfl⟩))
theorem PtZ.monoI {t : W3} {b : Prop} {led led' : List (Addr × Obj)} {k : Addr} (hs : ∀ p ∈ led, p.2.cls = .type "tuple" → p ∈ led') (h : PtZ t b led k) : PtZ t b led' k := by
  obtain ⟨X, Y, Z, T, u1, u2, u3, u4, hm, h1, h2, h3, h4, h5, h6⟩ := h
  exact ⟨X, Y, Z, T, u1, u2, u3, u4, hs _ hm rfl, h1, h2, h3, h4, h5, h6⟩
theorem ne_ov {prog : Program} {w : World} {A : Around} {E : Value → Shared → Prop} {s : Shared} {ov : Value} {Q : Value → Shared → Prop} (h : OvOk ov) (q : Q (.bool false) s) : wpAny (model prog w) A (compareOp .NotEq ov ov) Q E s := by
  rcases h with rfl | ⟨n, t, rfl⟩
  · exact PySem.EqNone.ne_none_none q
  · exact PyProof.Rows.ne_int (by simpa using q)
variable {w : World} {mean : ExcName → Option Value} {mg mb : Str → Option Value}
theorem c_lsc3I {led0 : List (Addr × Obj)} {c : C3} {i : Nat} {v : Value} {l3 r I : Addr} {it : Obj} {tt r1 r2 : Tok} {t : W3} (hc : Ed.Cx t.q t.a t.d t.P t.n) (hcu : CurveAt w t led0) (m1 : (t.x1, instObj 343 t.d1) ∈ led0) (m2 : (t.x2, instObj 343 t.d2) ∈ led0) (m3 : (t.x3, instObj 343 t.d3) ∈ led0)
    (h12 : t.d1 ≠ t.d2) (h13 : t.d1 ≠ t.d3) (h23 : t.d2 ≠ t.d3) (m5 : (r, tup2 (Ed.zM t.q t.a t.d t.P t.n 1).1 r1 (Ed.zM t.q t.a t.d t.P t.n 1).2 r2) ∈ led0) (hv : [Value.ref t.x1, Value.ref t.x2, Value.ref t.x3][i]? = some v) (hI : Inv3 w t led0 i c)
    (hit : it.cls = .type "list_iterator") (hne : ∀ p ∈ Led3 w t l3 c, p.1 ≠ I) :
    Sp PR w (hd.heap_39 w.params) topProg LO mean mg mb 8 150 (call (.ref 429) [v, .ref r, .int (t.q : Int) tt]) ((I, it) :: Led3 w t l3 c) (fun _ => True)
      (fun h₀ L m s Q => ∀ c' h' tk', Inv3 w t led0 (i + 1) c' → (∀ p ∈ Led3 w t l3 c', p.1 ≠ I) → Fr h₀ L h' m → News h₀ L h' ((I, it) :: Led3 w t l3 c') → Q (.bool true) { s with heap := h', toks := tk' }) := by
  intro dp un gd cn cs a ccd cl outer A₀ base h₀ L M s Q E B F X₀ N T₀ hk hd hu hpre hret
  have q1 := hne _ (.head _)
  have q2 := hne _ (.tail _ (.head _))
  have q3 := hne _ (.tail _ (.tail _ (.head _)))
  have q4 : ∀ p ∈ c.led, p.1 ≠ I := fun p hp => hne p (.tail _ (.tail _ (.tail _ hp)))
  have hI2 : Inv3 w t ((I, it) :: led0) i { c with led := (I, it) :: c.led } :=
    ⟨hI.p1.mono (fun _ h => .tail _ h) id, hI.p2.mono (fun _ h => .tail _ h) id, hI.p3.mono (fun _ h => .tail _ h) id, List.forall_mem_cons.mpr ⟨.head _, fun p hp => .tail _ (hI.sub p hp)⟩, List.forall_mem_cons.mpr ⟨fun e => q1 e.symm, hI.n1⟩, List.forall_mem_cons.mpr ⟨fun e => q2 e.symm, hI.n2⟩, List.forall_mem_cons.mpr ⟨fun e => q3 e.symm, hI.n3⟩⟩
  refine (c_lsc3 (l3 := l3) hc (hcu.mono fun _ h => .tail _ h) (.tail _ m1) (.tail _ m2) (.tail _ m3) h12 h13 h23 (.tail _ m5) hv hI2).use B F X₀ ?_ T₀ hk hd hu hpre ?_
  · exact cb_drop N (List.forall_mem_cons.mpr ⟨.tail _ (.head _), List.forall_mem_cons.mpr ⟨.tail _ (.tail _ (.head _)), List.forall_mem_cons.mpr ⟨.tail _ (.tail _ (.tail _ (.head _))), List.forall_mem_cons.mpr ⟨.head _, fun p hp => .tail _ (.tail _ (.tail _ (.tail _ hp)))⟩⟩⟩⟩)
  intro c' h' tk' hI' F' N'
  have mI := hI'.sub _ (.head _)
  refine frontO [(I, it)] N' (List.forall_mem_cons.mpr ⟨.tail _ (.tail _ (.tail _ mI)), List.forall_mem_nil _⟩) ?_
  intro led8 N8 hne8 hsub8 hA8 hO8
  have key : ∀ p ∈ c'.led, p.1 ≠ I → p ∈ c'.led.filter fun q => q.1 != I := fun p hp h => List.mem_filter.mpr ⟨hp, by simpa using h⟩
  have keyT : ∀ p ∈ c'.led, p.2.cls = .type "tuple" → p ∈ c'.led.filter fun q => q.1 != I := fun p hp h => key p hp fun e => by
    have g1 := (N' p (.tail _ (.tail _ (.tail _ hp)))).1
    have g2 := (N' (I, it) (.tail _ (.tail _ (.tail _ mI)))).1
    rw [e] at g1
    have g3 : p.2 = it := Option.some.inj (g1.symm.trans g2)
    rw [g3, hit] at h
    simp at h
  have sub : ∀ p ∈ c'.led.filter (fun q => q.1 != I), p ∈ c'.led := fun p hp => (List.mem_filter.mp hp).1
  refine hret { c' with led := c'.led.filter fun q => q.1 != I } h' tk' ⟨hI'.p1.monoI keyT, hI'.p2.monoI keyT, hI'.p3.monoI keyT, fun p hp => key p (hI'.sub _ (.tail _ hp)) (q4 p (hI.sub p hp)), fun p hp => hI'.n1 p (sub p hp), fun p hp => hI'.n2 p (sub p hp), fun p hp => hI'.n3 p (sub p hp)⟩ ?_ F' ?_
  · exact List.forall_mem_cons.mpr ⟨q1, List.forall_mem_cons.mpr ⟨q2, List.forall_mem_cons.mpr ⟨q3, fun p hp => by simpa using (List.mem_filter.mp hp).2⟩⟩⟩
  · exact cb_drop N' (List.forall_mem_cons.mpr ⟨.tail _ (.tail _ (.tail _ mI)), List.forall_mem_cons.mpr ⟨.head _, List.forall_mem_cons.mpr ⟨.tail _ (.head _), List.forall_mem_cons.mpr ⟨.tail _ (.tail _ (.head _)), fun p hp => .tail _ (.tail _ (.tail _ (sub p hp)))⟩⟩⟩⟩)
/-- the law's world behind the three points -/
theorem world3 {G : Prop} {h₀ h : Heap} {L S C lT cx cd x1 x2 x3 d1 d2 d3 k1 k2 k3 l1 l2 l3 : Addr} {oS oC oT : Obj} {a1 a2 a3 a4 a5 b1 b2 b3 b4 b5 c1 c2 c3 c4 c5 p1 p2 p3 p4 p5 p6 p7 p8 p9 p10 p11 p12 tn e1 e2 e3 e4 e5 u1 u2 u3 : Tok} {q n : Nat} {av dv Z1 Z2 Z3 : Int} {P : Int × Int} {led : List (Addr × Obj)} (hc : Ed.Cx q av dv P n)
    (N : News h₀ L h ((l3, W.listOf #[] 0) :: (k3, tup4 ((P.1 * Z3).fmod q) p9 ((P.2 * Z3).fmod q) p10 Z3 p11 ((P.1 * P.2 * Z3).fmod q) p12) :: (x3, instObj 343 d3) :: (d3, dictOf (peE w c1 c2 c3 c4 c5 (.ref cx) (.ref k3) (.int n tn) (.bool true) (.ref l3)) 5) :: (S, oS) :: (C, oC) :: (lT, oT) ::
      (l2, W.listOf #[] 0) :: (k2, tup4 ((P.1 * Z2).fmod q) p5 ((P.2 * Z2).fmod q) p6 Z2 p7 ((P.1 * P.2 * Z2).fmod q) p8) :: (x2, instObj 343 d2) :: (d2, dictOf (peE w b1 b2 b3 b4 b5 (.ref cx) (.ref k2) (.int n tn) (.bool false) (.ref l2)) 5) ::
      (l1, W.listOf #[] 0) :: (k1, tup4 ((P.1 * Z1).fmod q) p1 ((P.2 * Z1).fmod q) p2 Z1 p3 ((P.1 * P.2 * Z1).fmod q) p4) :: (x1, instObj 343 d1) :: (d1, dictOf (peE w a1 a2 a3 a4 a5 (.ref cx) (.ref k1) .none (.bool false) (.ref l1)) 5) :: led))
    (m3 : (cx, instObj 88 cd) ∈ led) (m4 : (cd, dictOf (edE w e1 e2 e3 e4 e5 (.int q u1) (.int av u2) (.int dv u3) .none .none) 5) ∈ led)
    (z1 : 0 < Z1 ∧ Z1 < q) (z2 : 0 < Z2 ∧ Z2 < q) (z3 : 0 < Z3 ∧ Z3 < q)
    (f0 : ∀ p ∈ led, p.1 < d1) (f1 : @LT.lt Nat _ S d1) (f2 : @LT.lt Nat _ C d1) (f3 : @LT.lt Nat _ d1 x1) (f4 : @LT.lt Nat _ x1 k1) (f5 : @LT.lt Nat _ k1 l1) (g1 : @LT.lt Nat _ l1 d2) (g3 : @LT.lt Nat _ d2 x2) (g4 : @LT.lt Nat _ x2 k2) (g5 : @LT.lt Nat _ k2 l2) (t3 : @LT.lt Nat _ l2 lT) (i1 : @LT.lt Nat _ lT d3) (i2 : @LT.lt Nat _ d3 x3) (i3 : @LT.lt Nat _ x3 k3) (i4 : @LT.lt Nat _ k3 l3)
    (k : ∀ (t : W3) (c0 : C3), t.q = q → t.a = av → t.d = dv → t.P = P → t.n = n → t.x1 = x1 → t.x2 = x2 → t.x3 = x3 → Ed.Cx t.q t.a t.d t.P t.n → CurveAt w t c0.led → (x1, instObj 343 t.d1) ∈ c0.led → (x2, instObj 343 t.d2) ∈ c0.led → (x3, instObj 343 t.d3) ∈ c0.led → t.d1 ≠ t.d2 → t.d1 ≠ t.d3 → t.d2 ≠ t.d3 →
      News h₀ L h (Led3 w t l3 c0) → Inv3 w t c0.led 0 c0 → (S, oS) ∈ c0.led → (C, oC) ∈ c0.led → (lT, oT) ∈ c0.led → (t.l1, W.listOf #[] 0) ∈ c0.led → (t.l2, W.listOf #[] 0) ∈ c0.led → (l3, W.listOf #[] 0) ∈ c0.led → (∀ p ∈ led, p ∈ c0.led) → G) : G := by
  obtain ⟨hb1, hb2⟩ := Ed.primes_int hc.cv.pr
  have fm := fun x => Ed.fm_bd (show (0 : Int) < q by omega) x
  let led0 := (S, oS) :: (C, oC) :: (lT, oT) :: (l3, W.listOf #[] 0) :: (k3, tup4 ((P.1 * Z3).fmod q) p9 ((P.2 * Z3).fmod q) p10 Z3 p11 ((P.1 * P.2 * Z3).fmod q) p12) :: (x3, instObj 343 d3) :: (l2, W.listOf #[] 0) :: (k2, tup4 ((P.1 * Z2).fmod q) p5 ((P.2 * Z2).fmod q) p6 Z2 p7 ((P.1 * P.2 * Z2).fmod q) p8) :: (x2, instObj 343 d2) :: (l1, W.listOf #[] 0) :: (k1, tup4 ((P.1 * Z1).fmod q) p1 ((P.2 * Z1).fmod q) p2 Z1 p3 ((P.1 * P.2 * Z1).fmod q) p4) :: (x1, instObj 343 d1) :: led
  have hsub : ∀ p ∈ led, p ∈ led0 := fun p hp => by repeat (first | exact hp | apply List.mem_cons_of_mem)
  have ord : ∀ b : Nat, (∀ p ∈ led, p.1 ≠ b) → @Ne Nat S b → @Ne Nat C b → @Ne Nat lT b → @Ne Nat l3 b → @Ne Nat k3 b → @Ne Nat x3 b → @Ne Nat l2 b → @Ne Nat k2 b → @Ne Nat x2 b → @Ne Nat l1 b → @Ne Nat k1 b → @Ne Nat x1 b → ∀ p ∈ led0, p.1 ≠ b := fun b h0 h1 h2 h3 h4 h5 h6 h7 h8 h9 h10 h11 h12 =>
    List.forall_mem_cons.mpr ⟨h1, List.forall_mem_cons.mpr ⟨h2, List.forall_mem_cons.mpr ⟨h3, List.forall_mem_cons.mpr ⟨h4, List.forall_mem_cons.mpr ⟨h5, List.forall_mem_cons.mpr ⟨h6, List.forall_mem_cons.mpr ⟨h7, List.forall_mem_cons.mpr ⟨h8, List.forall_mem_cons.mpr ⟨h9, List.forall_mem_cons.mpr ⟨h10, List.forall_mem_cons.mpr ⟨h11, List.forall_mem_cons.mpr ⟨h12, h0⟩⟩⟩⟩⟩⟩⟩⟩⟩⟩⟩⟩
  have o_d1_k1 : @LT.lt Nat _ d1 k1 := Nat.lt_trans f3 f4
  have o_d1_l1 : @LT.lt Nat _ d1 l1 := Nat.lt_trans o_d1_k1 f5
  have o_d1_d2 : @LT.lt Nat _ d1 d2 := Nat.lt_trans o_d1_l1 g1
  have o_d1_x2 : @LT.lt Nat _ d1 x2 := Nat.lt_trans o_d1_d2 g3
  have o_d1_k2 : @LT.lt Nat _ d1 k2 := Nat.lt_trans o_d1_x2 g4
  have o_d1_l2 : @LT.lt Nat _ d1 l2 := Nat.lt_trans o_d1_k2 g5
  have o_d1_lT : @LT.lt Nat _ d1 lT := Nat.lt_trans o_d1_l2 t3
  have o_d1_d3 : @LT.lt Nat _ d1 d3 := Nat.lt_trans o_d1_lT i1
  have o_d1_x3 : @LT.lt Nat _ d1 x3 := Nat.lt_trans o_d1_d3 i2
  have o_d1_k3 : @LT.lt Nat _ d1 k3 := Nat.lt_trans o_d1_x3 i3
  have o_d1_l3 : @LT.lt Nat _ d1 l3 := Nat.lt_trans o_d1_k3 i4
  have o_d2_k2 : @LT.lt Nat _ d2 k2 := Nat.lt_trans g3 g4
  have o_d2_l2 : @LT.lt Nat _ d2 l2 := Nat.lt_trans o_d2_k2 g5
  have o_d2_lT : @LT.lt Nat _ d2 lT := Nat.lt_trans o_d2_l2 t3
  have o_d2_d3 : @LT.lt Nat _ d2 d3 := Nat.lt_trans o_d2_lT i1
  have o_d2_x3 : @LT.lt Nat _ d2 x3 := Nat.lt_trans o_d2_d3 i2
  have o_d2_k3 : @LT.lt Nat _ d2 k3 := Nat.lt_trans o_d2_x3 i3
  have o_d2_l3 : @LT.lt Nat _ d2 l3 := Nat.lt_trans o_d2_k3 i4
  have o_k1_d2 : @LT.lt Nat _ k1 d2 := Nat.lt_trans f5 g1
  have o_x1_d2 : @LT.lt Nat _ x1 d2 := Nat.lt_trans f4 o_k1_d2
  have o_S_d2 : @LT.lt Nat _ S d2 := Nat.lt_trans f1 o_d1_d2
  have o_C_d2 : @LT.lt Nat _ C d2 := Nat.lt_trans f2 o_d1_d2
  have o_d3_k3 : @LT.lt Nat _ d3 k3 := Nat.lt_trans i2 i3
  have o_d3_l3 : @LT.lt Nat _ d3 l3 := Nat.lt_trans o_d3_k3 i4
  have o_l2_d3 : @LT.lt Nat _ l2 d3 := Nat.lt_trans t3 i1
  have o_k2_d3 : @LT.lt Nat _ k2 d3 := Nat.lt_trans g5 o_l2_d3
  have o_x2_d3 : @LT.lt Nat _ x2 d3 := Nat.lt_trans g4 o_k2_d3
  have o_l1_d3 : @LT.lt Nat _ l1 d3 := Nat.lt_trans g1 o_d2_d3
  have o_k1_d3 : @LT.lt Nat _ k1 d3 := Nat.lt_trans f5 o_l1_d3
  have o_x1_d3 : @LT.lt Nat _ x1 d3 := Nat.lt_trans f4 o_k1_d3
  have o_S_d3 : @LT.lt Nat _ S d3 := Nat.lt_trans f1 o_d1_d3
  have o_C_d3 : @LT.lt Nat _ C d3 := Nat.lt_trans f2 o_d1_d3
  refine k ⟨q, n, av, dv, P, cx, x1, x2, x3, d1, d2, d3, l1, l2, a1, a3, a4, a5, b1, b3, b4, b5, c1, c3, c4, c5, tn, tn⟩ ⟨k1, a2, k2, b2, k3, c2, led0⟩ rfl rfl rfl rfl rfl rfl rfl rfl hc ⟨cd, e1, e2, e3, e4, e5, u1, u2, u3, hsub _ m3, hsub _ m4⟩ (by k_dflt k_mem) (by k_dflt k_mem) (by k_dflt k_mem) (Nat.ne_of_lt o_d1_d2) (Nat.ne_of_lt o_d1_d3) (Nat.ne_of_lt o_d2_d3) (cb_drop N ?_) ⟨?_, ?_, ?_, fun _ h => h, ?_, ?_, ?_⟩ (by k_dflt k_mem) (by k_dflt k_mem) (by k_dflt k_mem) (by k_dflt k_mem) (by k_dflt k_mem) (by k_dflt k_mem) hsub
  · refine List.forall_mem_cons.mpr ⟨by k_dflt k_mem, List.forall_mem_cons.mpr ⟨by k_dflt k_mem, List.forall_mem_cons.mpr ⟨by k_dflt k_mem, ?_⟩⟩⟩
    refine List.forall_mem_cons.mpr ⟨by k_dflt k_mem, List.forall_mem_cons.mpr ⟨by k_dflt k_mem, List.forall_mem_cons.mpr ⟨by k_dflt k_mem, List.forall_mem_cons.mpr ⟨.head _, List.forall_mem_cons.mpr ⟨by k_dflt k_mem, List.forall_mem_cons.mpr ⟨by k_dflt k_mem, ?_⟩⟩⟩⟩⟩⟩
    refine List.forall_mem_cons.mpr ⟨by k_dflt k_mem, List.forall_mem_cons.mpr ⟨by k_dflt k_mem, List.forall_mem_cons.mpr ⟨by k_dflt k_mem, List.forall_mem_cons.mpr ⟨by k_dflt k_mem, List.forall_mem_cons.mpr ⟨by k_dflt k_mem, List.forall_mem_cons.mpr ⟨by k_dflt k_mem, fun p hp => by repeat (first | exact hp | apply List.mem_cons_of_mem)⟩⟩⟩⟩⟩⟩
  · exact ⟨_, _, _, _, _, _, _, _, by k_dflt k_mem, Ed.rp_ext hc z1.1 z1.2, fm _, fm _, ⟨Int.le_of_lt z1.1, z1.2⟩, fm _, fun h => by omega⟩
  · exact ⟨_, _, _, _, _, _, _, _, by k_dflt k_mem, Ed.rp_ext hc z2.1 z2.2, fm _, fm _, ⟨Int.le_of_lt z2.1, z2.2⟩, fm _, fun h => by omega⟩
  · exact ⟨_, _, _, _, _, _, _, _, by k_dflt k_mem, Ed.rp_ext hc z3.1 z3.2, fm _, fm _, ⟨Int.le_of_lt z3.1, z3.2⟩, fm _, fun h => by omega⟩
  · exact ord d1 (fun p hp => Nat.ne_of_lt (f0 p hp)) (Nat.ne_of_lt f1) (Nat.ne_of_lt f2) (Nat.ne_of_gt o_d1_lT) (Nat.ne_of_gt o_d1_l3) (Nat.ne_of_gt o_d1_k3) (Nat.ne_of_gt o_d1_x3) (Nat.ne_of_gt o_d1_l2) (Nat.ne_of_gt o_d1_k2) (Nat.ne_of_gt o_d1_x2) (Nat.ne_of_gt o_d1_l1) (Nat.ne_of_gt o_d1_k1) (Nat.ne_of_gt f3)
  · exact ord d2 (fun p hp => Nat.ne_of_lt (Nat.lt_trans (f0 p hp) o_d1_d2)) (Nat.ne_of_lt o_S_d2) (Nat.ne_of_lt o_C_d2) (Nat.ne_of_gt o_d2_lT) (Nat.ne_of_gt o_d2_l3) (Nat.ne_of_gt o_d2_k3) (Nat.ne_of_gt o_d2_x3) (Nat.ne_of_gt o_d2_l2) (Nat.ne_of_gt o_d2_k2) (Nat.ne_of_gt g3) (Nat.ne_of_lt g1) (Nat.ne_of_lt o_k1_d2) (Nat.ne_of_lt o_x1_d2)
  · exact ord d3 (fun p hp => Nat.ne_of_lt (Nat.lt_trans (f0 p hp) o_d1_d3)) (Nat.ne_of_lt o_S_d3) (Nat.ne_of_lt o_C_d3) (Nat.ne_of_lt i1) (Nat.ne_of_gt o_d3_l3) (Nat.ne_of_gt o_d3_k3) (Nat.ne_of_gt i2) (Nat.ne_of_lt o_l2_d3) (Nat.ne_of_lt o_k2_d3) (Nat.ne_of_lt o_x2_d3) (Nat.ne_of_lt o_l1_d3) (Nat.ne_of_lt o_k1_d3) (Nat.ne_of_lt o_x1_d3)
/-- what stays throughout the law's last loop -/
structure BaseF (w : World) (t : W3) (k3 lT lR : Addr) (zT zR : Nat) (vs : List Value) (B : List (Addr × Obj)) : Prop where
  t1 : Told3 w t k3 B t.x1 .none
  t2 : Told3 w t k3 B t.x2 (.int t.n t.tb)
  t3 : Told3 w t k3 B t.x3 (.int t.n t.tg)
  cu : CurveAt w t B
  mT : (lT, W.listOf [Value.ref t.x1, Value.ref t.x2, Value.ref t.x3].toArray zT) ∈ B
  mR : (lR, W.listOf vs.toArray zR) ∈ B
  rw : RowsAre t.q t.a t.d t.P B vs
  tab : (161, tabObj #[]) ∈ B
theorem BaseF.mono {w : World} {t : W3} {k3 lT lR : Addr} {zT zR : Nat} {vs : List Value} {B B' : List (Addr × Obj)} (hs : ∀ p ∈ B, p ∈ B') (h : BaseF w t k3 lT lR zT zR vs B) : BaseF w t k3 lT lR zT zR vs B' :=
  ⟨h.t1.mono hs, h.t2.mono hs, h.t3.mono hs, h.cu.mono hs, hs _ h.mT, hs _ h.mR, h.rw.mono hs, hs _ h.tab⟩
theorem not_alien_empty {z : Nat} : ¬ Alien (W.listOf #[] z) := by
  rintro (h | h | h | ⟨x, t, r, z', h⟩)
  · simp at h
  · simp at h
  · simp at h
  · simp at h
theorem not_alien_refs {vs : List Value} {z : Nat} (h : ∃ a, vs[0]? = some (.ref a)) : ¬ Alien (W.listOf vs.toArray z) := by
  obtain ⟨a, h0⟩ := h
  rintro (h | h | h | ⟨x, t, r, z', h⟩)
  · simp at h
  · simp at h
  · simp at h
  · have e2 : vs = Value.int x t :: r := by
      injection h with _ _ h4
      injection h4 with h5
      simpa using congrArg Array.toList h5
    rw [e2] at h0
    simp at h0
theorem not_alien_cls {o : Obj} (h1 : o.cls ≠ .type "list_iterator") (h2 : o.cls ≠ .type "range_iterator") (h3 : o.cls ≠ .type "dict") (h4 : o.cls ≠ .type "list") : ¬ Alien o := by
  rintro (h | h | h | ⟨x, t, r, z', h⟩)
  · exact h1 h
  · exact h2 h
  · exact h3 h
  · exact h4 (congrArg Obj.cls h)
theorem PtZ.monoA {t : W3} {b : Prop} {led led' : List (Addr × Obj)} {k : Addr} (hs : ∀ p ∈ led, ¬ Alien p.2 → p ∈ led') (h : PtZ t b led k) : PtZ t b led' k :=
  h.monoI fun p hp hc => hs p hp (not_alien_cls (by rw [hc]; simp) (by rw [hc]; simp) (by rw [hc]; simp) (by rw [hc]; simp))
theorem alien_dict {o : Obj} (h : o.cls = .type "dict") (o' : Obj) (h' : o'.cls = .type "list") : o ≠ o' := fun e => by rw [e, h'] at h; simp at h
/-- behind the first loop: the state and the generator to the front -/
theorem base_of {G : Prop} {w : World} {h₀ h : Heap} {L S C lT lR l3 : Addr} {oS oC : Obj} {zT zR : Nat} {vs : List Value} {t : W3} {c : C3} {led0 : List (Addr × Obj)} (N : News h₀ L h (Led3 w t l3 c)) (hI : Inv3 w t led0 3 c) (aS : Alien oS) (aC : Alien oC) (lS : oS.cls = .type "list") (lC : oC.cls = .type "list") (hne : vs.length ≥ 1)
    (hcu : CurveAt w t led0) (j1 : (t.x1, instObj 343 t.d1) ∈ led0) (j2 : (t.x2, instObj 343 t.d2) ∈ led0) (j3 : (t.x3, instObj 343 t.d3) ∈ led0) (h13 : t.d1 ≠ t.d3) (h23 : t.d2 ≠ t.d3) (mS : (S, oS) ∈ led0) (mC : (C, oC) ∈ led0) (mT : (lT, W.listOf [Value.ref t.x1, Value.ref t.x2, Value.ref t.x3].toArray zT) ∈ led0)
    (ml1 : (t.l1, W.listOf #[] 0) ∈ led0) (ml2 : (t.l2, W.listOf #[] 0) ∈ led0) (ml3 : (l3, W.listOf #[] 0) ∈ led0) (mR : (lR, W.listOf vs.toArray zR) ∈ led0) (hR : RowsAre t.q t.a t.d t.P led0 vs) (h161 : (161, tabObj #[]) ∈ led0)
    (k : ∀ B, News h₀ L h ((S, oS) :: (C, oC) :: (t.d3, t.D3 w c.k3 c.e3 l3) :: B) → BaseF w t c.k3 lT lR zT zR vs B → GTab t.q t.a t.d t.P t.n B l3 → (∀ p ∈ B, p.1 ≠ S) → (∀ p ∈ B, p.1 ≠ C) → (∀ p ∈ B, p.1 ≠ t.d3) → @Ne Nat S t.d3 → @Ne Nat C t.d3 → G) : G := by
  refine frontO [(S, oS), (C, oC), (t.d3, t.D3 w c.k3 c.e3 l3)] N (List.forall_mem_cons.mpr ⟨.tail _ (.tail _ (.tail _ (hI.sub _ mS))), List.forall_mem_cons.mpr ⟨.tail _ (.tail _ (.tail _ (hI.sub _ mC))), List.forall_mem_cons.mpr ⟨.tail _ (.tail _ (.head _)), List.forall_mem_nil _⟩⟩⟩) ?_
  intro B N9 hne9 _ hA9 hO9
  have kA : ∀ p ∈ c.led, ¬ Alien p.2 → p ∈ B := fun p hp ha => hO9 p (.tail _ (.tail _ (.tail _ hp))) (List.forall_mem_cons.mpr ⟨fun e => ha (e ▸ aS), List.forall_mem_cons.mpr ⟨fun e => ha (e ▸ aC), List.forall_mem_cons.mpr ⟨fun e => ha (e ▸ .inr (.inr (.inl rfl))), List.forall_mem_nil _⟩⟩⟩)
  have un : ∀ p ∈ Led3 w t l3 c, ∀ a o, (a, o) ∈ Led3 w t l3 c → p.2 ≠ o → p.1 ≠ a := fun p hp a o ho hn e => by
    have g1 := (N p hp).1
    have g2 := (N (a, o) ho).1
    rw [e] at g1
    exact hn (Option.some.inj (g1.symm.trans g2))
  have sS := hI.sub _ mS
  have sC := hI.sub _ mC
  have kD : ∀ p ∈ Led3 w t l3 c, p.2.cls = .type "dict" → p.1 ≠ t.d3 → p ∈ B := fun p hp hc hd => hA9 p hp (List.forall_mem_cons.mpr ⟨un p hp S oS (.tail _ (.tail _ (.tail _ sS))) (alien_dict hc _ lS), List.forall_mem_cons.mpr ⟨un p hp C oC (.tail _ (.tail _ (.tail _ sC))) (alien_dict hc _ lC), List.forall_mem_cons.mpr ⟨hd, List.forall_mem_nil _⟩⟩⟩)
  have k0 : ∀ p ∈ led0, ¬ Alien p.2 → p ∈ B := fun p hp => kA p (hI.sub p hp)
  have kd0 : ∀ p ∈ led0, p.2.cls = .type "dict" → p ∈ B := fun p hp hc => kD p (.tail _ (.tail _ (.tail _ (hI.sub p hp)))) hc (hI.n3 p (hI.sub p hp))
  have ki : ∀ a C d, (a, instObj C d) ∈ led0 → (a, instObj C d) ∈ B := fun a C d hm => k0 _ hm (not_alien_cls (by simp) (by simp) (by simp) (by simp))
  have p1 : PtZ t True B c.k1 := (hI.p1.monoA kA).mono (fun _ h => h) (fun _ => by omega)
  have p2 : PtZ t True B c.k2 := (hI.p2.monoA kA).mono (fun _ h => h) (fun _ => by omega)
  have p3 : PtZ t True B c.k3 := (hI.p3.monoA kA).mono (fun _ h => h) (fun _ => by omega)
  obtain ⟨cd, c1, c2, c3, c4, c5, t1, t2, t3, hcx, hcd⟩ := hcu
  have hv0 : ∃ a, vs[0]? = some (.ref a) := by
    obtain ⟨r, _, _, e, _⟩ := hR 0 _ (List.getElem?_eq_getElem (by omega))
    exact ⟨r, by rw [List.getElem?_eq_getElem (by omega), e]⟩
  refine k B N9 ⟨.inl ⟨c.k1, c.e1, 0, rfl, rfl, ki _ _ _ j1, kD _ (.head _) rfl h13, k0 _ ml1 not_alien_empty, p1⟩, .inr (.inl ⟨c.k2, c.e2, 0, rfl, rfl, ki _ _ _ j2, kD _ (.tail _ (.head _)) rfl h23, k0 _ ml2 not_alien_empty, p2⟩), .inr (.inr ⟨rfl, rfl, ki _ _ _ j3, p3⟩),
      ⟨cd, c1, c2, c3, c4, c5, t1, t2, t3, ki _ _ _ hcx, kd0 _ hcd rfl⟩, k0 _ mT (not_alien_refs ⟨_, rfl⟩), k0 _ mR (not_alien_refs hv0), ?_, ?_⟩ (.inl ⟨0, k0 _ ml3 not_alien_empty⟩) (hne9 _ (.head _)) (hne9 _ (.tail _ (.head _))) (hne9 _ (.tail _ (.tail _ (.head _)))) (hI.n3 _ sS) (hI.n3 _ sC)
  · intro i v hv
    obtain ⟨r, t, u, e, hm⟩ := hR i v hv
    exact ⟨r, t, u, e, k0 _ hm (not_alien_cls (by simp) (by simp) (by simp) (by simp))⟩
  · exact k0 _ h161 (not_alien_cls (by simp) (by simp) (by simp) (by simp))
set_option genInjectivity false in
set_option genSizeOf false in
structure OutC where
  at0 : Int
  ta : Tok
  zs : Nat
  vs : List Value
  ns : List Int
  zc : Nat
  l : Addr
  led : List (Addr × Obj)
structure OutI (t : W3) (S C : Addr) (A : Int) (B : List (Addr × Obj)) (i : Nat) (c : OutC) : Prop where
  st : StI c.vs c.ns c.at0 (A + 3 * i)
  tab : GTab t.q t.a t.d t.P t.n c.led c.l
  sub : ∀ p ∈ B, p ∈ c.led
  nS : ∀ p ∈ c.led, p.1 ≠ S
  nC : ∀ p ∈ c.led, p.1 ≠ C
  n3 : ∀ p ∈ c.led, p.1 ≠ t.d3
set_option genInjectivity false in
set_option genSizeOf false in
structure InC where
  l : Addr
  led : List (Addr × Obj)
structure InI (t : W3) (B : List (Addr × Obj)) (c : InC) : Prop where
  tab : GTab t.q t.a t.d t.P t.n c.led c.l
  sub : ∀ p ∈ B, p ∈ c.led
  n3 : ∀ p ∈ c.led, p.1 ≠ t.d3
theorem told_at {w : World} {t : W3} {k3 lT lR : Addr} {zT zR : Nat} {vs : List Value} {B led : List (Addr × Obj)} {i : Nat} {v : Value} (hB : BaseF w t k3 lT lR zT zR vs B) (hs : ∀ p ∈ B, p ∈ led) (hv : [Value.ref t.x1, Value.ref t.x2, Value.ref t.x3, Value.ref t.x3][i]? = some v) : ∃ x ov, v = .ref x ∧ Told3 w t k3 led x ov := by
  rcases i with _ | _ | _ | _ | i
  · exact ⟨_, _, (by simpa using hv.symm), hB.t1.mono hs⟩
  · exact ⟨_, _, (by simpa using hv.symm), hB.t2.mono hs⟩
  · exact ⟨_, _, (by simpa using hv.symm), hB.t3.mono hs⟩
  · exact ⟨_, _, (by simpa using hv.symm), hB.t3.mono hs⟩
  · simp at hv
theorem inner_end {w : World} {t : W3} {B led news' : List (Addr × Obj)} {k3 l I L : Addr} {e3 : Tok} {it : Obj} {h₀ h' : Heap} {stored : List Str} {x : Str} {m₀ m' : Str → Option Value} {s₁ : Shared} {tk : Nat} (F : Fr h₀ L h' m') (N : News h₀ L h' news') (hd : (t.d3, t.D3 w k3 e3 l) ∈ news') (hl : ∀ p ∈ led, p ∈ news') (hg : GTab t.q t.a t.d t.P t.n led l) (sub : ∀ p ∈ B, p ∈ led) (n3 : ∀ p ∈ led, p.1 ≠ t.d3) (mI : (I, it) ∈ led) (hit : it.cls = .type "list_iterator") (h3 : t.d3 ≠ I) (hB : ∀ p ∈ B, p.1 ≠ I) (hs : ∀ z, z ≠ x → stored.contains z = false → m' z = m₀ z) :
    LpEnd (fun c : InC => (t.d3, t.D3 w k3 e3 c.l) :: c.led) (fun _ => []) (InI t B) stored x m₀ h₀ L I it s₁ { s₁ with heap := h', toks := tk } := by
  have key : ∀ p ∈ led, p.1 ≠ I → p ∈ led.filter fun q => q.1 != I := fun p hp h => List.mem_filter.mpr ⟨hp, by simpa using h⟩
  have out : ∀ p ∈ led.filter (fun q => q.1 != I), p ∈ led ∧ p.1 ≠ I := fun p hp => by
    have h := List.mem_filter.mp hp
    exact ⟨h.1, by simpa using h.2⟩
  refine lp_end ⟨l, led.filter fun q => q.1 != I⟩ F N (List.forall_mem_cons.mpr ⟨hd, fun p hp => hl p (out p hp).1⟩) (hl _ mI) (List.forall_mem_cons.mpr ⟨h3, fun p hp => (out p hp).2⟩) (List.forall_mem_nil _) hs ⟨hg.monoA fun p hp ha => key p hp fun e => ?_, fun p hp => key p (sub p hp) (hB p hp), fun p hp => n3 p (out p hp).1⟩
  have g1 := (N p (hl p hp)).1
  have g2 := (N _ (hl _ mI)).1
  rw [e] at g1
  have g3 : p.2 = it := Option.some.inj (g1.symm.trans g2)
  exact ha (.inl (by rw [g3]; exact hit))
theorem news_rev4 {h₀ h : Heap} {L : Addr} {a b c d : Addr × Obj} {led : List (Addr × Obj)} (N : News h₀ L h (a :: b :: c :: d :: led)) : News h₀ L h (d :: a :: b :: c :: led) :=
  cb_drop N (List.forall_mem_cons.mpr ⟨.tail _ (.tail _ (.tail _ (.head _))), List.forall_mem_cons.mpr ⟨.head _, List.forall_mem_cons.mpr ⟨.tail _ (.head _), List.forall_mem_cons.mpr ⟨.tail _ (.tail _ (.head _)), fun _ hp => .tail _ (.tail _ (.tail _ (.tail _ hp)))⟩⟩⟩⟩)
end
-- L05r
section
/-- the order of what a multiplication gave back -/
inductive OrdQ (w : World) (t : W3) (ov : Value) (ra : Addr) (led : List (Addr × Obj)) : Prop
  | own (dra : Addr) (s1 s2 s3 s4 s5 : Tok) (cx k : Addr) (g : Bool) (l : Addr) (m1 : (ra, instObj 343 dra) ∈ led) (m2 : (dra, dictOf (peE w s1 s2 s3 s4 s5 (.ref cx) (.ref k) ov (.bool g) (.ref l)) 5) ∈ led)
  | gen (m1 : (ra, instObj 343 t.d3) ∈ led) (e : ov = .int t.n t.tg)
def OrdU (w : World) (t : W3) (kv : Int) (ov : Value) (ra : Addr) (led : List (Addr × Obj)) : Prop := kv % (t.n : Int) ≠ 0 → OrdQ w t ov ra led
theorem OrdU.mono {w : World} {t : W3} {kv : Int} {ov : Value} {ra : Addr} {led led' : List (Addr × Obj)} (hs : ∀ p ∈ led, p ∈ led') (h : OrdU w t kv ov ra led) : OrdU w t kv ov ra led' := fun hk => by
  cases h hk with
  | own dra s1 s2 s3 s4 s5 cx k g l m1 m2 => exact .own dra s1 s2 s3 s4 s5 cx k g l (hs _ m1) (hs _ m2)
  | gen m1 e => exact .gen (hs _ m1) e
theorem OrdU.get {G : Prop} {w : World} {t : W3} {kv : Int} {ov : Value} {ra : Addr} {led : List (Addr × Obj)} {k3 : Addr} {e3 : Tok} {l : Addr} (h : OrdU w t kv ov ra led) (hk : kv % (t.n : Int) ≠ 0)
    (g : ∀ dra s1 s2 s3 s4 s5 cx k g lx, (ra, instObj 343 dra) ∈ (t.d3, t.D3 w k3 e3 l) :: led → (dra, dictOf (peE w s1 s2 s3 s4 s5 (.ref cx) (.ref k) ov (.bool g) (.ref lx)) 5) ∈ (t.d3, t.D3 w k3 e3 l) :: led → G) : G := by
  cases h hk with
  | own dra s1 s2 s3 s4 s5 cx k gg lx m1 m2 => exact g _ _ _ _ _ _ _ _ _ _ (.tail _ m1) (.tail _ m2)
  | gen m1 e => subst e; exact g _ _ _ _ _ _ _ _ _ _ (.tail _ m1) (.head _)
theorem Told3.ord {w : World} {t : W3} {k3 : Addr} {led : List (Addr × Obj)} {x : Addr} {ov : Value} {kv : Int} (h : Told3 w t k3 led x ov) : OrdU w t kv ov x led := fun _ => by
  rcases h with ⟨k, e, z, a, b, c, d, f, g⟩ | ⟨k, e, z, a, b, c, d, f, g⟩ | ⟨a, b, c, d⟩
  · subst a; subst b; exact .own _ _ _ _ _ _ _ _ _ _ c d
  · subst a; subst b; exact .own _ _ _ _ _ _ _ _ _ _ c d
  · subst a; subst b; exact .gen c rfl
variable {w : World} {mean : ExcName → Option Value} {mg mb : Str → Option Value}
/-- a multiple asked for its row: said true, whichever it is -/
theorem c_lscaledU {led0 led1 : List (Addr × Obj)} {t : W3} {k3 l x ra r : Addr} {e3 tt r1 r2 : Tok} {ov : Value} {kv : Int} (hc : Ed.Cx t.q t.a t.d t.P t.n) (hres : ResU w t kv x ov led0 led1 ra) (hT : Told3 w t k3 led0 x ov) (hcu : CurveAt w t led0) (hmd : (r, tup2 (Ed.zM t.q t.a t.d t.P t.n kv).1 r1 (Ed.zM t.q t.a t.d t.P t.n kv).2 r2) ∈ led0) (n30 : ∀ p ∈ led0, p.1 ≠ t.d3) (n31 : ∀ p ∈ led1, p.1 ≠ t.d3) :
    Sp PR w (hd.heap_39 w.params) topProg LO mean mg mb 8 150 (call (.ref 429) [.ref ra, .ref r, .int (t.q : Int) tt]) ((t.d3, t.D3 w k3 e3 l) :: led1) (fun _ => True)
      (fun h₀ L m s Q => ∀ led2 h' tk', (∀ p ∈ led0, p ∈ led2) → (∀ p ∈ led2, p.1 ≠ t.d3) → OrdU w t kv ov ra led2 → Fr h₀ L h' m → News h₀ L h' ((t.d3, t.D3 w k3 e3 l) :: led2) → Q (.bool true) { s with heap := h', toks := tk' }) := by
  intro dp un gd cn cs a ccd cl outer A₀ base h₀ L M s Q E B F X₀ N T₀ hk hd hu hpre hret
  refine hcu.get ?_
  intro cd cc1 cc2 cc3 cc4 cc5 ct1 ct2 ct3 hm3 hm4
  cases hres with
  | zero hk0 e1 e2 =>
    subst e1; subst e2
    rw [(Ed.zM_zero hc).mpr hk0] at hmd
    exact (c_lscaledI (t := 0) (.tail _ hmd)).use B F X₀ N T₀ hk hd hu hpre fun h' tk' F' N' => hret led1 h' tk' (fun _ h => h) n31 (fun e => absurd hk0 e) F' N'
  | one e0 e1 e2 =>
    subst e0; subst e1; subst e2
    refine hT.get (e3 := e3) (l := l) ?_
    intro dx kx gx lx x1 x2 x3 x4 x5 m0 m1 hz hov
    refine hz.get ?_
    intro X Y T v1 v2 v3 v4 mk hr hX hY _ hT2
    exact (c_lscaled1 hc hr hX hY hT2 (one_mod hc) m0 m1 (.tail _ mk) (.tail _ hm3) (.tail _ hm4) ⟨hov.handed, rfl, rfl⟩ (.tail _ hmd)).use B F X₀ N T₀ hk hd hu hpre fun h' tk' F' N' => hret led1 h' tk' (fun _ h => h) n31 hT.ord F' N'
  | new hk0 X Y Z T d k lq b1 b2 b3 b4 b5 v1 v2 v3 v4 hr hX hY hZ hT2 g0 g2 g1 g3 g4 g5 gd0 gs =>
    have hov : OvOk ov := hT.get (e3 := e3) (l := l) fun _ _ _ _ _ _ _ _ _ _ _ _ h => h
    refine frontN [(d, _)] N (List.forall_mem_cons.mpr ⟨.tail _ g1, List.forall_mem_nil _⟩) ?_
    intro led5 N5 hne5 _ hA5 _
    have to5 : ∀ p ∈ (t.d3, t.D3 w k3 e3 l) :: led1, p.1 ≠ d → p ∈ led5 := fun p hp hd => hA5 p hp (List.forall_mem_cons.mpr ⟨hd, List.forall_mem_nil _⟩)
    have in5 : ∀ p ∈ led0, p ∈ led5 := fun p hp => to5 p (.tail _ (gs p hp)) (gd0 p hp)
    refine (c_lscaled hc hr hX hY hZ hT2 hk0 (hne5 _ (.head _)) (to5 _ (.tail _ g0) g3) (to5 _ (.tail _ g2) g4) (in5 _ hm3) (in5 _ hm4) ⟨hov.handed, rfl, rfl⟩ (in5 _ hmd)).use B F X₀ N5 T₀ hk hd hu hpre ?_
    intro ks bs w1 w2 w3 w4 led6 h' tk' F' N' hks hs6 hd6
    refine frontN [(t.d3, t.D3 w k3 e3 l)] N' (List.forall_mem_cons.mpr ⟨.tail _ (hs6 _ (to5 _ (.head _) g5)), List.forall_mem_nil _⟩) ?_
    intro led7 N7 hne7 _ hA7 _
    exact hret led7 h' tk' (fun p hp => hA7 p (.tail _ (hs6 p (in5 p hp))) (List.forall_mem_cons.mpr ⟨n30 p hp, List.forall_mem_nil _⟩)) (hne7 _ (.head _))
      (fun _ => .own _ _ _ _ _ _ _ _ _ _ (hA7 _ (.tail _ (hs6 _ (to5 _ (.tail _ g0) g3))) (List.forall_mem_cons.mpr ⟨n31 _ g0, List.forall_mem_nil _⟩)) (hA7 _ (.head _) (List.forall_mem_cons.mpr ⟨fun e => g5 e.symm, List.forall_mem_nil _⟩))) F' N7
end
-- L05v
section
def primesI : List Int := [5, 7, 11, 13, 17, 19, 23, 29, 31, 37, 41, 43, 47, 53, 59, 61, 67, 71, 73, 79, 83, 89, 97, 101]
theorem primesI_at : ∀ i : Nat, i < 24 → ∃ q : Nat, q ∈ Ed.primes24 ∧ primesI[i]? = some (q : Int) := by
  intro i hi
  have h : ∀ i : Fin 24, ∃ q : Nat, q ∈ Ed.primes24 ∧ primesI[i.val]? = some (q : Int) := by
    intro i
    refine ⟨(primesI[i.val]?.getD 0).toNat, ?_⟩
    revert i; decide
  exact h ⟨i, hi⟩
theorem primes_tup {w : World} : PR = PR ∧ ∀ h : Heap, (hd.heap_39 w.params).In h → ∃ pvs, IntsAre pvs primesI ∧ IsTup h 349 pvs.toArray := by
  (try unfold PR); k_fill; w_top off
  refine ⟨rfl, ?_⟩
  intro h X
  refine ⟨[.int 5 767, .int 7 768, .int 11 769, .int 13 770, .int 17 771, .int 19 772, .int 23 773, .int 29 774, .int 31 775, .int 37 776, .int 41 777, .int 43 778, .int 47 779, .int 53 780, .int 59 781, .int 61 782, .int 67 783, .int 71 784, .int 73 785, .int 79 786, .int 83 787, .int 89 788, .int 97 789, .int 101 790], ?_, ?_⟩
  · unfold primesI
    repeat (first | exact .nil | refine .cons _ _ ?_)
  · have e : ∃ o, (hd.heap_39 w.params).lookup 349 = some o ∧ o.cls = .type "tuple" ∧ ∃ n, o.data = .seq #[.int 5 767, .int 7 768, .int 11 769, .int 13 770, .int 17 771, .int 19 772, .int 23 773, .int 29 774, .int 31 775, .int 37 776, .int 41 777, .int 43 778, .int 47 779, .int 53 780, .int 59 781, .int 61 782, .int 67 783, .int 71 784, .int 73 785, .int 79 786, .int 83 787, .int 89 788, .int 97 789, .int 101 790] n := ⟨_, by k_is, rfl, _, rfl⟩
    obtain ⟨o, e, hc, n, hd⟩ := e
    exact ⟨o, X _ _ e, hc, n, hd⟩
theorem item_prime {prog : Program} {w : World} {A : Around} {E : Value → Shared → Prop} {s : Shared} {h₀ : Heap} {L : Addr} {m : Str → Option Value} {pvs : List Value} {value slice : PySem.Expr} {k : Int} {u : Tok} {Q : Value → Shared → Prop} (F : Fr h₀ L s.heap m) (hT : IsTup h₀ 349 pvs.toArray) (hi : IntsAre pvs primesI) (h0 : 0 ≤ k) (h1 : k < 24)
    (h : ∀ (q : Nat) t, q ∈ Ed.primes24 → 5 ≤ (q : Int) → (q : Int) ≤ 101 → Q (.int (q : Int) t) s)
    (hs : subscripted slice false (.ref 349) (.int k u) = operate [.ref 349, .int k u] (getItem (.ref 349) (.int k u))) :
    wpAny (model prog w) A (subscriptTail value slice (.ref 349) (.int k u)) Q E s := by
  obtain ⟨q, hq, hqi⟩ := primesI_at k.toNat (by omega)
  obtain ⟨t, ht⟩ := hi.get k.toNat _ hqi
  have hl : pvs.length = 24 := hi.length
  have hb := Ed.primes_bd hq
  refine item_tupleT (hT.keeps F.keep) (by omega) (by omega) (j := k.toNat) ?_ ht (h q t hq (by omega) (by omega)) hs
  unfold seqIndex?
  rw [hl]
  simp [show ¬ k < 0 by omega]
  omega
variable {w : World} {mean : ExcName → Option Value} {mg mb : Str → Option Value}
/-- a good d -/
def DGood (q : Nat) (d : Int) : Prop := 0 < d ∧ ∀ k : Int, 0 < k → k < q → (k * k).fmod q ≠ d
def DInv (q : Nat) (i : Nat) (c : Int × Tok) : Prop :=
  (0 ≤ c.1 ∧ c.1 < q) ∧ (DGood q c.1 ∨ ∃ d0 : Int, c.1 = (d0 + i) % (q : Int) ∧ ∀ j : Nat, j < i → ¬ DGood q ((d0 + j) % (q : Int)))
def sqL (q : Nat) : List Int := (rangeKs 1 ((q : Int) - 1).toNat).map fun k' => (k' * k').fmod (q : Int)
theorem sqL_mem {q : Nat} {d : Int} : d ∈ sqL q ↔ ∃ k : Int, 0 < k ∧ k < q ∧ (k * k).fmod q = d := by
  unfold sqL rangeKs
  simp only [List.mem_map, List.mem_range]
  constructor
  · rintro ⟨k, ⟨i, hi, rfl⟩, rfl⟩
    exact ⟨1 + i, by omega, by omega, rfl⟩
  · rintro ⟨k, h1, h2, rfl⟩
    exact ⟨k, ⟨(k - 1).toNat, by omega, by omega⟩, rfl⟩
theorem dgood_iff {q : Nat} {d : Int} (h0 : 0 ≤ d) : DGood q d ↔ ¬ (d ∈ sqL q ∨ d = 0) := by
  rw [sqL_mem]
  unfold DGood
  constructor
  · rintro ⟨h1, h2⟩ (⟨k, k1, k2, k3⟩ | h)
    · exact h2 k k1 k2 k3
    · omega
  · intro h
    refine ⟨?_, fun k k1 k2 k3 => h (.inl ⟨k, k1, k2, k3⟩)⟩
    rcases Int.lt_or_eq_of_le h0 with h1 | h1
    · exact h1
    · exact absurd (.inr h1.symm) h
theorem dgood_some {q : Nat} (hq : q ∈ Ed.primes24) : ∃ d : Int, (0 ≤ d ∧ d < q) ∧ DGood q d := by
  have h := List.all_eq_true.mp Ed.nonsq q hq
  obtain ⟨d, hd, h⟩ := List.any_eq_true.mp h
  simp only [Bool.and_eq_true, bne_iff_ne, ne_eq, List.all_eq_true, List.mem_range] at h hd
  refine ⟨d, by omega, by omega, fun k k1 k2 e => h.2 k.toNat (by omega) ?_⟩
  rw [Int.fmod_eq_emod_of_nonneg _ (by omega)] at e
  have e2 : ((k.toNat * k.toNat % q : Nat) : Int) = k * k % q := by
    rw [Int.natCast_emod, Int.natCast_mul, Int.toNat_of_nonneg (by omega)]
  omega
theorem dinv_end {q : Nat} (hq : q ∈ Ed.primes24) {c : Int × Tok} (h : DInv q q c) : DGood q c.1 := by
  rcases h.2 with h2 | ⟨d0, _, h3⟩
  · exact h2
  · exfalso
    have hb := Ed.primes_bd hq
    obtain ⟨d, hd, hg⟩ := dgood_some hq
    have hm := Int.emod_nonneg (d - d0) (show (q : Int) ≠ 0 by omega)
    have hl := Int.emod_lt_of_pos (d - d0) (show (0 : Int) < q by omega)
    refine h3 ((d - d0) % (q : Int)).toNat (by omega) ?_
    rw [Int.toNat_of_nonneg hm, Int.add_emod_emod]
    rw [show d0 + (d - d0) = d by omega, Int.emod_eq_of_lt hd.1 hd.2]
    exact hg
theorem dinv_start {q : Nat} {d : Int} {t : Tok} (h0 : 0 ≤ d) (h1 : d < q) : DInv q 0 (d, t) := ⟨⟨h0, h1⟩, .inr ⟨d, by rw [Int.emod_eq_of_lt (by omega) (by omega)]; dsimp only; omega, fun j hj => by omega⟩⟩
theorem dinv_bad {q i : Nat} {d : Int} {t t' : Tok} (hq : 0 < (q : Int)) (h : DInv q i (d, t)) (hb : ¬ DGood q d) : DInv q (i + 1) ((d + 1).fmod q, t') := by
  refine ⟨Ed.fm_bd hq _, .inr ?_⟩
  rcases h.2 with h2 | ⟨d0, h2, h3⟩
  · exact absurd h2 hb
  · dsimp only at h2 hb ⊢
    refine ⟨d0, ?_, fun j hj => ?_⟩
    · rw [Int.fmod_eq_emod_of_nonneg _ (by omega), h2, Int.emod_add_emod]
      congr 1; omega
    · rcases Nat.lt_or_eq_of_le (Nat.le_of_lt_succ hj) with h | rfl
      · exact h3 j h
      · rw [← h2]; exact hb
theorem dinv_good {q i : Nat} {c : Int × Tok} (h : DInv q i c) (hb : DGood q c.1) : DInv q (i + 1) c := ⟨h.1, .inl hb⟩
theorem any_mem {l : List Int} {d : Int} : (l.any fun x => x == d) = true ↔ d ∈ l := by
  simp only [List.any_eq_true, beq_iff_eq, exists_eq_right]
theorem withQ {G : Prop} {q : Nat} {ys : List Value} (_hq : q ∈ Ed.primes24) (_hi : IntsAre ys (sqL q)) (k : ∀ q' ys', q' = q → ys' = ys → G) : G := k q ys rfl rfl
theorem withSt {G : Prop} {vs : List Value} {ns : List Int} {at0 A : Int} (_h : StI vs ns at0 A) (k : ∀ vs' ns' at', vs' = vs → ns' = ns → at' = at0 → G) : G := k vs ns at0 rfl rfl rfl
def REdw (S C : Addr) (A : Int) (news : List (Addr × Obj)) (h₀ : Heap) (L : Addr) (m : Str → Option Value) (s : Shared) (Q : Value → Shared → Prop) : Prop :=
  ∀ (q : Nat) av dv D t1 t2 t3 at' ta' vs' ns' zs' zc' led h' tk', Ed.Cv q av dv → StI vs' ns' at' (A + 3) → Fr h₀ L h' m → News h₀ L h' ((S, stO at' ta' C zs') :: (C, W.listOf vs'.toArray zc') :: led) → (∀ p ∈ led, p.1 ≠ S) → (∀ p ∈ led, p.1 ≠ C) → (∀ p ∈ news, p ∈ led) →
    (D, tup3 (q : Int) t1 av t2 dv t3) ∈ led → Q (.ref D) { s with heap := h', toks := tk' }
theorem c_edwards {news : List (Addr × Obj)} {S C : Addr} {at0 A : Int} {ta : Tok} {vs : List Value} {ns : List Int} {zs zc : Nat} (hst : StI vs ns at0 A) (hA : A ≤ 10000) (hne : S ≠ C) (hS : ∀ p ∈ news, p.1 ≠ S) (hC : ∀ p ∈ news, p.1 ≠ C) :
    Sp PR w (hd.heap_39 w.params) topProg LO mean mg mb 3 40 (call (.ref 366) [.ref S]) ((S, stO at0 ta C zs) :: (C, W.listOf vs.toArray zc) :: news) (fun _ => True) (REdw S C A news) := by
  have hne1 : @Ne Nat S C := hne
  have hne2 : @Ne Nat C S := fun e => hne e.symm
  have hpt := (primes_tup (w := w)).2
  (try unfold PR LO); k_fill
  unfold Sp
  intro dp un gd cn cs a ccd cl outer A₀ base h₀ L M s Q E B F X N T hk hd hu hpre hret
  try dsimp only at hpre
  refine wpAny_call ?_
  k_dflt (refine' code_defC ?k1 ?k2 ?k3 ?k4 ?k5 ?kA ?kF ?kK ?k6 ?k7 ?k8 ?k9 ?kB ?kD ?_ ?c2 ?c3 ?c4; (case kA => exact rfl); (case kF => exact rfl); (case kK => assumption); (case k1 => k_asm); (case k2 => k_asm); (case k3 => k_asm); (case k4 => k_asm); (case k5 => k_asm); (case k6 => k_is); (case k7 => k_is); (case k8 => ktr_room); (case k9 => exact BindsTo.of_eq rfl); (case kB => exact rfl); (case kD => decide +kernel); (case c2 => exact rfl); (case c3 => exact rfl); (case c4 => exact rfl); k_whole; intro g' L' h' tk' cells' FG' F' N' Y' B' X' T' l1; (try k_lt l1); k_cells Y'; (try simp only [List.cons_append, List.nil_append] at N'); (try dsimp only); (try k_lift B'); (try k_fold))
  have hnL : ∀ p ∈ news, p.1 ≠ L' + 1 := fun p hp => Nat.ne_of_lt (Nat.lt_succ_of_lt (allLt_all l1.2.2 p hp))
  (rename Frag.In _ _ => X9)
  obtain ⟨pvs, hpi, hpT⟩ := hpt _ X9
  unfold REdw at hret
  (repeat' (first | (k_unfold; (try dsimp only)) | ((with_reducible show wpAny _ _ (execs (List.cons _ _) _) _ _ (Shared.mk _ _ _ (HAdd.hAdd _ _) _)); (rename Fr _ _ _ _ => Fq); refine stm8 Fq ?_; clear Fq; intro tkq mq Fq; (try k_fold)) | with_reducible (k_here; (with_reducible show wpAny _ _ (subscriptTail _ _ (Value.ref 349) (Value.int _ _)) _ _ _); k_dflt (refine' item_prime ?q1 ?q2 ?q3 ?q4 ?q5 ?_ ?q6; (case q1 => k_asm); (case q2 => assumption); (case q3 => assumption); (case q4 => omega); (case q5 => omega); (case q6 => with_unfolding_all rfl)); intro q9ᵣ t9ᵣ hq9ᵣ hq91ᵣ hq92ᵣ; have hq93 : ((q9ᵣ : Int) - 1).toNat ≤ 100 := by omega) | with_reducible (k_here; (with_reducible show wpAny _ _ (PySem.call (Value.ref 361) _) _ _ _); k_dflt (refine' Sp.use (c_takeU ?q1 ?q2 ?q3 ?q4 ?q5 ?q6) ?k1 ?k2 ?k3 ?k4 ?k5 ?k6 ?k7 ?k8 ?k9 ?_; walk_at "use"; (case q5 => k_updF); (case q6 => (intro o9ᵣ; k_updF)); (case q1 => with_reducible assumption); (case q2 => omega); (case q3 => first | omega | decide); (case q4 => assumption)); unfold RTakeU; intro r9ᵣ tr9ᵣ at9ᵣ ta9ᵣ vs9ᵣ ns9ᵣ zs9ᵣ zc9ᵣ h9ᵣ tk9ᵣ hr91ᵣ hr92ᵣ hst9ᵣ F9ᵣ N9ᵣ; (try dsimp only at N9ᵣ ⊢); (try k_sweep); (try k_fold)) | with_reducible (k_here; (with_reducible show wpAny _ _ (PySem.call (Value.ref 21) _) _ _ _); k_dflt (refine' Sp.use (c_inv ?q1 ?q2 ?q3 ?q4) ?k1 ?k2 ?k3 ?k4 ?k5 ?k6 ?k7 ?k8 ?k9 ?_; walk_at "use"; (case q1 => assumption); (case q2 => assumption); (case q3 => omega); (case q4 => omega)); unfold RInv; intro i9ᵣ t9ᵣ h9ᵣ tk9ᵣ hi1ᵣ hi2ᵣ hi3ᵣ F9ᵣ N9ᵣ; (try dsimp only); (try k_sweep); (try k_fold)) | with_reducible (k_here; (with_reducible show wpAny _ _ (PySem.call (Value.ref 71) _) _ _ _); k_dflt (refine' Sp.use (c_ed_a ?q1 ?q2 ?q3) ?k1 ?k2 ?k3 ?k4 ?k5 ?k6 ?k7 ?k8 ?k9 ?_; walk_at "use"; (case q2 => k_dflt k_mem); (case q3 => k_dflt k_mem); (case q1 => k_dflt (exact ⟨rfl, rfl, rfl⟩))); unfold RV; intro h9ᵣ tk9ᵣ F9ᵣ N9ᵣ; (try dsimp only); (try k_sweep); (try k_fold)) | with_reducible (k_here; (with_reducible show wpAny _ _ (PySem.call (Value.ref 64) _) _ _ _); k_dflt (refine' Sp.use (c_ed_p ?q1 ?q2 ?q3) ?k1 ?k2 ?k3 ?k4 ?k5 ?k6 ?k7 ?k8 ?k9 ?_; walk_at "use"; (case q2 => k_dflt k_mem); (case q3 => k_dflt k_mem); (case q1 => k_dflt (exact ⟨rfl, rfl, rfl⟩))); unfold RV; intro h9ᵣ tk9ᵣ F9ᵣ N9ᵣ; (try dsimp only); (try k_sweep); (try k_fold)) | with_reducible (k_here; (with_reducible show wpAny _ _ (call (Value.builtin "len") [Value.ref _]) _ _ _); k_dflt (refine' kst_len ?q1 ?q2 ?q3 ?q4 ?_; (case q1 => k_asm); (case q2 => k_mem); (case q3 => assumption); (case q4 => omega))) | with_reducible (k_here; (with_reducible show wpAny _ _ (exec (Stmt.For _ _ _ _ _) _) _ _ _); (rename Fr _ _ _ _ => lF'); (with_unfolding_all refine' For_invVF lF' ?k1 ?k2 ?_; (case k1 => exact rfl); (case k2 => exact rfl); k_whole)) | with_reducible (k_here; (with_reducible show wpAny _ _ (subscriptTail _ _ (Value.ref _) (Value.int _ _)) _ _ _); k_dflt (refine' item_tupleT ?t ?a ?b ?c ?d ?_; (case t => exact News.isTup (by k_asm) (by k_mem)); (case a => decide); (case b => decide); (case c => rfl); (case d => rfl); k_whole)) | with_reducible (k_here; (with_reducible show wpAny _ _ (PySem.pyIter (Value.ref _)) _ _ _); refine Stop.of ?_) | walk1 | (dsimp only; walk1) | fail "no step"))
  refine Stop.to ?_
  (rename News _ _ _ ((_, LCg.lst _) :: _) => N0)
  (rename IntsAre _ (List.map _ (rangeKs 1 _)) => hiS)
  (rename _ ∈ Ed.primes24 => hq)
  (rename StI _ _ _ (A + 1 + 1 + 1) => hst9)
  refine withQ hq hiS ?_
  rintro q ys rfl rfl
  refine withSt hst9 ?_
  rintro vs9 ns9 at9 rfl rfl rfl
  obtain ⟨hb1, hb2⟩ := Ed.primes_int hq
  k_dflt (refine' lp_range (σ := Int × Tok) q (fun _ => _) (fun c => [(Str.ofString "d", Value.int c.1 c.2)]) (DInv q) [Str.ofString "d"] (_, _) rfl ?zr ?zs ?zn (by k_asm) N0 (by walk_at "ps") ?zi ?zt ?zd)
  (case zr => assumption)
  (case zs => exact small_one (by omega) (by omega) (by omega) (by omega))
  (case zn => rw [rangeSize_nat]; omega)
  (case zi => exact dinv_start (by omega) (by omega))
  (case zt =>
    rintro I i ti ⟨d, td⟩ u h tk it hi hI hne F3 N3
    dsimp only [envOf] at hne F3 N3
    have hd0 := hI.1.1
    (repeat' (first | (k_unfold; (try dsimp only)) | ((with_reducible show wpAny _ _ (execs (List.cons _ _) _) _ _ (Shared.mk _ _ _ (HAdd.hAdd _ _) _)); (rename Fr _ _ _ _ => Fq); refine stm8 Fq ?_; clear Fq; intro tkq mq Fq; (try k_fold)) | with_reducible (k_here; (with_reducible show wpAny _ _ (subscriptTail _ _ (Value.ref 349) (Value.int _ _)) _ _ _); k_dflt (refine' item_prime ?q1 ?q2 ?q3 ?q4 ?q5 ?_ ?q6; (case q1 => k_asm); (case q2 => assumption); (case q3 => assumption); (case q4 => omega); (case q5 => omega); (case q6 => with_unfolding_all rfl)); intro q9ᵣ t9ᵣ hq9ᵣ hq91ᵣ hq92ᵣ; have hq93 : ((q9ᵣ : Int) - 1).toNat ≤ 100 := by omega) | with_reducible (k_here; (with_reducible show wpAny _ _ (PySem.call (Value.ref 361) _) _ _ _); k_dflt (refine' Sp.use (c_takeU ?q1 ?q2 ?q3 ?q4 ?q5 ?q6) ?k1 ?k2 ?k3 ?k4 ?k5 ?k6 ?k7 ?k8 ?k9 ?_; walk_at "use"; (case q5 => k_updF); (case q6 => (intro o9ᵣ; k_updF)); (case q1 => with_reducible assumption); (case q2 => omega); (case q3 => first | omega | decide); (case q4 => assumption)); unfold RTakeU; intro r9ᵣ tr9ᵣ at9ᵣ ta9ᵣ vs9ᵣ ns9ᵣ zs9ᵣ zc9ᵣ h9ᵣ tk9ᵣ hr91ᵣ hr92ᵣ hst9ᵣ F9ᵣ N9ᵣ; (try dsimp only at N9ᵣ ⊢); (try k_sweep); (try k_fold)) | with_reducible (k_here; (with_reducible show wpAny _ _ (PySem.call (Value.ref 21) _) _ _ _); k_dflt (refine' Sp.use (c_inv ?q1 ?q2 ?q3 ?q4) ?k1 ?k2 ?k3 ?k4 ?k5 ?k6 ?k7 ?k8 ?k9 ?_; walk_at "use"; (case q1 => assumption); (case q2 => assumption); (case q3 => omega); (case q4 => omega)); unfold RInv; intro i9ᵣ t9ᵣ h9ᵣ tk9ᵣ hi1ᵣ hi2ᵣ hi3ᵣ F9ᵣ N9ᵣ; (try dsimp only); (try k_sweep); (try k_fold)) | with_reducible (k_here; (with_reducible show wpAny _ _ (PySem.call (Value.ref 71) _) _ _ _); k_dflt (refine' Sp.use (c_ed_a ?q1 ?q2 ?q3) ?k1 ?k2 ?k3 ?k4 ?k5 ?k6 ?k7 ?k8 ?k9 ?_; walk_at "use"; (case q2 => k_dflt k_mem); (case q3 => k_dflt k_mem); (case q1 => k_dflt (exact ⟨rfl, rfl, rfl⟩))); unfold RV; intro h9ᵣ tk9ᵣ F9ᵣ N9ᵣ; (try dsimp only); (try k_sweep); (try k_fold)) | with_reducible (k_here; (with_reducible show wpAny _ _ (PySem.call (Value.ref 64) _) _ _ _); k_dflt (refine' Sp.use (c_ed_p ?q1 ?q2 ?q3) ?k1 ?k2 ?k3 ?k4 ?k5 ?k6 ?k7 ?k8 ?k9 ?_; walk_at "use"; (case q2 => k_dflt k_mem); (case q3 => k_dflt k_mem); (case q1 => k_dflt (exact ⟨rfl, rfl, rfl⟩))); unfold RV; intro h9ᵣ tk9ᵣ F9ᵣ N9ᵣ; (try dsimp only); (try k_sweep); (try k_fold)) | with_reducible (k_here; (with_reducible show wpAny _ _ (call (Value.builtin "len") [Value.ref _]) _ _ _); k_dflt (refine' kst_len ?q1 ?q2 ?q3 ?q4 ?_; (case q1 => k_asm); (case q2 => k_mem); (case q3 => assumption); (case q4 => omega))) | with_reducible (k_here; (with_reducible show wpAny _ _ (exec (Stmt.For _ _ _ _ _) _) _ _ _); (rename Fr _ _ _ _ => lF'); (with_unfolding_all refine' For_invVF lF' ?k1 ?k2 ?_; (case k1 => exact rfl); (case k2 => exact rfl); k_whole)) | with_reducible (k_here; (with_reducible show wpAny _ _ (subscriptTail _ _ (Value.ref _) (Value.int _ _)) _ _ _); k_dflt (refine' item_tupleT ?t ?a ?b ?c ?d ?_; (case t => exact News.isTup (by k_asm) (by k_mem)); (case a => decide); (case b => decide); (case c => rfl); (case d => rfl); k_whole)) | with_reducible (k_here; (with_reducible show wpAny _ _ (PySem.pyIter (Value.ref _)) _ _ _); refine Stop.of ?_) | walk1 | (dsimp only; walk1) | fail "no step"))
    · refine lp_end (_, _) (by k_asm) (by k_asm) (fun p hp => .tail _ hp) (.head _) hne (by walk_at "ps") (by walk_at "same") (dinv_bad (by omega) hI ?_)
      rw [dgood_iff hd0, Classical.not_not]
      exact .inl (any_mem.mp (by assumption))
    · refine lp_end (_, _) (by k_asm) (by k_asm) (fun p hp => .tail _ hp) (.head _) hne (by walk_at "ps") (by walk_at "same") (dinv_bad (by omega) hI ?_)
      rw [dgood_iff hd0, Classical.not_not]
      exact .inr (by assumption)
    · refine lp_end (d, _) (by k_asm) (by k_asm) (fun p hp => .tail _ hp) (.head _) hne (by walk_at "ps") (by walk_at "same") (dinv_good hI ?_)
      rw [dgood_iff hd0]
      rintro (h1 | h1)
      · have h2 := any_mem.mpr h1
        (rename (List.any _ _ = false) => h3)
        exact absurd (h3.symm.trans h2) (by decide)
      · exact absurd h1 (by assumption))
  (case zd =>
    rintro ⟨d, td⟩ u h tk hI F3 N3
    have hg := dinv_end hq hI
    have hd1 := hI.1
    (repeat' (first | (k_unfold; (try dsimp only)) | ((with_reducible show wpAny _ _ (execs (List.cons _ _) _) _ _ (Shared.mk _ _ _ (HAdd.hAdd _ _) _)); (rename Fr _ _ _ _ => Fq); refine stm8 Fq ?_; clear Fq; intro tkq mq Fq; (try k_fold)) | with_reducible (k_here; (with_reducible show wpAny _ _ (subscriptTail _ _ (Value.ref 349) (Value.int _ _)) _ _ _); k_dflt (refine' item_prime ?q1 ?q2 ?q3 ?q4 ?q5 ?_ ?q6; (case q1 => k_asm); (case q2 => assumption); (case q3 => assumption); (case q4 => omega); (case q5 => omega); (case q6 => with_unfolding_all rfl)); intro q9ᵣ t9ᵣ hq9ᵣ hq91ᵣ hq92ᵣ; have hq93 : ((q9ᵣ : Int) - 1).toNat ≤ 100 := by omega) | with_reducible (k_here; (with_reducible show wpAny _ _ (PySem.call (Value.ref 361) _) _ _ _); k_dflt (refine' Sp.use (c_takeU ?q1 ?q2 ?q3 ?q4 ?q5 ?q6) ?k1 ?k2 ?k3 ?k4 ?k5 ?k6 ?k7 ?k8 ?k9 ?_; walk_at "use"; (case q5 => k_updF); (case q6 => (intro o9ᵣ; k_updF)); (case q1 => with_reducible assumption); (case q2 => omega); (case q3 => first | omega | decide); (case q4 => assumption)); unfold RTakeU; intro r9ᵣ tr9ᵣ at9ᵣ ta9ᵣ vs9ᵣ ns9ᵣ zs9ᵣ zc9ᵣ h9ᵣ tk9ᵣ hr91ᵣ hr92ᵣ hst9ᵣ F9ᵣ N9ᵣ; (try dsimp only at N9ᵣ ⊢); (try k_sweep); (try k_fold)) | with_reducible (k_here; (with_reducible show wpAny _ _ (PySem.call (Value.ref 21) _) _ _ _); k_dflt (refine' Sp.use (c_inv ?q1 ?q2 ?q3 ?q4) ?k1 ?k2 ?k3 ?k4 ?k5 ?k6 ?k7 ?k8 ?k9 ?_; walk_at "use"; (case q1 => assumption); (case q2 => assumption); (case q3 => omega); (case q4 => omega)); unfold RInv; intro i9ᵣ t9ᵣ h9ᵣ tk9ᵣ hi1ᵣ hi2ᵣ hi3ᵣ F9ᵣ N9ᵣ; (try dsimp only); (try k_sweep); (try k_fold)) | with_reducible (k_here; (with_reducible show wpAny _ _ (PySem.call (Value.ref 71) _) _ _ _); k_dflt (refine' Sp.use (c_ed_a ?q1 ?q2 ?q3) ?k1 ?k2 ?k3 ?k4 ?k5 ?k6 ?k7 ?k8 ?k9 ?_; walk_at "use"; (case q2 => k_dflt k_mem); (case q3 => k_dflt k_mem); (case q1 => k_dflt (exact ⟨rfl, rfl, rfl⟩))); unfold RV; intro h9ᵣ tk9ᵣ F9ᵣ N9ᵣ; (try dsimp only); (try k_sweep); (try k_fold)) | with_reducible (k_here; (with_reducible show wpAny _ _ (PySem.call (Value.ref 64) _) _ _ _); k_dflt (refine' Sp.use (c_ed_p ?q1 ?q2 ?q3) ?k1 ?k2 ?k3 ?k4 ?k5 ?k6 ?k7 ?k8 ?k9 ?_; walk_at "use"; (case q2 => k_dflt k_mem); (case q3 => k_dflt k_mem); (case q1 => k_dflt (exact ⟨rfl, rfl, rfl⟩))); unfold RV; intro h9ᵣ tk9ᵣ F9ᵣ N9ᵣ; (try dsimp only); (try k_sweep); (try k_fold)) | with_reducible (k_here; (with_reducible show wpAny _ _ (call (Value.builtin "len") [Value.ref _]) _ _ _); k_dflt (refine' kst_len ?q1 ?q2 ?q3 ?q4 ?_; (case q1 => k_asm); (case q2 => k_mem); (case q3 => assumption); (case q4 => omega))) | with_reducible (k_here; (with_reducible show wpAny _ _ (exec (Stmt.For _ _ _ _ _) _) _ _ _); (rename Fr _ _ _ _ => lF'); (with_unfolding_all refine' For_invVF lF' ?k1 ?k2 ?_; (case k1 => exact rfl); (case k2 => exact rfl); k_whole)) | with_reducible (k_here; (with_reducible show wpAny _ _ (subscriptTail _ _ (Value.ref _) (Value.int _ _)) _ _ _); k_dflt (refine' item_tupleT ?t ?a ?b ?c ?d ?_; (case t => exact News.isTup (by k_asm) (by k_mem)); (case a => decide); (case b => decide); (case c => rfl); (case d => rfl); k_whole)) | with_reducible (k_here; (with_reducible show wpAny _ _ (PySem.pyIter (Value.ref _)) _ _ _); refine Stop.of ?_) | walk1 | (dsimp only; walk1) | fail "no step"))
    (rename News _ _ _ _ => N9)
    (rename (_ < _ ∧ _ < _ ∧ _ < _ ∧ _ < _ ∧ AllLt _ _) => l9)
    refine hret q _ d _ _ _ _ _ _ vs9 ns9 _ _ (_ :: news) _ _ ⟨hq, ⟨_, ?_, ?_, rfl⟩, hg.1, hd1.2, hg.2⟩ (StI.mono hst9 (by omega)) (by k_asm) (cb_drop N9 (List.forall_mem_cons.mpr ⟨by k_dflt k_mem, List.forall_mem_cons.mpr ⟨by k_dflt k_mem, List.forall_mem_cons.mpr ⟨.head _, fun p hp => .tail _ (.tail _ (.tail _ (.tail _ (.tail _ hp))))⟩⟩⟩))
      (List.forall_mem_cons.mpr ⟨Nat.ne_of_gt l9.2.2.1, hS⟩) (List.forall_mem_cons.mpr ⟨Nat.ne_of_gt l9.2.2.2.1, hC⟩) (fun p hp => .tail _ hp) (.head _)
    · omega
    · omega)
end
-- L05n
section
theorem ext_front {h₀ h : Heap} {L l k z d S C : Addr} {ol ok oz od oS oC : Obj} {led : List (Addr × Obj)} (N : News h₀ L h ((l, ol) :: (k, ok) :: (z, oz) :: (d, od) :: (S, oS) :: (C, oC) :: led)) (hlt : ∀ p ∈ (S, oS) :: (C, oC) :: led, p.1 < d) (h1 : d < z) (h2 : z < k) (h3 : k < l) (hS : ∀ p ∈ led, p.1 ≠ S) (hC : ∀ p ∈ led, p.1 ≠ C) :
    News h₀ L h ((S, oS) :: (C, oC) :: (l, ol) :: (k, ok) :: (z, oz) :: (d, od) :: led) ∧ (∀ p ∈ (l, ol) :: (k, ok) :: (z, oz) :: (d, od) :: led, p.1 ≠ S) ∧ (∀ p ∈ (l, ol) :: (k, ok) :: (z, oz) :: (d, od) :: led, p.1 ≠ C) ∧ @LT.lt Nat _ S d ∧ @LT.lt Nat _ C d ∧ @LT.lt Nat _ d z ∧ @LT.lt Nat _ z k ∧ @LT.lt Nat _ k l := by
  have q1 : @LT.lt Nat _ S d := hlt _ (.head _)
  have q2 : @LT.lt Nat _ C d := hlt _ (.tail _ (.head _))
  have q3 : @LT.lt Nat _ d z := h1
  have q4 : @LT.lt Nat _ z k := h2
  have q5 : @LT.lt Nat _ k l := h3
  refine ⟨cb_drop N (List.forall_mem_cons.mpr ⟨.tail _ (.tail _ (.tail _ (.tail _ (.head _)))), List.forall_mem_cons.mpr ⟨.tail _ (.tail _ (.tail _ (.tail _ (.tail _ (.head _))))), List.forall_mem_cons.mpr ⟨.head _, List.forall_mem_cons.mpr ⟨.tail _ (.head _), List.forall_mem_cons.mpr ⟨.tail _ (.tail _ (.head _)), List.forall_mem_cons.mpr ⟨.tail _ (.tail _ (.tail _ (.head _))), fun p hp => .tail _ (.tail _ (.tail _ (.tail _ (.tail _ (.tail _ hp)))))⟩⟩⟩⟩⟩⟩), ?_, ?_, q1, q2, q3, q4, q5⟩
  · exact List.forall_mem_cons.mpr ⟨by k_ne, List.forall_mem_cons.mpr ⟨by k_ne, List.forall_mem_cons.mpr ⟨by k_ne, List.forall_mem_cons.mpr ⟨by k_ne, hS⟩⟩⟩⟩
  · exact List.forall_mem_cons.mpr ⟨by k_ne, List.forall_mem_cons.mpr ⟨by k_ne, List.forall_mem_cons.mpr ⟨by k_ne, List.forall_mem_cons.mpr ⟨by k_ne, hC⟩⟩⟩⟩
theorem news_rot {h₀ h : Heap} {L : Addr} {a b c : Addr × Obj} {led : List (Addr × Obj)} (N : News h₀ L h (a :: b :: c :: led)) : News h₀ L h (b :: c :: a :: led) :=
  cb_drop N (List.forall_mem_cons.mpr ⟨.tail _ (.head _), List.forall_mem_cons.mpr ⟨.tail _ (.tail _ (.head _)), List.forall_mem_cons.mpr ⟨.head _, fun _ hp => .tail _ (.tail _ (.tail _ hp))⟩⟩⟩)
theorem withTok {G : Prop} {x : Value} {news : List (Addr × Obj)} {t : Tok} {n : Int} (_h : x = .int n t) (k : ∀ t', t' = t → G) : G := k t rfl
theorem law_post (ns : List Int) : PySem.Challenge.rw_xq0002_05.row.claim.post [ofPy (PyData.list (List.map PyData.int ns))] (.bool true) [ofPy (PyData.list (List.map PyData.int ns))] = true := by wrow_post
theorem law_none (ns : List Int) (cls : ExcName) : PySem.Challenge.rw_xq0002_05.row.claim.raises [ofPy (PyData.list (List.map PyData.int ns))] cls = false := raisesW_false (by wrow_none_raised) cls
theorem holds : PySem.Challenge.rw_xq0002_05.Holds := hd (by
  w_top off; k_go0; (all_goals try k_fold)
  rename List Int => ns
  (rename IntsAre _ ns => hI)
  rename_i w s₀ s₁ mg mb G Y fa o pm cd doc kV ho hcd hg X V T B TE TW w9 hs hlay0 hL9 hr9 hl2 w8 w7 lA w6 hL ra w1 r0 hr hcond2 hcond1 hD h₁ X0 T' K' F' N' l0
  clear G Y hcd hT8 X V B TE TW T hT9 hs hlay0 hr9 hl2 ra w1 r0 hr hcond1 hD ho codeHd
  have hlen63 : ns.length ≤ 63 := by omega
  (repeat' (first | (k_unfold; (try dsimp only)) | ((with_reducible show wpAny _ _ (execs (List.cons _ _) _) _ _ (Shared.mk _ _ _ (HAdd.hAdd _ _) _)); (rename Fr _ _ _ _ => Fq); refine stm8 Fq ?_; clear Fq; intro tkq mq Fq; (try k_fold)) | with_reducible (k_here; (with_reducible show wpAny _ _ (compareOp .NotEq _ _) _ _ _); k_dflt (refine' ne_ov ?q1 ?_; (case q1 => assumption))) | with_reducible (k_here; (with_reducible show wpAny _ _ (compareOp .NotEq (Value.ref _) (Value.ref _)) _ _ _); k_dflt (refine' ne_t2s ?q1 ?q2 ?q3 ?q4 ?_; (case q1 => k_asm); (case q2 => k_mem); (case q3 => k_mem); (case q4 => ktr_units))) | with_reducible (k_here; (with_reducible show wpAny _ _ (compareOp .NotEq (Value.ref _) (Value.ref _)) _ _ _); k_dflt (refine' ne_t2 ?q1 ?q2 ?q3 ?q4 ?_; (case q1 => k_asm); (case q2 => k_mem); (case q3 => k_mem); (case q4 => ktr_units))) | with_reducible (k_here; (with_reducible show wpAny _ _ (binaryOp .Mult (Value.int _ _) (Value.ref _)) _ _ _); k_dflt (refine' bin_refl ?F ?X ?I ?hC ?hS ?hR ?hF ?hU ?_; (case F => k_asm); (case X => k_asm); (case I => k_inst); (case hC => k_is); (case hS => k_is); (case hR => k_is); (case hF => k_is); (case hU => k_is); k_whole)) | with_reducible (k_here; (with_reducible show wpAny _ _ (PySem.call (Value.ref 263) _) _ _ _); k_dflt (refine' Sp.use (c_pe_order ?q1 ?m0 ?m1) ?k1 ?k2 ?k3 ?k4 ?k5 ?k6 ?k7 ?k8 ?k9 ?_; walk_at "use"; (case m0 => k_dflt k_mem); (case m1 => k_dflt k_mem); (case q1 => exact ⟨rfl, rfl, OvOk.handed (by assumption), rfl, rfl⟩)); unfold RV; intro h9ᵣ tk9ᵣ F9ᵣ N9ᵣ; (try dsimp only); (try k_sweep); (try k_fold)) | with_reducible (k_here; (with_reducible show wpAny _ _ (subscriptTail _ _ (Value.ref _) (Value.int _ _)) _ _ _); k_dflt (refine' item_list ?q1 ?q2 ?q3 ?q4 ?_ ?q5 ?q6; (case q1 => exact News.isList (by k_asm) (by k_mem)); (case q4 => assumption); (case q2 => omega); (case q3 => omega); (case q5 => with_unfolding_all rfl); (case q6 => intro _; with_unfolding_all rfl))) | with_reducible (k_here; (with_reducible show wpAny _ _ (subscriptTail _ _ (Value.ref _) (Value.int _ _)) _ _ _); refine Stop.of ?_) | with_reducible (k_here; (with_reducible show wpAny _ _ (PySem.call (Value.ref _) _) _ _ _); (fail_if_success (with_reducible show wpAny _ _ (PySem.call (Value.ref 361) _) _ _ _)); refine Stop.of ?_) | with_reducible (k_here; (with_reducible show wpAny _ _ (PySem.call (Value.ref 361) _) _ _ _); k_dflt (refine' Sp.use (c_takeU ?q1 ?q2 ?q3 ?q4 ?q5 ?q6) ?k1 ?k2 ?k3 ?k4 ?k5 ?k6 ?k7 ?k8 ?k9 ?_; walk_at "use"; (case q5 => k_updF); (case q6 => (intro o9ᵣ; k_updF)); (case q1 => with_reducible assumption); (case q2 => omega); (case q3 => first | omega | decide); (case q4 => assumption)); unfold RTakeU; intro r9ᵣ tr9ᵣ at9ᵣ ta9ᵣ vs9ᵣ ns9ᵣ zs9ᵣ zc9ᵣ h9ᵣ tk9ᵣ hr91ᵣ hr92ᵣ hst9ᵣ F9ᵣ N9ᵣ; (try dsimp only at N9ᵣ ⊢); (try k_sweep); (try k_fold)) | with_reducible (k_here; (with_reducible show wpAny _ _ (PySem.call (Value.ref 21) _) _ _ _); k_dflt (refine' Sp.use (c_inv ?q1 ?q2 ?q3 ?q4) ?k1 ?k2 ?k3 ?k4 ?k5 ?k6 ?k7 ?k8 ?k9 ?_; walk_at "use"; (case q1 => assumption); (case q2 => assumption); (case q3 => omega); (case q4 => omega)); unfold RInv; intro i9ᵣ t9ᵣ h9ᵣ tk9ᵣ hi1ᵣ hi2ᵣ hi3ᵣ F9ᵣ N9ᵣ; (try dsimp only); (try k_sweep); (try k_fold)) | with_reducible (k_here; (with_reducible show wpAny _ _ (PySem.call (Value.ref 71) _) _ _ _); k_dflt (refine' Sp.use (c_ed_a ?q1 ?q2 ?q3) ?k1 ?k2 ?k3 ?k4 ?k5 ?k6 ?k7 ?k8 ?k9 ?_; walk_at "use"; (case q2 => k_dflt k_mem); (case q3 => k_dflt k_mem); (case q1 => k_dflt (exact ⟨rfl, rfl, rfl⟩))); unfold RV; intro h9ᵣ tk9ᵣ F9ᵣ N9ᵣ; (try dsimp only); (try k_sweep); (try k_fold)) | with_reducible (k_here; (with_reducible show wpAny _ _ (PySem.call (Value.ref 64) _) _ _ _); k_dflt (refine' Sp.use (c_ed_p ?q1 ?q2 ?q3) ?k1 ?k2 ?k3 ?k4 ?k5 ?k6 ?k7 ?k8 ?k9 ?_; walk_at "use"; (case q2 => k_dflt k_mem); (case q3 => k_dflt k_mem); (case q1 => k_dflt (exact ⟨rfl, rfl, rfl⟩))); unfold RV; intro h9ᵣ tk9ᵣ F9ᵣ N9ᵣ; (try dsimp only); (try k_sweep); (try k_fold)) | with_reducible (k_here; (with_reducible show wpAny _ _ (call (Value.builtin "len") [Value.ref _]) _ _ _); k_dflt (refine' kst_len ?q1 ?q2 ?q3 ?q4 ?_; (case q1 => k_asm); (case q2 => k_mem); (case q3 => assumption); (case q4 => omega))) | with_reducible (k_here; (with_reducible show wpAny _ _ (exec (Stmt.For _ _ _ _ _) _) _ _ _); (rename Fr _ _ _ _ => lF'); (with_unfolding_all refine' For_invVF lF' ?k1 ?k2 ?_; (case k1 => exact rfl); (case k2 => exact rfl); k_whole)) | with_reducible (k_here; (with_reducible show wpAny _ _ (subscriptTail _ _ (Value.ref _) (Value.int _ _)) _ _ _); k_dflt (refine' item_tupleT ?t ?a ?b ?c ?d ?_; (case t => exact News.isTup (by k_asm) (by k_mem)); (case a => decide); (case b => decide); (case c => rfl); (case d => rfl); k_whole)) | with_reducible (k_here; (with_reducible show wpAny _ _ (PySem.pyIter (Value.ref _)) _ _ _); refine Stop.of ?_) | walk1 | ((with_reducible show wpAny _ _ _ _ _ _); dsimp only; walk1) | fail "no step"))
  refine Stop.to ?_
  k_dflt (refine' Sp.use (c_state hI hlen63) ?zk1 ?zk2 ?zk3 ?zk4 ?zk5 ?zk6 ?zk7 ?zk8 ?zk9 ?_)
  ((case zk1 => k_asm); (case zk2 => k_asm); (case zk3 => k_asm); (case zk4 => k_asm); (case zk5 => k_asm); (case zk6 => rfl); (case zk7 => ktr_room); (case zk8 => ktr_units))
  (case zk9 => (rename Heap.IsList (ghostOf _ _) _ _ => hLs); exact hLs)
  intro S C ta vs0 ns0 zs zc h' tk' hSC hst F1 N1 hS hC
  try dsimp only
  (repeat' (first | (k_unfold; (try dsimp only)) | ((with_reducible show wpAny _ _ (execs (List.cons _ _) _) _ _ (Shared.mk _ _ _ (HAdd.hAdd _ _) _)); (rename Fr _ _ _ _ => Fq); refine stm8 Fq ?_; clear Fq; intro tkq mq Fq; (try k_fold)) | with_reducible (k_here; (with_reducible show wpAny _ _ (compareOp .NotEq _ _) _ _ _); k_dflt (refine' ne_ov ?q1 ?_; (case q1 => assumption))) | with_reducible (k_here; (with_reducible show wpAny _ _ (compareOp .NotEq (Value.ref _) (Value.ref _)) _ _ _); k_dflt (refine' ne_t2s ?q1 ?q2 ?q3 ?q4 ?_; (case q1 => k_asm); (case q2 => k_mem); (case q3 => k_mem); (case q4 => ktr_units))) | with_reducible (k_here; (with_reducible show wpAny _ _ (compareOp .NotEq (Value.ref _) (Value.ref _)) _ _ _); k_dflt (refine' ne_t2 ?q1 ?q2 ?q3 ?q4 ?_; (case q1 => k_asm); (case q2 => k_mem); (case q3 => k_mem); (case q4 => ktr_units))) | with_reducible (k_here; (with_reducible show wpAny _ _ (binaryOp .Mult (Value.int _ _) (Value.ref _)) _ _ _); k_dflt (refine' bin_refl ?F ?X ?I ?hC ?hS ?hR ?hF ?hU ?_; (case F => k_asm); (case X => k_asm); (case I => k_inst); (case hC => k_is); (case hS => k_is); (case hR => k_is); (case hF => k_is); (case hU => k_is); k_whole)) | with_reducible (k_here; (with_reducible show wpAny _ _ (PySem.call (Value.ref 263) _) _ _ _); k_dflt (refine' Sp.use (c_pe_order ?q1 ?m0 ?m1) ?k1 ?k2 ?k3 ?k4 ?k5 ?k6 ?k7 ?k8 ?k9 ?_; walk_at "use"; (case m0 => k_dflt k_mem); (case m1 => k_dflt k_mem); (case q1 => exact ⟨rfl, rfl, OvOk.handed (by assumption), rfl, rfl⟩)); unfold RV; intro h9ᵣ tk9ᵣ F9ᵣ N9ᵣ; (try dsimp only); (try k_sweep); (try k_fold)) | with_reducible (k_here; (with_reducible show wpAny _ _ (subscriptTail _ _ (Value.ref _) (Value.int _ _)) _ _ _); k_dflt (refine' item_list ?q1 ?q2 ?q3 ?q4 ?_ ?q5 ?q6; (case q1 => exact News.isList (by k_asm) (by k_mem)); (case q4 => assumption); (case q2 => omega); (case q3 => omega); (case q5 => with_unfolding_all rfl); (case q6 => intro _; with_unfolding_all rfl))) | with_reducible (k_here; (with_reducible show wpAny _ _ (subscriptTail _ _ (Value.ref _) (Value.int _ _)) _ _ _); refine Stop.of ?_) | with_reducible (k_here; (with_reducible show wpAny _ _ (PySem.call (Value.ref _) _) _ _ _); (fail_if_success (with_reducible show wpAny _ _ (PySem.call (Value.ref 361) _) _ _ _)); refine Stop.of ?_) | with_reducible (k_here; (with_reducible show wpAny _ _ (PySem.call (Value.ref 361) _) _ _ _); k_dflt (refine' Sp.use (c_takeU ?q1 ?q2 ?q3 ?q4 ?q5 ?q6) ?k1 ?k2 ?k3 ?k4 ?k5 ?k6 ?k7 ?k8 ?k9 ?_; walk_at "use"; (case q5 => k_updF); (case q6 => (intro o9ᵣ; k_updF)); (case q1 => with_reducible assumption); (case q2 => omega); (case q3 => first | omega | decide); (case q4 => assumption)); unfold RTakeU; intro r9ᵣ tr9ᵣ at9ᵣ ta9ᵣ vs9ᵣ ns9ᵣ zs9ᵣ zc9ᵣ h9ᵣ tk9ᵣ hr91ᵣ hr92ᵣ hst9ᵣ F9ᵣ N9ᵣ; (try dsimp only at N9ᵣ ⊢); (try k_sweep); (try k_fold)) | with_reducible (k_here; (with_reducible show wpAny _ _ (PySem.call (Value.ref 21) _) _ _ _); k_dflt (refine' Sp.use (c_inv ?q1 ?q2 ?q3 ?q4) ?k1 ?k2 ?k3 ?k4 ?k5 ?k6 ?k7 ?k8 ?k9 ?_; walk_at "use"; (case q1 => assumption); (case q2 => assumption); (case q3 => omega); (case q4 => omega)); unfold RInv; intro i9ᵣ t9ᵣ h9ᵣ tk9ᵣ hi1ᵣ hi2ᵣ hi3ᵣ F9ᵣ N9ᵣ; (try dsimp only); (try k_sweep); (try k_fold)) | with_reducible (k_here; (with_reducible show wpAny _ _ (PySem.call (Value.ref 71) _) _ _ _); k_dflt (refine' Sp.use (c_ed_a ?q1 ?q2 ?q3) ?k1 ?k2 ?k3 ?k4 ?k5 ?k6 ?k7 ?k8 ?k9 ?_; walk_at "use"; (case q2 => k_dflt k_mem); (case q3 => k_dflt k_mem); (case q1 => k_dflt (exact ⟨rfl, rfl, rfl⟩))); unfold RV; intro h9ᵣ tk9ᵣ F9ᵣ N9ᵣ; (try dsimp only); (try k_sweep); (try k_fold)) | with_reducible (k_here; (with_reducible show wpAny _ _ (PySem.call (Value.ref 64) _) _ _ _); k_dflt (refine' Sp.use (c_ed_p ?q1 ?q2 ?q3) ?k1 ?k2 ?k3 ?k4 ?k5 ?k6 ?k7 ?k8 ?k9 ?_; walk_at "use"; (case q2 => k_dflt k_mem); (case q3 => k_dflt k_mem); (case q1 => k_dflt (exact ⟨rfl, rfl, rfl⟩))); unfold RV; intro h9ᵣ tk9ᵣ F9ᵣ N9ᵣ; (try dsimp only); (try k_sweep); (try k_fold)) | with_reducible (k_here; (with_reducible show wpAny _ _ (call (Value.builtin "len") [Value.ref _]) _ _ _); k_dflt (refine' kst_len ?q1 ?q2 ?q3 ?q4 ?_; (case q1 => k_asm); (case q2 => k_mem); (case q3 => assumption); (case q4 => omega))) | with_reducible (k_here; (with_reducible show wpAny _ _ (exec (Stmt.For _ _ _ _ _) _) _ _ _); (rename Fr _ _ _ _ => lF'); (with_unfolding_all refine' For_invVF lF' ?k1 ?k2 ?_; (case k1 => exact rfl); (case k2 => exact rfl); k_whole)) | with_reducible (k_here; (with_reducible show wpAny _ _ (subscriptTail _ _ (Value.ref _) (Value.int _ _)) _ _ _); k_dflt (refine' item_tupleT ?t ?a ?b ?c ?d ?_; (case t => exact News.isTup (by k_asm) (by k_mem)); (case a => decide); (case b => decide); (case c => rfl); (case d => rfl); k_whole)) | with_reducible (k_here; (with_reducible show wpAny _ _ (PySem.pyIter (Value.ref _)) _ _ _); refine Stop.of ?_) | walk1 | ((with_reducible show wpAny _ _ _ _ _ _); dsimp only; walk1) | fail "no step"))
  refine Stop.to ?_
  have hSC1 : @Ne Nat S C := hSC
  have hSC2 : @Ne Nat C S := fun e => hSC e.symm
  k_dflt (refine' Sp.use (c_edwards hst (by decide) hSC hS hC) ?zk1 ?zk2 ?zk3 ?zk4 ?zk5 ?zk6 ?zk7 ?zk8 trivial ?_)
  ((case zk1 => k_asm); (case zk2 => k_asm); (case zk3 => k_asm); (case zk4 => k_asm); (case zk5 => k_asm); (case zk6 => rfl); (case zk7 => ktr_room); (case zk8 => ktr_units))
  clear hst hS hC
  intro q av dv D u1 u2 u3 at1 ta1 vs1 ns1 zs1 zc1 led1 h1 tk1 hcv hst F1 N1 hS hC hs1 hmD
  have hq := hcv.pr
  obtain ⟨hb1, hb2⟩ := Ed.primes_int hq
  have h161 := hs1 _ (.head _)
  clear hs1
  try dsimp only
  (repeat' (first | (k_unfold; (try dsimp only)) | ((with_reducible show wpAny _ _ (execs (List.cons _ _) _) _ _ (Shared.mk _ _ _ (HAdd.hAdd _ _) _)); (rename Fr _ _ _ _ => Fq); refine stm8 Fq ?_; clear Fq; intro tkq mq Fq; (try k_fold)) | with_reducible (k_here; (with_reducible show wpAny _ _ (compareOp .NotEq _ _) _ _ _); k_dflt (refine' ne_ov ?q1 ?_; (case q1 => assumption))) | with_reducible (k_here; (with_reducible show wpAny _ _ (compareOp .NotEq (Value.ref _) (Value.ref _)) _ _ _); k_dflt (refine' ne_t2s ?q1 ?q2 ?q3 ?q4 ?_; (case q1 => k_asm); (case q2 => k_mem); (case q3 => k_mem); (case q4 => ktr_units))) | with_reducible (k_here; (with_reducible show wpAny _ _ (compareOp .NotEq (Value.ref _) (Value.ref _)) _ _ _); k_dflt (refine' ne_t2 ?q1 ?q2 ?q3 ?q4 ?_; (case q1 => k_asm); (case q2 => k_mem); (case q3 => k_mem); (case q4 => ktr_units))) | with_reducible (k_here; (with_reducible show wpAny _ _ (binaryOp .Mult (Value.int _ _) (Value.ref _)) _ _ _); k_dflt (refine' bin_refl ?F ?X ?I ?hC ?hS ?hR ?hF ?hU ?_; (case F => k_asm); (case X => k_asm); (case I => k_inst); (case hC => k_is); (case hS => k_is); (case hR => k_is); (case hF => k_is); (case hU => k_is); k_whole)) | with_reducible (k_here; (with_reducible show wpAny _ _ (PySem.call (Value.ref 263) _) _ _ _); k_dflt (refine' Sp.use (c_pe_order ?q1 ?m0 ?m1) ?k1 ?k2 ?k3 ?k4 ?k5 ?k6 ?k7 ?k8 ?k9 ?_; walk_at "use"; (case m0 => k_dflt k_mem); (case m1 => k_dflt k_mem); (case q1 => exact ⟨rfl, rfl, OvOk.handed (by assumption), rfl, rfl⟩)); unfold RV; intro h9ᵣ tk9ᵣ F9ᵣ N9ᵣ; (try dsimp only); (try k_sweep); (try k_fold)) | with_reducible (k_here; (with_reducible show wpAny _ _ (subscriptTail _ _ (Value.ref _) (Value.int _ _)) _ _ _); k_dflt (refine' item_list ?q1 ?q2 ?q3 ?q4 ?_ ?q5 ?q6; (case q1 => exact News.isList (by k_asm) (by k_mem)); (case q4 => assumption); (case q2 => omega); (case q3 => omega); (case q5 => with_unfolding_all rfl); (case q6 => intro _; with_unfolding_all rfl))) | with_reducible (k_here; (with_reducible show wpAny _ _ (subscriptTail _ _ (Value.ref _) (Value.int _ _)) _ _ _); refine Stop.of ?_) | with_reducible (k_here; (with_reducible show wpAny _ _ (PySem.call (Value.ref _) _) _ _ _); (fail_if_success (with_reducible show wpAny _ _ (PySem.call (Value.ref 361) _) _ _ _)); refine Stop.of ?_) | with_reducible (k_here; (with_reducible show wpAny _ _ (PySem.call (Value.ref 361) _) _ _ _); k_dflt (refine' Sp.use (c_takeU ?q1 ?q2 ?q3 ?q4 ?q5 ?q6) ?k1 ?k2 ?k3 ?k4 ?k5 ?k6 ?k7 ?k8 ?k9 ?_; walk_at "use"; (case q5 => k_updF); (case q6 => (intro o9ᵣ; k_updF)); (case q1 => with_reducible assumption); (case q2 => omega); (case q3 => first | omega | decide); (case q4 => assumption)); unfold RTakeU; intro r9ᵣ tr9ᵣ at9ᵣ ta9ᵣ vs9ᵣ ns9ᵣ zs9ᵣ zc9ᵣ h9ᵣ tk9ᵣ hr91ᵣ hr92ᵣ hst9ᵣ F9ᵣ N9ᵣ; (try dsimp only at N9ᵣ ⊢); (try k_sweep); (try k_fold)) | with_reducible (k_here; (with_reducible show wpAny _ _ (PySem.call (Value.ref 21) _) _ _ _); k_dflt (refine' Sp.use (c_inv ?q1 ?q2 ?q3 ?q4) ?k1 ?k2 ?k3 ?k4 ?k5 ?k6 ?k7 ?k8 ?k9 ?_; walk_at "use"; (case q1 => assumption); (case q2 => assumption); (case q3 => omega); (case q4 => omega)); unfold RInv; intro i9ᵣ t9ᵣ h9ᵣ tk9ᵣ hi1ᵣ hi2ᵣ hi3ᵣ F9ᵣ N9ᵣ; (try dsimp only); (try k_sweep); (try k_fold)) | with_reducible (k_here; (with_reducible show wpAny _ _ (PySem.call (Value.ref 71) _) _ _ _); k_dflt (refine' Sp.use (c_ed_a ?q1 ?q2 ?q3) ?k1 ?k2 ?k3 ?k4 ?k5 ?k6 ?k7 ?k8 ?k9 ?_; walk_at "use"; (case q2 => k_dflt k_mem); (case q3 => k_dflt k_mem); (case q1 => k_dflt (exact ⟨rfl, rfl, rfl⟩))); unfold RV; intro h9ᵣ tk9ᵣ F9ᵣ N9ᵣ; (try dsimp only); (try k_sweep); (try k_fold)) | with_reducible (k_here; (with_reducible show wpAny _ _ (PySem.call (Value.ref 64) _) _ _ _); k_dflt (refine' Sp.use (c_ed_p ?q1 ?q2 ?q3) ?k1 ?k2 ?k3 ?k4 ?k5 ?k6 ?k7 ?k8 ?k9 ?_; walk_at "use"; (case q2 => k_dflt k_mem); (case q3 => k_dflt k_mem); (case q1 => k_dflt (exact ⟨rfl, rfl, rfl⟩))); unfold RV; intro h9ᵣ tk9ᵣ F9ᵣ N9ᵣ; (try dsimp only); (try k_sweep); (try k_fold)) | with_reducible (k_here; (with_reducible show wpAny _ _ (call (Value.builtin "len") [Value.ref _]) _ _ _); k_dflt (refine' kst_len ?q1 ?q2 ?q3 ?q4 ?_; (case q1 => k_asm); (case q2 => k_mem); (case q3 => assumption); (case q4 => omega))) | with_reducible (k_here; (with_reducible show wpAny _ _ (exec (Stmt.For _ _ _ _ _) _) _ _ _); (rename Fr _ _ _ _ => lF'); (with_unfolding_all refine' For_invVF lF' ?k1 ?k2 ?_; (case k1 => exact rfl); (case k2 => exact rfl); k_whole)) | with_reducible (k_here; (with_reducible show wpAny _ _ (subscriptTail _ _ (Value.ref _) (Value.int _ _)) _ _ _); k_dflt (refine' item_tupleT ?t ?a ?b ?c ?d ?_; (case t => exact News.isTup (by k_asm) (by k_mem)); (case a => decide); (case b => decide); (case c => rfl); (case d => rfl); k_whole)) | with_reducible (k_here; (with_reducible show wpAny _ _ (PySem.pyIter (Value.ref _)) _ _ _); refine Stop.of ?_) | walk1 | ((with_reducible show wpAny _ _ _ _ _ _); dsimp only; walk1) | fail "no step"))
  refine Stop.to ?_
  k_dflt (refine' Sp.use c_mkEd ?zk1 ?zk2 ?zk3 ?zk4 ?zk5 ?zk6 ?zk7 ?zk8 trivial ?_)
  ((case zk1 => k_asm); (case zk2 => k_asm); (case zk3 => k_asm); (case zk4 => k_asm); (case zk5 => k_asm); (case zk6 => rfl); (case zk7 => ktr_room); (case zk8 => ktr_units))
  unfold REd
  intro cx cd e1 e2 e3 e4 e5 h2 tk2 F2 N2 ltc ltx
  have hcS := ltc (S, _) (.head _)
  have hcC := ltc (C, _) (.tail _ (.head _))
  have N3 : News _ _ _ ((S, stO at1 ta1 C zs1) :: (C, W.listOf vs1.toArray zc1) :: (cx, instObj 88 cd) :: (cd, dictOf (edE w e1 e2 e3 e4 e5 (.int q u1) (.int av u2) (.int dv u3) .none .none) 5) :: led1) := cb_drop N2 (List.forall_mem_cons.mpr ⟨.tail _ (.tail _ (.head _)), List.forall_mem_cons.mpr ⟨.tail _ (.tail _ (.tail _ (.head _))), List.forall_mem_cons.mpr ⟨.head _, List.forall_mem_cons.mpr ⟨.tail _ (.head _), fun p hp => .tail _ (.tail _ (.tail _ (.tail _ hp)))⟩⟩⟩⟩)
  replace hS : ∀ p ∈ (cx, instObj 88 cd) :: (cd, dictOf (edE w e1 e2 e3 e4 e5 (.int q u1) (.int av u2) (.int dv u3) .none .none) 5) :: led1, p.1 ≠ S := List.forall_mem_cons.mpr ⟨Nat.ne_of_gt (Nat.lt_trans hcS ltx), List.forall_mem_cons.mpr ⟨Nat.ne_of_gt hcS, hS⟩⟩
  replace hC : ∀ p ∈ (cx, instObj 88 cd) :: (cd, dictOf (edE w e1 e2 e3 e4 e5 (.int q u1) (.int av u2) (.int dv u3) .none .none) 5) :: led1, p.1 ≠ C := List.forall_mem_cons.mpr ⟨Nat.ne_of_gt (Nat.lt_trans hcC ltx), List.forall_mem_cons.mpr ⟨Nat.ne_of_gt hcC, hC⟩⟩
  clear N2 ltc hcS hcC ltx hmD
  try dsimp only
  (repeat' (first | (k_unfold; (try dsimp only)) | ((with_reducible show wpAny _ _ (execs (List.cons _ _) _) _ _ (Shared.mk _ _ _ (HAdd.hAdd _ _) _)); (rename Fr _ _ _ _ => Fq); refine stm8 Fq ?_; clear Fq; intro tkq mq Fq; (try k_fold)) | with_reducible (k_here; (with_reducible show wpAny _ _ (compareOp .NotEq _ _) _ _ _); k_dflt (refine' ne_ov ?q1 ?_; (case q1 => assumption))) | with_reducible (k_here; (with_reducible show wpAny _ _ (compareOp .NotEq (Value.ref _) (Value.ref _)) _ _ _); k_dflt (refine' ne_t2s ?q1 ?q2 ?q3 ?q4 ?_; (case q1 => k_asm); (case q2 => k_mem); (case q3 => k_mem); (case q4 => ktr_units))) | with_reducible (k_here; (with_reducible show wpAny _ _ (compareOp .NotEq (Value.ref _) (Value.ref _)) _ _ _); k_dflt (refine' ne_t2 ?q1 ?q2 ?q3 ?q4 ?_; (case q1 => k_asm); (case q2 => k_mem); (case q3 => k_mem); (case q4 => ktr_units))) | with_reducible (k_here; (with_reducible show wpAny _ _ (binaryOp .Mult (Value.int _ _) (Value.ref _)) _ _ _); k_dflt (refine' bin_refl ?F ?X ?I ?hC ?hS ?hR ?hF ?hU ?_; (case F => k_asm); (case X => k_asm); (case I => k_inst); (case hC => k_is); (case hS => k_is); (case hR => k_is); (case hF => k_is); (case hU => k_is); k_whole)) | with_reducible (k_here; (with_reducible show wpAny _ _ (PySem.call (Value.ref 263) _) _ _ _); k_dflt (refine' Sp.use (c_pe_order ?q1 ?m0 ?m1) ?k1 ?k2 ?k3 ?k4 ?k5 ?k6 ?k7 ?k8 ?k9 ?_; walk_at "use"; (case m0 => k_dflt k_mem); (case m1 => k_dflt k_mem); (case q1 => exact ⟨rfl, rfl, OvOk.handed (by assumption), rfl, rfl⟩)); unfold RV; intro h9ᵣ tk9ᵣ F9ᵣ N9ᵣ; (try dsimp only); (try k_sweep); (try k_fold)) | with_reducible (k_here; (with_reducible show wpAny _ _ (subscriptTail _ _ (Value.ref _) (Value.int _ _)) _ _ _); k_dflt (refine' item_list ?q1 ?q2 ?q3 ?q4 ?_ ?q5 ?q6; (case q1 => exact News.isList (by k_asm) (by k_mem)); (case q4 => assumption); (case q2 => omega); (case q3 => omega); (case q5 => with_unfolding_all rfl); (case q6 => intro _; with_unfolding_all rfl))) | with_reducible (k_here; (with_reducible show wpAny _ _ (subscriptTail _ _ (Value.ref _) (Value.int _ _)) _ _ _); refine Stop.of ?_) | with_reducible (k_here; (with_reducible show wpAny _ _ (PySem.call (Value.ref _) _) _ _ _); (fail_if_success (with_reducible show wpAny _ _ (PySem.call (Value.ref 361) _) _ _ _)); refine Stop.of ?_) | with_reducible (k_here; (with_reducible show wpAny _ _ (PySem.call (Value.ref 361) _) _ _ _); k_dflt (refine' Sp.use (c_takeU ?q1 ?q2 ?q3 ?q4 ?q5 ?q6) ?k1 ?k2 ?k3 ?k4 ?k5 ?k6 ?k7 ?k8 ?k9 ?_; walk_at "use"; (case q5 => k_updF); (case q6 => (intro o9ᵣ; k_updF)); (case q1 => with_reducible assumption); (case q2 => omega); (case q3 => first | omega | decide); (case q4 => assumption)); unfold RTakeU; intro r9ᵣ tr9ᵣ at9ᵣ ta9ᵣ vs9ᵣ ns9ᵣ zs9ᵣ zc9ᵣ h9ᵣ tk9ᵣ hr91ᵣ hr92ᵣ hst9ᵣ F9ᵣ N9ᵣ; (try dsimp only at N9ᵣ ⊢); (try k_sweep); (try k_fold)) | with_reducible (k_here; (with_reducible show wpAny _ _ (PySem.call (Value.ref 21) _) _ _ _); k_dflt (refine' Sp.use (c_inv ?q1 ?q2 ?q3 ?q4) ?k1 ?k2 ?k3 ?k4 ?k5 ?k6 ?k7 ?k8 ?k9 ?_; walk_at "use"; (case q1 => assumption); (case q2 => assumption); (case q3 => omega); (case q4 => omega)); unfold RInv; intro i9ᵣ t9ᵣ h9ᵣ tk9ᵣ hi1ᵣ hi2ᵣ hi3ᵣ F9ᵣ N9ᵣ; (try dsimp only); (try k_sweep); (try k_fold)) | with_reducible (k_here; (with_reducible show wpAny _ _ (PySem.call (Value.ref 71) _) _ _ _); k_dflt (refine' Sp.use (c_ed_a ?q1 ?q2 ?q3) ?k1 ?k2 ?k3 ?k4 ?k5 ?k6 ?k7 ?k8 ?k9 ?_; walk_at "use"; (case q2 => k_dflt k_mem); (case q3 => k_dflt k_mem); (case q1 => k_dflt (exact ⟨rfl, rfl, rfl⟩))); unfold RV; intro h9ᵣ tk9ᵣ F9ᵣ N9ᵣ; (try dsimp only); (try k_sweep); (try k_fold)) | with_reducible (k_here; (with_reducible show wpAny _ _ (PySem.call (Value.ref 64) _) _ _ _); k_dflt (refine' Sp.use (c_ed_p ?q1 ?q2 ?q3) ?k1 ?k2 ?k3 ?k4 ?k5 ?k6 ?k7 ?k8 ?k9 ?_; walk_at "use"; (case q2 => k_dflt k_mem); (case q3 => k_dflt k_mem); (case q1 => k_dflt (exact ⟨rfl, rfl, rfl⟩))); unfold RV; intro h9ᵣ tk9ᵣ F9ᵣ N9ᵣ; (try dsimp only); (try k_sweep); (try k_fold)) | with_reducible (k_here; (with_reducible show wpAny _ _ (call (Value.builtin "len") [Value.ref _]) _ _ _); k_dflt (refine' kst_len ?q1 ?q2 ?q3 ?q4 ?_; (case q1 => k_asm); (case q2 => k_mem); (case q3 => assumption); (case q4 => omega))) | with_reducible (k_here; (with_reducible show wpAny _ _ (exec (Stmt.For _ _ _ _ _) _) _ _ _); (rename Fr _ _ _ _ => lF'); (with_unfolding_all refine' For_invVF lF' ?k1 ?k2 ?_; (case k1 => exact rfl); (case k2 => exact rfl); k_whole)) | with_reducible (k_here; (with_reducible show wpAny _ _ (subscriptTail _ _ (Value.ref _) (Value.int _ _)) _ _ _); k_dflt (refine' item_tupleT ?t ?a ?b ?c ?d ?_; (case t => exact News.isTup (by k_asm) (by k_mem)); (case a => decide); (case b => decide); (case c => rfl); (case d => rfl); k_whole)) | with_reducible (k_here; (with_reducible show wpAny _ _ (PySem.pyIter (Value.ref _)) _ _ _); refine Stop.of ?_) | walk1 | ((with_reducible show wpAny _ _ _ _ _ _); dsimp only; walk1) | fail "no step"))
  refine Stop.to ?_
  k_dflt (refine' Sp.use (c_group hcv hst (by decide) hSC hS hC) ?zk1 ?zk2 ?zk3 ?zk4 ?zk5 ?zk6 ?zk7 ?zk8 trivial ?_)
  ((case zk1 => k_asm); (case zk2 => k_asm); (case zk3 => k_asm); (case zk4 => k_asm); (case zk5 => k_asm); (case zk6 => rfl); (case zk7 => ktr_room); (case zk8 => ktr_units))
  clear hst hS hC
  intro lR vs z at2 ta2 vs2 ns2 zs2 zc2 led2 h3 tk3 hcase hvl1 hvl2 hst F3 N4 hS hC hsub hmR
  have m3 := hsub _ (.head _)
  have m4 := hsub _ (.tail _ (.head _))
  have h161' := hsub _ (.tail _ (.tail _ h161))
  have hvl9 : vs.length = vs.length := rfl
  clear hsub h161
  try dsimp only
  rcases hcase with hone | ⟨P, hc, hR⟩
  · (repeat' (first | (k_unfold; (try dsimp only)) | ((with_reducible show wpAny _ _ (execs (List.cons _ _) _) _ _ (Shared.mk _ _ _ (HAdd.hAdd _ _) _)); (rename Fr _ _ _ _ => Fq); refine stm8 Fq ?_; clear Fq; intro tkq mq Fq; (try k_fold)) | with_reducible (k_here; (with_reducible show wpAny _ _ (compareOp .NotEq _ _) _ _ _); k_dflt (refine' ne_ov ?q1 ?_; (case q1 => assumption))) | with_reducible (k_here; (with_reducible show wpAny _ _ (compareOp .NotEq (Value.ref _) (Value.ref _)) _ _ _); k_dflt (refine' ne_t2s ?q1 ?q2 ?q3 ?q4 ?_; (case q1 => k_asm); (case q2 => k_mem); (case q3 => k_mem); (case q4 => ktr_units))) | with_reducible (k_here; (with_reducible show wpAny _ _ (compareOp .NotEq (Value.ref _) (Value.ref _)) _ _ _); k_dflt (refine' ne_t2 ?q1 ?q2 ?q3 ?q4 ?_; (case q1 => k_asm); (case q2 => k_mem); (case q3 => k_mem); (case q4 => ktr_units))) | with_reducible (k_here; (with_reducible show wpAny _ _ (binaryOp .Mult (Value.int _ _) (Value.ref _)) _ _ _); k_dflt (refine' bin_refl ?F ?X ?I ?hC ?hS ?hR ?hF ?hU ?_; (case F => k_asm); (case X => k_asm); (case I => k_inst); (case hC => k_is); (case hS => k_is); (case hR => k_is); (case hF => k_is); (case hU => k_is); k_whole)) | with_reducible (k_here; (with_reducible show wpAny _ _ (PySem.call (Value.ref 263) _) _ _ _); k_dflt (refine' Sp.use (c_pe_order ?q1 ?m0 ?m1) ?k1 ?k2 ?k3 ?k4 ?k5 ?k6 ?k7 ?k8 ?k9 ?_; walk_at "use"; (case m0 => k_dflt k_mem); (case m1 => k_dflt k_mem); (case q1 => exact ⟨rfl, rfl, OvOk.handed (by assumption), rfl, rfl⟩)); unfold RV; intro h9ᵣ tk9ᵣ F9ᵣ N9ᵣ; (try dsimp only); (try k_sweep); (try k_fold)) | with_reducible (k_here; (with_reducible show wpAny _ _ (subscriptTail _ _ (Value.ref _) (Value.int _ _)) _ _ _); k_dflt (refine' item_list ?q1 ?q2 ?q3 ?q4 ?_ ?q5 ?q6; (case q1 => exact News.isList (by k_asm) (by k_mem)); (case q4 => assumption); (case q2 => omega); (case q3 => omega); (case q5 => with_unfolding_all rfl); (case q6 => intro _; with_unfolding_all rfl))) | with_reducible (k_here; (with_reducible show wpAny _ _ (subscriptTail _ _ (Value.ref _) (Value.int _ _)) _ _ _); refine Stop.of ?_) | with_reducible (k_here; (with_reducible show wpAny _ _ (PySem.call (Value.ref _) _) _ _ _); (fail_if_success (with_reducible show wpAny _ _ (PySem.call (Value.ref 361) _) _ _ _)); refine Stop.of ?_) | with_reducible (k_here; (with_reducible show wpAny _ _ (PySem.call (Value.ref 361) _) _ _ _); k_dflt (refine' Sp.use (c_takeU ?q1 ?q2 ?q3 ?q4 ?q5 ?q6) ?k1 ?k2 ?k3 ?k4 ?k5 ?k6 ?k7 ?k8 ?k9 ?_; walk_at "use"; (case q5 => k_updF); (case q6 => (intro o9ᵣ; k_updF)); (case q1 => with_reducible assumption); (case q2 => omega); (case q3 => first | omega | decide); (case q4 => assumption)); unfold RTakeU; intro r9ᵣ tr9ᵣ at9ᵣ ta9ᵣ vs9ᵣ ns9ᵣ zs9ᵣ zc9ᵣ h9ᵣ tk9ᵣ hr91ᵣ hr92ᵣ hst9ᵣ F9ᵣ N9ᵣ; (try dsimp only at N9ᵣ ⊢); (try k_sweep); (try k_fold)) | with_reducible (k_here; (with_reducible show wpAny _ _ (PySem.call (Value.ref 21) _) _ _ _); k_dflt (refine' Sp.use (c_inv ?q1 ?q2 ?q3 ?q4) ?k1 ?k2 ?k3 ?k4 ?k5 ?k6 ?k7 ?k8 ?k9 ?_; walk_at "use"; (case q1 => assumption); (case q2 => assumption); (case q3 => omega); (case q4 => omega)); unfold RInv; intro i9ᵣ t9ᵣ h9ᵣ tk9ᵣ hi1ᵣ hi2ᵣ hi3ᵣ F9ᵣ N9ᵣ; (try dsimp only); (try k_sweep); (try k_fold)) | with_reducible (k_here; (with_reducible show wpAny _ _ (PySem.call (Value.ref 71) _) _ _ _); k_dflt (refine' Sp.use (c_ed_a ?q1 ?q2 ?q3) ?k1 ?k2 ?k3 ?k4 ?k5 ?k6 ?k7 ?k8 ?k9 ?_; walk_at "use"; (case q2 => k_dflt k_mem); (case q3 => k_dflt k_mem); (case q1 => k_dflt (exact ⟨rfl, rfl, rfl⟩))); unfold RV; intro h9ᵣ tk9ᵣ F9ᵣ N9ᵣ; (try dsimp only); (try k_sweep); (try k_fold)) | with_reducible (k_here; (with_reducible show wpAny _ _ (PySem.call (Value.ref 64) _) _ _ _); k_dflt (refine' Sp.use (c_ed_p ?q1 ?q2 ?q3) ?k1 ?k2 ?k3 ?k4 ?k5 ?k6 ?k7 ?k8 ?k9 ?_; walk_at "use"; (case q2 => k_dflt k_mem); (case q3 => k_dflt k_mem); (case q1 => k_dflt (exact ⟨rfl, rfl, rfl⟩))); unfold RV; intro h9ᵣ tk9ᵣ F9ᵣ N9ᵣ; (try dsimp only); (try k_sweep); (try k_fold)) | with_reducible (k_here; (with_reducible show wpAny _ _ (call (Value.builtin "len") [Value.ref _]) _ _ _); k_dflt (refine' kst_len ?q1 ?q2 ?q3 ?q4 ?_; (case q1 => k_asm); (case q2 => k_mem); (case q3 => assumption); (case q4 => omega))) | with_reducible (k_here; (with_reducible show wpAny _ _ (exec (Stmt.For _ _ _ _ _) _) _ _ _); (rename Fr _ _ _ _ => lF'); (with_unfolding_all refine' For_invVF lF' ?k1 ?k2 ?_; (case k1 => exact rfl); (case k2 => exact rfl); k_whole)) | with_reducible (k_here; (with_reducible show wpAny _ _ (subscriptTail _ _ (Value.ref _) (Value.int _ _)) _ _ _); k_dflt (refine' item_tupleT ?t ?a ?b ?c ?d ?_; (case t => exact News.isTup (by k_asm) (by k_mem)); (case a => decide); (case b => decide); (case c => rfl); (case d => rfl); k_whole)) | with_reducible (k_here; (with_reducible show wpAny _ _ (PySem.pyIter (Value.ref _)) _ _ _); refine Stop.of ?_) | walk1 | ((with_reducible show wpAny _ _ _ _ _ _); dsimp only; walk1) | fail "no step"))
    exact (show GoodW _ _ _ _ _ (.ok (.ret (.bool _))) _ from goodW_bool (by assumption) (by assumption) (law_none ns) (law_post ns))
  · have hbig : (1 : Int) < vs.length := by have := hc.big; omega
    obtain ⟨r1, w1, w2, hw, hmr1⟩ := hR 1 _ (List.getElem?_eq_getElem (by omega))
    have e1 : Ed.lmul q av dv P 1 = P := by
      have h := Ed.zM_one hc
      unfold Ed.zM at h
      rwa [Int.emod_eq_of_lt (by omega) hbig] at h
    rw [e1] at hmr1
    have hr1 : vs.toArray[(1 : Int).toNat]? = some (.ref r1) := by
      rw [← hw]
      simp [show 1 < vs.length by omega]
    (repeat' (first | (k_unfold; (try dsimp only)) | ((with_reducible show wpAny _ _ (execs (List.cons _ _) _) _ _ (Shared.mk _ _ _ (HAdd.hAdd _ _) _)); (rename Fr _ _ _ _ => Fq); refine stm8 Fq ?_; clear Fq; intro tkq mq Fq; (try k_fold)) | with_reducible (k_here; (with_reducible show wpAny _ _ (compareOp .NotEq _ _) _ _ _); k_dflt (refine' ne_ov ?q1 ?_; (case q1 => assumption))) | with_reducible (k_here; (with_reducible show wpAny _ _ (compareOp .NotEq (Value.ref _) (Value.ref _)) _ _ _); k_dflt (refine' ne_t2s ?q1 ?q2 ?q3 ?q4 ?_; (case q1 => k_asm); (case q2 => k_mem); (case q3 => k_mem); (case q4 => ktr_units))) | with_reducible (k_here; (with_reducible show wpAny _ _ (compareOp .NotEq (Value.ref _) (Value.ref _)) _ _ _); k_dflt (refine' ne_t2 ?q1 ?q2 ?q3 ?q4 ?_; (case q1 => k_asm); (case q2 => k_mem); (case q3 => k_mem); (case q4 => ktr_units))) | with_reducible (k_here; (with_reducible show wpAny _ _ (binaryOp .Mult (Value.int _ _) (Value.ref _)) _ _ _); k_dflt (refine' bin_refl ?F ?X ?I ?hC ?hS ?hR ?hF ?hU ?_; (case F => k_asm); (case X => k_asm); (case I => k_inst); (case hC => k_is); (case hS => k_is); (case hR => k_is); (case hF => k_is); (case hU => k_is); k_whole)) | with_reducible (k_here; (with_reducible show wpAny _ _ (PySem.call (Value.ref 263) _) _ _ _); k_dflt (refine' Sp.use (c_pe_order ?q1 ?m0 ?m1) ?k1 ?k2 ?k3 ?k4 ?k5 ?k6 ?k7 ?k8 ?k9 ?_; walk_at "use"; (case m0 => k_dflt k_mem); (case m1 => k_dflt k_mem); (case q1 => exact ⟨rfl, rfl, OvOk.handed (by assumption), rfl, rfl⟩)); unfold RV; intro h9ᵣ tk9ᵣ F9ᵣ N9ᵣ; (try dsimp only); (try k_sweep); (try k_fold)) | with_reducible (k_here; (with_reducible show wpAny _ _ (subscriptTail _ _ (Value.ref _) (Value.int _ _)) _ _ _); k_dflt (refine' item_list ?q1 ?q2 ?q3 ?q4 ?_ ?q5 ?q6; (case q1 => exact News.isList (by k_asm) (by k_mem)); (case q4 => assumption); (case q2 => omega); (case q3 => omega); (case q5 => with_unfolding_all rfl); (case q6 => intro _; with_unfolding_all rfl))) | with_reducible (k_here; (with_reducible show wpAny _ _ (subscriptTail _ _ (Value.ref _) (Value.int _ _)) _ _ _); refine Stop.of ?_) | with_reducible (k_here; (with_reducible show wpAny _ _ (PySem.call (Value.ref _) _) _ _ _); (fail_if_success (with_reducible show wpAny _ _ (PySem.call (Value.ref 361) _) _ _ _)); refine Stop.of ?_) | with_reducible (k_here; (with_reducible show wpAny _ _ (PySem.call (Value.ref 361) _) _ _ _); k_dflt (refine' Sp.use (c_takeU ?q1 ?q2 ?q3 ?q4 ?q5 ?q6) ?k1 ?k2 ?k3 ?k4 ?k5 ?k6 ?k7 ?k8 ?k9 ?_; walk_at "use"; (case q5 => k_updF); (case q6 => (intro o9ᵣ; k_updF)); (case q1 => with_reducible assumption); (case q2 => omega); (case q3 => first | omega | decide); (case q4 => assumption)); unfold RTakeU; intro r9ᵣ tr9ᵣ at9ᵣ ta9ᵣ vs9ᵣ ns9ᵣ zs9ᵣ zc9ᵣ h9ᵣ tk9ᵣ hr91ᵣ hr92ᵣ hst9ᵣ F9ᵣ N9ᵣ; (try dsimp only at N9ᵣ ⊢); (try k_sweep); (try k_fold)) | with_reducible (k_here; (with_reducible show wpAny _ _ (PySem.call (Value.ref 21) _) _ _ _); k_dflt (refine' Sp.use (c_inv ?q1 ?q2 ?q3 ?q4) ?k1 ?k2 ?k3 ?k4 ?k5 ?k6 ?k7 ?k8 ?k9 ?_; walk_at "use"; (case q1 => assumption); (case q2 => assumption); (case q3 => omega); (case q4 => omega)); unfold RInv; intro i9ᵣ t9ᵣ h9ᵣ tk9ᵣ hi1ᵣ hi2ᵣ hi3ᵣ F9ᵣ N9ᵣ; (try dsimp only); (try k_sweep); (try k_fold)) | with_reducible (k_here; (with_reducible show wpAny _ _ (PySem.call (Value.ref 71) _) _ _ _); k_dflt (refine' Sp.use (c_ed_a ?q1 ?q2 ?q3) ?k1 ?k2 ?k3 ?k4 ?k5 ?k6 ?k7 ?k8 ?k9 ?_; walk_at "use"; (case q2 => k_dflt k_mem); (case q3 => k_dflt k_mem); (case q1 => k_dflt (exact ⟨rfl, rfl, rfl⟩))); unfold RV; intro h9ᵣ tk9ᵣ F9ᵣ N9ᵣ; (try dsimp only); (try k_sweep); (try k_fold)) | with_reducible (k_here; (with_reducible show wpAny _ _ (PySem.call (Value.ref 64) _) _ _ _); k_dflt (refine' Sp.use (c_ed_p ?q1 ?q2 ?q3) ?k1 ?k2 ?k3 ?k4 ?k5 ?k6 ?k7 ?k8 ?k9 ?_; walk_at "use"; (case q2 => k_dflt k_mem); (case q3 => k_dflt k_mem); (case q1 => k_dflt (exact ⟨rfl, rfl, rfl⟩))); unfold RV; intro h9ᵣ tk9ᵣ F9ᵣ N9ᵣ; (try dsimp only); (try k_sweep); (try k_fold)) | with_reducible (k_here; (with_reducible show wpAny _ _ (call (Value.builtin "len") [Value.ref _]) _ _ _); k_dflt (refine' kst_len ?q1 ?q2 ?q3 ?q4 ?_; (case q1 => k_asm); (case q2 => k_mem); (case q3 => assumption); (case q4 => omega))) | with_reducible (k_here; (with_reducible show wpAny _ _ (exec (Stmt.For _ _ _ _ _) _) _ _ _); (rename Fr _ _ _ _ => lF'); (with_unfolding_all refine' For_invVF lF' ?k1 ?k2 ?_; (case k1 => exact rfl); (case k2 => exact rfl); k_whole)) | with_reducible (k_here; (with_reducible show wpAny _ _ (subscriptTail _ _ (Value.ref _) (Value.int _ _)) _ _ _); k_dflt (refine' item_tupleT ?t ?a ?b ?c ?d ?_; (case t => exact News.isTup (by k_asm) (by k_mem)); (case a => decide); (case b => decide); (case c => rfl); (case d => rfl); k_whole)) | with_reducible (k_here; (with_reducible show wpAny _ _ (PySem.pyIter (Value.ref _)) _ _ _); refine Stop.of ?_) | walk1 | ((with_reducible show wpAny _ _ _ _ _ _); dsimp only; walk1) | fail "no step"))
    · exfalso; omega
    · refine Stop.to ?_
      k_dflt (refine' Sp.use (c_ext (x := P.1) (y := P.2) hq hc.ib hst (by decide) hSC hS hC m3 m4 hmr1) ?zk1 ?zk2 ?zk3 ?zk4 ?zk5 ?zk6 ?zk7 ?zk8 trivial ?_)
      ((case zk1 => k_asm); (case zk2 => k_asm); (case zk3 => k_asm); (case zk4 => k_asm); (case zk5 => k_asm); (case zk6 => rfl); (case zk7 => ktr_room); (case zk8 => ktr_units))
      unfold RExt RPe
      intro Z1 at3 ta3 vs3 ns3 zs3 zc3 hZ10 hZ11 hst3 x1 d1 l1 k1 a1 a2 a3 a4 a5 p1 p2 p3 p4 h5 tk5 F5 N5 o1 o2 o3 o4
      (try dsimp only at N5)
      obtain ⟨N6, hS3, hC3, f1, f2, f3, f4, f5⟩ := ext_front N5 o1 o2 o3 o4 hS hC
      have o1' : ∀ p ∈ led2, p.1 < d1 := fun p hp => o1 p (.tail _ (.tail _ hp))
      clear N5 o1 o2 o3 o4 hst
      try dsimp only
      (repeat' (first | (k_unfold; (try dsimp only)) | ((with_reducible show wpAny _ _ (execs (List.cons _ _) _) _ _ (Shared.mk _ _ _ (HAdd.hAdd _ _) _)); (rename Fr _ _ _ _ => Fq); refine stm8 Fq ?_; clear Fq; intro tkq mq Fq; (try k_fold)) | with_reducible (k_here; (with_reducible show wpAny _ _ (compareOp .NotEq _ _) _ _ _); k_dflt (refine' ne_ov ?q1 ?_; (case q1 => assumption))) | with_reducible (k_here; (with_reducible show wpAny _ _ (compareOp .NotEq (Value.ref _) (Value.ref _)) _ _ _); k_dflt (refine' ne_t2s ?q1 ?q2 ?q3 ?q4 ?_; (case q1 => k_asm); (case q2 => k_mem); (case q3 => k_mem); (case q4 => ktr_units))) | with_reducible (k_here; (with_reducible show wpAny _ _ (compareOp .NotEq (Value.ref _) (Value.ref _)) _ _ _); k_dflt (refine' ne_t2 ?q1 ?q2 ?q3 ?q4 ?_; (case q1 => k_asm); (case q2 => k_mem); (case q3 => k_mem); (case q4 => ktr_units))) | with_reducible (k_here; (with_reducible show wpAny _ _ (binaryOp .Mult (Value.int _ _) (Value.ref _)) _ _ _); k_dflt (refine' bin_refl ?F ?X ?I ?hC ?hS ?hR ?hF ?hU ?_; (case F => k_asm); (case X => k_asm); (case I => k_inst); (case hC => k_is); (case hS => k_is); (case hR => k_is); (case hF => k_is); (case hU => k_is); k_whole)) | with_reducible (k_here; (with_reducible show wpAny _ _ (PySem.call (Value.ref 263) _) _ _ _); k_dflt (refine' Sp.use (c_pe_order ?q1 ?m0 ?m1) ?k1 ?k2 ?k3 ?k4 ?k5 ?k6 ?k7 ?k8 ?k9 ?_; walk_at "use"; (case m0 => k_dflt k_mem); (case m1 => k_dflt k_mem); (case q1 => exact ⟨rfl, rfl, OvOk.handed (by assumption), rfl, rfl⟩)); unfold RV; intro h9ᵣ tk9ᵣ F9ᵣ N9ᵣ; (try dsimp only); (try k_sweep); (try k_fold)) | with_reducible (k_here; (with_reducible show wpAny _ _ (subscriptTail _ _ (Value.ref _) (Value.int _ _)) _ _ _); k_dflt (refine' item_list ?q1 ?q2 ?q3 ?q4 ?_ ?q5 ?q6; (case q1 => exact News.isList (by k_asm) (by k_mem)); (case q4 => assumption); (case q2 => omega); (case q3 => omega); (case q5 => with_unfolding_all rfl); (case q6 => intro _; with_unfolding_all rfl))) | with_reducible (k_here; (with_reducible show wpAny _ _ (subscriptTail _ _ (Value.ref _) (Value.int _ _)) _ _ _); refine Stop.of ?_) | with_reducible (k_here; (with_reducible show wpAny _ _ (PySem.call (Value.ref _) _) _ _ _); (fail_if_success (with_reducible show wpAny _ _ (PySem.call (Value.ref 361) _) _ _ _)); refine Stop.of ?_) | with_reducible (k_here; (with_reducible show wpAny _ _ (PySem.call (Value.ref 361) _) _ _ _); k_dflt (refine' Sp.use (c_takeU ?q1 ?q2 ?q3 ?q4 ?q5 ?q6) ?k1 ?k2 ?k3 ?k4 ?k5 ?k6 ?k7 ?k8 ?k9 ?_; walk_at "use"; (case q5 => k_updF); (case q6 => (intro o9ᵣ; k_updF)); (case q1 => with_reducible assumption); (case q2 => omega); (case q3 => first | omega | decide); (case q4 => assumption)); unfold RTakeU; intro r9ᵣ tr9ᵣ at9ᵣ ta9ᵣ vs9ᵣ ns9ᵣ zs9ᵣ zc9ᵣ h9ᵣ tk9ᵣ hr91ᵣ hr92ᵣ hst9ᵣ F9ᵣ N9ᵣ; (try dsimp only at N9ᵣ ⊢); (try k_sweep); (try k_fold)) | with_reducible (k_here; (with_reducible show wpAny _ _ (PySem.call (Value.ref 21) _) _ _ _); k_dflt (refine' Sp.use (c_inv ?q1 ?q2 ?q3 ?q4) ?k1 ?k2 ?k3 ?k4 ?k5 ?k6 ?k7 ?k8 ?k9 ?_; walk_at "use"; (case q1 => assumption); (case q2 => assumption); (case q3 => omega); (case q4 => omega)); unfold RInv; intro i9ᵣ t9ᵣ h9ᵣ tk9ᵣ hi1ᵣ hi2ᵣ hi3ᵣ F9ᵣ N9ᵣ; (try dsimp only); (try k_sweep); (try k_fold)) | with_reducible (k_here; (with_reducible show wpAny _ _ (PySem.call (Value.ref 71) _) _ _ _); k_dflt (refine' Sp.use (c_ed_a ?q1 ?q2 ?q3) ?k1 ?k2 ?k3 ?k4 ?k5 ?k6 ?k7 ?k8 ?k9 ?_; walk_at "use"; (case q2 => k_dflt k_mem); (case q3 => k_dflt k_mem); (case q1 => k_dflt (exact ⟨rfl, rfl, rfl⟩))); unfold RV; intro h9ᵣ tk9ᵣ F9ᵣ N9ᵣ; (try dsimp only); (try k_sweep); (try k_fold)) | with_reducible (k_here; (with_reducible show wpAny _ _ (PySem.call (Value.ref 64) _) _ _ _); k_dflt (refine' Sp.use (c_ed_p ?q1 ?q2 ?q3) ?k1 ?k2 ?k3 ?k4 ?k5 ?k6 ?k7 ?k8 ?k9 ?_; walk_at "use"; (case q2 => k_dflt k_mem); (case q3 => k_dflt k_mem); (case q1 => k_dflt (exact ⟨rfl, rfl, rfl⟩))); unfold RV; intro h9ᵣ tk9ᵣ F9ᵣ N9ᵣ; (try dsimp only); (try k_sweep); (try k_fold)) | with_reducible (k_here; (with_reducible show wpAny _ _ (call (Value.builtin "len") [Value.ref _]) _ _ _); k_dflt (refine' kst_len ?q1 ?q2 ?q3 ?q4 ?_; (case q1 => k_asm); (case q2 => k_mem); (case q3 => assumption); (case q4 => omega))) | with_reducible (k_here; (with_reducible show wpAny _ _ (exec (Stmt.For _ _ _ _ _) _) _ _ _); (rename Fr _ _ _ _ => lF'); (with_unfolding_all refine' For_invVF lF' ?k1 ?k2 ?_; (case k1 => exact rfl); (case k2 => exact rfl); k_whole)) | with_reducible (k_here; (with_reducible show wpAny _ _ (subscriptTail _ _ (Value.ref _) (Value.int _ _)) _ _ _); k_dflt (refine' item_tupleT ?t ?a ?b ?c ?d ?_; (case t => exact News.isTup (by k_asm) (by k_mem)); (case a => decide); (case b => decide); (case c => rfl); (case d => rfl); k_whole)) | with_reducible (k_here; (with_reducible show wpAny _ _ (PySem.pyIter (Value.ref _)) _ _ _); refine Stop.of ?_) | walk1 | ((with_reducible show wpAny _ _ _ _ _ _); dsimp only; walk1) | fail "no step"))
      refine Stop.to ?_
      k_dflt (refine' Sp.use (c_ext (x := P.1) (y := P.2) (g := false) hq hc.ib hst3 (by decide) hSC hS3 hC3 ?b3 ?b4 ?b5) ?zk1 ?zk2 ?zk3 ?zk4 ?zk5 ?zk6 ?zk7 ?zk8 trivial ?_)
      ((case zk1 => k_asm); (case zk2 => k_asm); (case zk3 => k_asm); (case zk4 => k_asm); (case zk5 => k_asm); (case zk6 => rfl); (case zk7 => ktr_room); (case zk8 => ktr_units))
      (case b3 => exact .tail _ (.tail _ (.tail _ (.tail _ m3))))
      (case b4 => exact .tail _ (.tail _ (.tail _ (.tail _ m4))))
      (case b5 => exact .tail _ (.tail _ (.tail _ (.tail _ hmr1))))
      unfold RExt RPe
      intro Z2 at4 ta4 vs4 ns4 zs4 zc4 hZ20 hZ21 hst4 x2 d2 l2 k2 b1 b2 b3 b4 b5 p5 p6 p7 p8 h6 tk6 F6 N7 o1 o2 o3 o4
      (try dsimp only at N7)
      obtain ⟨N8, hS4, hC4, _, _, g3, g4, g5⟩ := ext_front N7 o1 o2 o3 o4 hS3 hC3
      have g1 : @LT.lt Nat _ l1 d2 := o1 (l1, _) (.tail _ (.tail _ (.head _)))
      clear N7 o1 o2 o3 o4 hst3 hS3 hC3
      try dsimp only
      (repeat' (first | (k_unfold; (try dsimp only)) | ((with_reducible show wpAny _ _ (execs (List.cons _ _) _) _ _ (Shared.mk _ _ _ (HAdd.hAdd _ _) _)); (rename Fr _ _ _ _ => Fq); refine stm8 Fq ?_; clear Fq; intro tkq mq Fq; (try k_fold)) | with_reducible (k_here; (with_reducible show wpAny _ _ (compareOp .NotEq _ _) _ _ _); k_dflt (refine' ne_ov ?q1 ?_; (case q1 => assumption))) | with_reducible (k_here; (with_reducible show wpAny _ _ (compareOp .NotEq (Value.ref _) (Value.ref _)) _ _ _); k_dflt (refine' ne_t2s ?q1 ?q2 ?q3 ?q4 ?_; (case q1 => k_asm); (case q2 => k_mem); (case q3 => k_mem); (case q4 => ktr_units))) | with_reducible (k_here; (with_reducible show wpAny _ _ (compareOp .NotEq (Value.ref _) (Value.ref _)) _ _ _); k_dflt (refine' ne_t2 ?q1 ?q2 ?q3 ?q4 ?_; (case q1 => k_asm); (case q2 => k_mem); (case q3 => k_mem); (case q4 => ktr_units))) | with_reducible (k_here; (with_reducible show wpAny _ _ (binaryOp .Mult (Value.int _ _) (Value.ref _)) _ _ _); k_dflt (refine' bin_refl ?F ?X ?I ?hC ?hS ?hR ?hF ?hU ?_; (case F => k_asm); (case X => k_asm); (case I => k_inst); (case hC => k_is); (case hS => k_is); (case hR => k_is); (case hF => k_is); (case hU => k_is); k_whole)) | with_reducible (k_here; (with_reducible show wpAny _ _ (PySem.call (Value.ref 263) _) _ _ _); k_dflt (refine' Sp.use (c_pe_order ?q1 ?m0 ?m1) ?k1 ?k2 ?k3 ?k4 ?k5 ?k6 ?k7 ?k8 ?k9 ?_; walk_at "use"; (case m0 => k_dflt k_mem); (case m1 => k_dflt k_mem); (case q1 => exact ⟨rfl, rfl, OvOk.handed (by assumption), rfl, rfl⟩)); unfold RV; intro h9ᵣ tk9ᵣ F9ᵣ N9ᵣ; (try dsimp only); (try k_sweep); (try k_fold)) | with_reducible (k_here; (with_reducible show wpAny _ _ (subscriptTail _ _ (Value.ref _) (Value.int _ _)) _ _ _); k_dflt (refine' item_list ?q1 ?q2 ?q3 ?q4 ?_ ?q5 ?q6; (case q1 => exact News.isList (by k_asm) (by k_mem)); (case q4 => assumption); (case q2 => omega); (case q3 => omega); (case q5 => with_unfolding_all rfl); (case q6 => intro _; with_unfolding_all rfl))) | with_reducible (k_here; (with_reducible show wpAny _ _ (subscriptTail _ _ (Value.ref _) (Value.int _ _)) _ _ _); refine Stop.of ?_) | with_reducible (k_here; (with_reducible show wpAny _ _ (PySem.call (Value.ref _) _) _ _ _); (fail_if_success (with_reducible show wpAny _ _ (PySem.call (Value.ref 361) _) _ _ _)); refine Stop.of ?_) | with_reducible (k_here; (with_reducible show wpAny _ _ (PySem.call (Value.ref 361) _) _ _ _); k_dflt (refine' Sp.use (c_takeU ?q1 ?q2 ?q3 ?q4 ?q5 ?q6) ?k1 ?k2 ?k3 ?k4 ?k5 ?k6 ?k7 ?k8 ?k9 ?_; walk_at "use"; (case q5 => k_updF); (case q6 => (intro o9ᵣ; k_updF)); (case q1 => with_reducible assumption); (case q2 => omega); (case q3 => first | omega | decide); (case q4 => assumption)); unfold RTakeU; intro r9ᵣ tr9ᵣ at9ᵣ ta9ᵣ vs9ᵣ ns9ᵣ zs9ᵣ zc9ᵣ h9ᵣ tk9ᵣ hr91ᵣ hr92ᵣ hst9ᵣ F9ᵣ N9ᵣ; (try dsimp only at N9ᵣ ⊢); (try k_sweep); (try k_fold)) | with_reducible (k_here; (with_reducible show wpAny _ _ (PySem.call (Value.ref 21) _) _ _ _); k_dflt (refine' Sp.use (c_inv ?q1 ?q2 ?q3 ?q4) ?k1 ?k2 ?k3 ?k4 ?k5 ?k6 ?k7 ?k8 ?k9 ?_; walk_at "use"; (case q1 => assumption); (case q2 => assumption); (case q3 => omega); (case q4 => omega)); unfold RInv; intro i9ᵣ t9ᵣ h9ᵣ tk9ᵣ hi1ᵣ hi2ᵣ hi3ᵣ F9ᵣ N9ᵣ; (try dsimp only); (try k_sweep); (try k_fold)) | with_reducible (k_here; (with_reducible show wpAny _ _ (PySem.call (Value.ref 71) _) _ _ _); k_dflt (refine' Sp.use (c_ed_a ?q1 ?q2 ?q3) ?k1 ?k2 ?k3 ?k4 ?k5 ?k6 ?k7 ?k8 ?k9 ?_; walk_at "use"; (case q2 => k_dflt k_mem); (case q3 => k_dflt k_mem); (case q1 => k_dflt (exact ⟨rfl, rfl, rfl⟩))); unfold RV; intro h9ᵣ tk9ᵣ F9ᵣ N9ᵣ; (try dsimp only); (try k_sweep); (try k_fold)) | with_reducible (k_here; (with_reducible show wpAny _ _ (PySem.call (Value.ref 64) _) _ _ _); k_dflt (refine' Sp.use (c_ed_p ?q1 ?q2 ?q3) ?k1 ?k2 ?k3 ?k4 ?k5 ?k6 ?k7 ?k8 ?k9 ?_; walk_at "use"; (case q2 => k_dflt k_mem); (case q3 => k_dflt k_mem); (case q1 => k_dflt (exact ⟨rfl, rfl, rfl⟩))); unfold RV; intro h9ᵣ tk9ᵣ F9ᵣ N9ᵣ; (try dsimp only); (try k_sweep); (try k_fold)) | with_reducible (k_here; (with_reducible show wpAny _ _ (call (Value.builtin "len") [Value.ref _]) _ _ _); k_dflt (refine' kst_len ?q1 ?q2 ?q3 ?q4 ?_; (case q1 => k_asm); (case q2 => k_mem); (case q3 => assumption); (case q4 => omega))) | with_reducible (k_here; (with_reducible show wpAny _ _ (exec (Stmt.For _ _ _ _ _) _) _ _ _); (rename Fr _ _ _ _ => lF'); (with_unfolding_all refine' For_invVF lF' ?k1 ?k2 ?_; (case k1 => exact rfl); (case k2 => exact rfl); k_whole)) | with_reducible (k_here; (with_reducible show wpAny _ _ (subscriptTail _ _ (Value.ref _) (Value.int _ _)) _ _ _); k_dflt (refine' item_tupleT ?t ?a ?b ?c ?d ?_; (case t => exact News.isTup (by k_asm) (by k_mem)); (case a => decide); (case b => decide); (case c => rfl); (case d => rfl); k_whole)) | with_reducible (k_here; (with_reducible show wpAny _ _ (PySem.pyIter (Value.ref _)) _ _ _); refine Stop.of ?_) | walk1 | ((with_reducible show wpAny _ _ _ _ _ _); dsimp only; walk1) | fail "no step"))
      refine Stop.to ?_
      (rename News _ _ _ ((_, W.listOf #[Value.ref x1, Value.ref x2] 0) :: _) => N9)
      (rename (S < _ ∧ C < _ ∧ _) => lT)
      revert lT
      refine withAddrH N9 ?_
      rintro lT rfl lT9
      have t1 : @LT.lt Nat _ S lT := lT9.1
      have t2 : @LT.lt Nat _ C lT := lT9.2.1
      have t3 : @LT.lt Nat _ l2 lT := lT9.2.2.1
      have N10 := news_rot N9
      k_dflt (refine' Sp.use (c_ext (x := P.1) (y := P.2) (g := true) hq hc.ib hst4 (by decide) hSC ?c1 ?c2 ?c3 ?c4 ?c5) ?zk1 ?zk2 ?zk3 ?zk4 ?zk5 ?zk6 ?zk7 ?zk8 trivial ?_)
      ((case zk1 => k_asm); (case zk2 => k_asm); (case zk3 => k_asm); (case zk4 => k_asm); (case zk5 => k_asm); (case zk6 => rfl); (case zk7 => ktr_room); (case zk8 => ktr_units))
      (case c1 => exact List.forall_mem_cons.mpr ⟨Nat.ne_of_gt t1, hS4⟩)
      (case c2 => exact List.forall_mem_cons.mpr ⟨Nat.ne_of_gt t2, hC4⟩)
      (case c3 => exact .tail _ (.tail _ (.tail _ (.tail _ (.tail _ (.tail _ (.tail _ (.tail _ (.tail _ m3)))))))))
      (case c4 => exact .tail _ (.tail _ (.tail _ (.tail _ (.tail _ (.tail _ (.tail _ (.tail _ (.tail _ m4)))))))))
      (case c5 => exact .tail _ (.tail _ (.tail _ (.tail _ (.tail _ (.tail _ (.tail _ (.tail _ (.tail _ hmr1)))))))))
      unfold RExt RPe
      intro Z3 at5 ta5 vs5 ns5 zs5 zc5 hZ30 hZ31 hst5 x3 d3 l3 k3 c1 c2 c3 c4 c5 p9 p10 p11 p12 h7 tk7 F7 N11 o1 o2 o3 o4
      (try dsimp only at N11)
      have i1 : @LT.lt Nat _ lT d3 := o1 (lT, _) (.tail _ (.tail _ (.head _)))
      have i2 : @LT.lt Nat _ d3 x3 := o2
      have i3 : @LT.lt Nat _ x3 k3 := o3
      have i4 : @LT.lt Nat _ k3 l3 := o4
      have nlT : ∀ p ∈ led2, p.1 ≠ lT := fun p hp => Nat.ne_of_lt (Nat.lt_trans (o1' p hp) (by omega))
      clear N9 N10 lT9 o1 o2 o3 o4 hst4 hS4 hC4
      try dsimp only
      (repeat' (first | (k_unfold; (try dsimp only)) | ((with_reducible show wpAny _ _ (execs (List.cons _ _) _) _ _ (Shared.mk _ _ _ (HAdd.hAdd _ _) _)); (rename Fr _ _ _ _ => Fq); refine stm8 Fq ?_; clear Fq; intro tkq mq Fq; (try k_fold)) | with_reducible (k_here; (with_reducible show wpAny _ _ (compareOp .NotEq _ _) _ _ _); k_dflt (refine' ne_ov ?q1 ?_; (case q1 => assumption))) | with_reducible (k_here; (with_reducible show wpAny _ _ (compareOp .NotEq (Value.ref _) (Value.ref _)) _ _ _); k_dflt (refine' ne_t2s ?q1 ?q2 ?q3 ?q4 ?_; (case q1 => k_asm); (case q2 => k_mem); (case q3 => k_mem); (case q4 => ktr_units))) | with_reducible (k_here; (with_reducible show wpAny _ _ (compareOp .NotEq (Value.ref _) (Value.ref _)) _ _ _); k_dflt (refine' ne_t2 ?q1 ?q2 ?q3 ?q4 ?_; (case q1 => k_asm); (case q2 => k_mem); (case q3 => k_mem); (case q4 => ktr_units))) | with_reducible (k_here; (with_reducible show wpAny _ _ (binaryOp .Mult (Value.int _ _) (Value.ref _)) _ _ _); k_dflt (refine' bin_refl ?F ?X ?I ?hC ?hS ?hR ?hF ?hU ?_; (case F => k_asm); (case X => k_asm); (case I => k_inst); (case hC => k_is); (case hS => k_is); (case hR => k_is); (case hF => k_is); (case hU => k_is); k_whole)) | with_reducible (k_here; (with_reducible show wpAny _ _ (PySem.call (Value.ref 263) _) _ _ _); k_dflt (refine' Sp.use (c_pe_order ?q1 ?m0 ?m1) ?k1 ?k2 ?k3 ?k4 ?k5 ?k6 ?k7 ?k8 ?k9 ?_; walk_at "use"; (case m0 => k_dflt k_mem); (case m1 => k_dflt k_mem); (case q1 => exact ⟨rfl, rfl, OvOk.handed (by assumption), rfl, rfl⟩)); unfold RV; intro h9ᵣ tk9ᵣ F9ᵣ N9ᵣ; (try dsimp only); (try k_sweep); (try k_fold)) | with_reducible (k_here; (with_reducible show wpAny _ _ (subscriptTail _ _ (Value.ref _) (Value.int _ _)) _ _ _); k_dflt (refine' item_list ?q1 ?q2 ?q3 ?q4 ?_ ?q5 ?q6; (case q1 => exact News.isList (by k_asm) (by k_mem)); (case q4 => assumption); (case q2 => omega); (case q3 => omega); (case q5 => with_unfolding_all rfl); (case q6 => intro _; with_unfolding_all rfl))) | with_reducible (k_here; (with_reducible show wpAny _ _ (subscriptTail _ _ (Value.ref _) (Value.int _ _)) _ _ _); refine Stop.of ?_) | with_reducible (k_here; (with_reducible show wpAny _ _ (PySem.call (Value.ref _) _) _ _ _); (fail_if_success (with_reducible show wpAny _ _ (PySem.call (Value.ref 361) _) _ _ _)); refine Stop.of ?_) | with_reducible (k_here; (with_reducible show wpAny _ _ (PySem.call (Value.ref 361) _) _ _ _); k_dflt (refine' Sp.use (c_takeU ?q1 ?q2 ?q3 ?q4 ?q5 ?q6) ?k1 ?k2 ?k3 ?k4 ?k5 ?k6 ?k7 ?k8 ?k9 ?_; walk_at "use"; (case q5 => k_updF); (case q6 => (intro o9ᵣ; k_updF)); (case q1 => with_reducible assumption); (case q2 => omega); (case q3 => first | omega | decide); (case q4 => assumption)); unfold RTakeU; intro r9ᵣ tr9ᵣ at9ᵣ ta9ᵣ vs9ᵣ ns9ᵣ zs9ᵣ zc9ᵣ h9ᵣ tk9ᵣ hr91ᵣ hr92ᵣ hst9ᵣ F9ᵣ N9ᵣ; (try dsimp only at N9ᵣ ⊢); (try k_sweep); (try k_fold)) | with_reducible (k_here; (with_reducible show wpAny _ _ (PySem.call (Value.ref 21) _) _ _ _); k_dflt (refine' Sp.use (c_inv ?q1 ?q2 ?q3 ?q4) ?k1 ?k2 ?k3 ?k4 ?k5 ?k6 ?k7 ?k8 ?k9 ?_; walk_at "use"; (case q1 => assumption); (case q2 => assumption); (case q3 => omega); (case q4 => omega)); unfold RInv; intro i9ᵣ t9ᵣ h9ᵣ tk9ᵣ hi1ᵣ hi2ᵣ hi3ᵣ F9ᵣ N9ᵣ; (try dsimp only); (try k_sweep); (try k_fold)) | with_reducible (k_here; (with_reducible show wpAny _ _ (PySem.call (Value.ref 71) _) _ _ _); k_dflt (refine' Sp.use (c_ed_a ?q1 ?q2 ?q3) ?k1 ?k2 ?k3 ?k4 ?k5 ?k6 ?k7 ?k8 ?k9 ?_; walk_at "use"; (case q2 => k_dflt k_mem); (case q3 => k_dflt k_mem); (case q1 => k_dflt (exact ⟨rfl, rfl, rfl⟩))); unfold RV; intro h9ᵣ tk9ᵣ F9ᵣ N9ᵣ; (try dsimp only); (try k_sweep); (try k_fold)) | with_reducible (k_here; (with_reducible show wpAny _ _ (PySem.call (Value.ref 64) _) _ _ _); k_dflt (refine' Sp.use (c_ed_p ?q1 ?q2 ?q3) ?k1 ?k2 ?k3 ?k4 ?k5 ?k6 ?k7 ?k8 ?k9 ?_; walk_at "use"; (case q2 => k_dflt k_mem); (case q3 => k_dflt k_mem); (case q1 => k_dflt (exact ⟨rfl, rfl, rfl⟩))); unfold RV; intro h9ᵣ tk9ᵣ F9ᵣ N9ᵣ; (try dsimp only); (try k_sweep); (try k_fold)) | with_reducible (k_here; (with_reducible show wpAny _ _ (call (Value.builtin "len") [Value.ref _]) _ _ _); k_dflt (refine' kst_len ?q1 ?q2 ?q3 ?q4 ?_; (case q1 => k_asm); (case q2 => k_mem); (case q3 => assumption); (case q4 => omega))) | with_reducible (k_here; (with_reducible show wpAny _ _ (exec (Stmt.For _ _ _ _ _) _) _ _ _); (rename Fr _ _ _ _ => lF'); (with_unfolding_all refine' For_invVF lF' ?k1 ?k2 ?_; (case k1 => exact rfl); (case k2 => exact rfl); k_whole)) | with_reducible (k_here; (with_reducible show wpAny _ _ (subscriptTail _ _ (Value.ref _) (Value.int _ _)) _ _ _); k_dflt (refine' item_tupleT ?t ?a ?b ?c ?d ?_; (case t => exact News.isTup (by k_asm) (by k_mem)); (case a => decide); (case b => decide); (case c => rfl); (case d => rfl); k_whole)) | with_reducible (k_here; (with_reducible show wpAny _ _ (PySem.pyIter (Value.ref _)) _ _ _); refine Stop.of ?_) | walk1 | ((with_reducible show wpAny _ _ _ _ _ _); dsimp only; walk1) | fail "no step"))
      refine Stop.to ?_
      (rename News _ _ _ _ => N12)
      simp only [List.push_toArray, List.cons_append, List.nil_append] at N12
      k_dflt (refine' world3 hc N12 m3 m4 ⟨hZ10, hZ11⟩ ⟨hZ20, hZ21⟩ ⟨hZ30, hZ31⟩ o1' f1 f2 f3 f4 f5 g1 g3 g4 g5 t3 i1 i2 i3 i4 ?_)
      rintro t c0 rfl rfl rfl rfl hn rfl rfl rfl hc' hcu j1 j2 j3 h12 h13 h23 N13 hI0 mS mC mT ml1 ml2 ml3 sub2
      clear hc N12 o1' f1 f2 f3 f4 f5 g1 g3 g4 g5 t3 i1 i2 i3 i4 hZ10 hZ11 hZ20 hZ21 hZ30 hZ31 nlT
      have mr1 : (r1, tup2 (Ed.zM t.q t.a t.d t.P t.n 1).1 w1 (Ed.zM t.q t.a t.d t.P t.n 1).2 w2) ∈ c0.led := by rw [Ed.zM_one hc']; exact sub2 _ hmr1
      have mR := sub2 _ hmR
      have hTm : (lT, W.listOf [Value.ref t.x1, Value.ref t.x2, Value.ref t.x3].toArray (0 + 1)) ∈ Led3 w t l3 c0 := .tail _ (.tail _ (.tail _ mT))
      k_dflt (refine' lp_listI (σ := C3) (lo := W.listOf [Value.ref t.x1, Value.ref t.x2, Value.ref t.x3].toArray (0 + 1)) [Value.ref t.x1, Value.ref t.x2, Value.ref t.x3] (Led3 w t l3) (fun _ => []) (Inv3 w t c0.led) [] c0 rfl (News.isList N13 hTm) (fun _ _ c hI => .tail _ (.tail _ (.tail _ (hI.sub _ mT)))) (N13 _ hTm).2.1 (by k_asm) N13 (List.forall_mem_nil _) hI0 ?zt ?zd)
      (case zt =>
        intro I i v c u h8 tk8 it hv hit hI hne F8 N14
        dsimp only [envOf] at hne F8
        dsimp only [Led3] at N14
        have mR8 := hI.sub _ mR
        (repeat' (first | (k_unfold; (try dsimp only)) | ((with_reducible show wpAny _ _ (execs (List.cons _ _) _) _ _ (Shared.mk _ _ _ (HAdd.hAdd _ _) _)); (rename Fr _ _ _ _ => Fq); refine stm8 Fq ?_; clear Fq; intro tkq mq Fq; (try k_fold)) | with_reducible (k_here; (with_reducible show wpAny _ _ (compareOp .NotEq _ _) _ _ _); k_dflt (refine' ne_ov ?q1 ?_; (case q1 => assumption))) | with_reducible (k_here; (with_reducible show wpAny _ _ (compareOp .NotEq (Value.ref _) (Value.ref _)) _ _ _); k_dflt (refine' ne_t2s ?q1 ?q2 ?q3 ?q4 ?_; (case q1 => k_asm); (case q2 => k_mem); (case q3 => k_mem); (case q4 => ktr_units))) | with_reducible (k_here; (with_reducible show wpAny _ _ (compareOp .NotEq (Value.ref _) (Value.ref _)) _ _ _); k_dflt (refine' ne_t2 ?q1 ?q2 ?q3 ?q4 ?_; (case q1 => k_asm); (case q2 => k_mem); (case q3 => k_mem); (case q4 => ktr_units))) | with_reducible (k_here; (with_reducible show wpAny _ _ (binaryOp .Mult (Value.int _ _) (Value.ref _)) _ _ _); k_dflt (refine' bin_refl ?F ?X ?I ?hC ?hS ?hR ?hF ?hU ?_; (case F => k_asm); (case X => k_asm); (case I => k_inst); (case hC => k_is); (case hS => k_is); (case hR => k_is); (case hF => k_is); (case hU => k_is); k_whole)) | with_reducible (k_here; (with_reducible show wpAny _ _ (PySem.call (Value.ref 263) _) _ _ _); k_dflt (refine' Sp.use (c_pe_order ?q1 ?m0 ?m1) ?k1 ?k2 ?k3 ?k4 ?k5 ?k6 ?k7 ?k8 ?k9 ?_; walk_at "use"; (case m0 => k_dflt k_mem); (case m1 => k_dflt k_mem); (case q1 => exact ⟨rfl, rfl, OvOk.handed (by assumption), rfl, rfl⟩)); unfold RV; intro h9ᵣ tk9ᵣ F9ᵣ N9ᵣ; (try dsimp only); (try k_sweep); (try k_fold)) | with_reducible (k_here; (with_reducible show wpAny _ _ (subscriptTail _ _ (Value.ref _) (Value.int _ _)) _ _ _); k_dflt (refine' item_list ?q1 ?q2 ?q3 ?q4 ?_ ?q5 ?q6; (case q1 => exact News.isList (by k_asm) (by k_mem)); (case q4 => assumption); (case q2 => omega); (case q3 => omega); (case q5 => with_unfolding_all rfl); (case q6 => intro _; with_unfolding_all rfl))) | with_reducible (k_here; (with_reducible show wpAny _ _ (subscriptTail _ _ (Value.ref _) (Value.int _ _)) _ _ _); refine Stop.of ?_) | with_reducible (k_here; (with_reducible show wpAny _ _ (PySem.call (Value.ref _) _) _ _ _); (fail_if_success (with_reducible show wpAny _ _ (PySem.call (Value.ref 361) _) _ _ _)); refine Stop.of ?_) | with_reducible (k_here; (with_reducible show wpAny _ _ (PySem.call (Value.ref 361) _) _ _ _); k_dflt (refine' Sp.use (c_takeU ?q1 ?q2 ?q3 ?q4 ?q5 ?q6) ?k1 ?k2 ?k3 ?k4 ?k5 ?k6 ?k7 ?k8 ?k9 ?_; walk_at "use"; (case q5 => k_updF); (case q6 => (intro o9ᵣ; k_updF)); (case q1 => with_reducible assumption); (case q2 => omega); (case q3 => first | omega | decide); (case q4 => assumption)); unfold RTakeU; intro r9ᵣ tr9ᵣ at9ᵣ ta9ᵣ vs9ᵣ ns9ᵣ zs9ᵣ zc9ᵣ h9ᵣ tk9ᵣ hr91ᵣ hr92ᵣ hst9ᵣ F9ᵣ N9ᵣ; (try dsimp only at N9ᵣ ⊢); (try k_sweep); (try k_fold)) | with_reducible (k_here; (with_reducible show wpAny _ _ (PySem.call (Value.ref 21) _) _ _ _); k_dflt (refine' Sp.use (c_inv ?q1 ?q2 ?q3 ?q4) ?k1 ?k2 ?k3 ?k4 ?k5 ?k6 ?k7 ?k8 ?k9 ?_; walk_at "use"; (case q1 => assumption); (case q2 => assumption); (case q3 => omega); (case q4 => omega)); unfold RInv; intro i9ᵣ t9ᵣ h9ᵣ tk9ᵣ hi1ᵣ hi2ᵣ hi3ᵣ F9ᵣ N9ᵣ; (try dsimp only); (try k_sweep); (try k_fold)) | with_reducible (k_here; (with_reducible show wpAny _ _ (PySem.call (Value.ref 71) _) _ _ _); k_dflt (refine' Sp.use (c_ed_a ?q1 ?q2 ?q3) ?k1 ?k2 ?k3 ?k4 ?k5 ?k6 ?k7 ?k8 ?k9 ?_; walk_at "use"; (case q2 => k_dflt k_mem); (case q3 => k_dflt k_mem); (case q1 => k_dflt (exact ⟨rfl, rfl, rfl⟩))); unfold RV; intro h9ᵣ tk9ᵣ F9ᵣ N9ᵣ; (try dsimp only); (try k_sweep); (try k_fold)) | with_reducible (k_here; (with_reducible show wpAny _ _ (PySem.call (Value.ref 64) _) _ _ _); k_dflt (refine' Sp.use (c_ed_p ?q1 ?q2 ?q3) ?k1 ?k2 ?k3 ?k4 ?k5 ?k6 ?k7 ?k8 ?k9 ?_; walk_at "use"; (case q2 => k_dflt k_mem); (case q3 => k_dflt k_mem); (case q1 => k_dflt (exact ⟨rfl, rfl, rfl⟩))); unfold RV; intro h9ᵣ tk9ᵣ F9ᵣ N9ᵣ; (try dsimp only); (try k_sweep); (try k_fold)) | with_reducible (k_here; (with_reducible show wpAny _ _ (call (Value.builtin "len") [Value.ref _]) _ _ _); k_dflt (refine' kst_len ?q1 ?q2 ?q3 ?q4 ?_; (case q1 => k_asm); (case q2 => k_mem); (case q3 => assumption); (case q4 => omega))) | with_reducible (k_here; (with_reducible show wpAny _ _ (exec (Stmt.For _ _ _ _ _) _) _ _ _); (rename Fr _ _ _ _ => lF'); (with_unfolding_all refine' For_invVF lF' ?k1 ?k2 ?_; (case k1 => exact rfl); (case k2 => exact rfl); k_whole)) | with_reducible (k_here; (with_reducible show wpAny _ _ (subscriptTail _ _ (Value.ref _) (Value.int _ _)) _ _ _); k_dflt (refine' item_tupleT ?t ?a ?b ?c ?d ?_; (case t => exact News.isTup (by k_asm) (by k_mem)); (case a => decide); (case b => decide); (case c => rfl); (case d => rfl); k_whole)) | with_reducible (k_here; (with_reducible show wpAny _ _ (PySem.pyIter (Value.ref _)) _ _ _); refine Stop.of ?_) | walk1 | ((with_reducible show wpAny _ _ _ _ _ _); dsimp only; walk1) | fail "no step"))
        refine Stop.to ?_
        k_dflt (refine' Sp.use (c_lsc3I hc' hcu j1 j2 j3 h12 h13 h23 mr1 hv hI hit hne) ?zk1 ?zk2 ?zk3 ?zk4 ?zk5 ?zk6 ?zk7 ?zk8 trivial ?_)
        ((case zk1 => k_asm); (case zk2 => k_asm); (case zk3 => k_asm); (case zk4 => k_asm); (case zk5 => k_asm); (case zk6 => rfl); (case zk7 => ktr_room); (case zk8 => ktr_units))
        intro c' h9 tk9 hI' hne' F9 N15
        try dsimp only
        (repeat' (first | (k_unfold; (try dsimp only)) | ((with_reducible show wpAny _ _ (execs (List.cons _ _) _) _ _ (Shared.mk _ _ _ (HAdd.hAdd _ _) _)); (rename Fr _ _ _ _ => Fq); refine stm8 Fq ?_; clear Fq; intro tkq mq Fq; (try k_fold)) | with_reducible (k_here; (with_reducible show wpAny _ _ (compareOp .NotEq _ _) _ _ _); k_dflt (refine' ne_ov ?q1 ?_; (case q1 => assumption))) | with_reducible (k_here; (with_reducible show wpAny _ _ (compareOp .NotEq (Value.ref _) (Value.ref _)) _ _ _); k_dflt (refine' ne_t2s ?q1 ?q2 ?q3 ?q4 ?_; (case q1 => k_asm); (case q2 => k_mem); (case q3 => k_mem); (case q4 => ktr_units))) | with_reducible (k_here; (with_reducible show wpAny _ _ (compareOp .NotEq (Value.ref _) (Value.ref _)) _ _ _); k_dflt (refine' ne_t2 ?q1 ?q2 ?q3 ?q4 ?_; (case q1 => k_asm); (case q2 => k_mem); (case q3 => k_mem); (case q4 => ktr_units))) | with_reducible (k_here; (with_reducible show wpAny _ _ (binaryOp .Mult (Value.int _ _) (Value.ref _)) _ _ _); k_dflt (refine' bin_refl ?F ?X ?I ?hC ?hS ?hR ?hF ?hU ?_; (case F => k_asm); (case X => k_asm); (case I => k_inst); (case hC => k_is); (case hS => k_is); (case hR => k_is); (case hF => k_is); (case hU => k_is); k_whole)) | with_reducible (k_here; (with_reducible show wpAny _ _ (PySem.call (Value.ref 263) _) _ _ _); k_dflt (refine' Sp.use (c_pe_order ?q1 ?m0 ?m1) ?k1 ?k2 ?k3 ?k4 ?k5 ?k6 ?k7 ?k8 ?k9 ?_; walk_at "use"; (case m0 => k_dflt k_mem); (case m1 => k_dflt k_mem); (case q1 => exact ⟨rfl, rfl, OvOk.handed (by assumption), rfl, rfl⟩)); unfold RV; intro h9ᵣ tk9ᵣ F9ᵣ N9ᵣ; (try dsimp only); (try k_sweep); (try k_fold)) | with_reducible (k_here; (with_reducible show wpAny _ _ (subscriptTail _ _ (Value.ref _) (Value.int _ _)) _ _ _); k_dflt (refine' item_list ?q1 ?q2 ?q3 ?q4 ?_ ?q5 ?q6; (case q1 => exact News.isList (by k_asm) (by k_mem)); (case q4 => assumption); (case q2 => omega); (case q3 => omega); (case q5 => with_unfolding_all rfl); (case q6 => intro _; with_unfolding_all rfl))) | with_reducible (k_here; (with_reducible show wpAny _ _ (subscriptTail _ _ (Value.ref _) (Value.int _ _)) _ _ _); refine Stop.of ?_) | with_reducible (k_here; (with_reducible show wpAny _ _ (PySem.call (Value.ref _) _) _ _ _); (fail_if_success (with_reducible show wpAny _ _ (PySem.call (Value.ref 361) _) _ _ _)); refine Stop.of ?_) | with_reducible (k_here; (with_reducible show wpAny _ _ (PySem.call (Value.ref 361) _) _ _ _); k_dflt (refine' Sp.use (c_takeU ?q1 ?q2 ?q3 ?q4 ?q5 ?q6) ?k1 ?k2 ?k3 ?k4 ?k5 ?k6 ?k7 ?k8 ?k9 ?_; walk_at "use"; (case q5 => k_updF); (case q6 => (intro o9ᵣ; k_updF)); (case q1 => with_reducible assumption); (case q2 => omega); (case q3 => first | omega | decide); (case q4 => assumption)); unfold RTakeU; intro r9ᵣ tr9ᵣ at9ᵣ ta9ᵣ vs9ᵣ ns9ᵣ zs9ᵣ zc9ᵣ h9ᵣ tk9ᵣ hr91ᵣ hr92ᵣ hst9ᵣ F9ᵣ N9ᵣ; (try dsimp only at N9ᵣ ⊢); (try k_sweep); (try k_fold)) | with_reducible (k_here; (with_reducible show wpAny _ _ (PySem.call (Value.ref 21) _) _ _ _); k_dflt (refine' Sp.use (c_inv ?q1 ?q2 ?q3 ?q4) ?k1 ?k2 ?k3 ?k4 ?k5 ?k6 ?k7 ?k8 ?k9 ?_; walk_at "use"; (case q1 => assumption); (case q2 => assumption); (case q3 => omega); (case q4 => omega)); unfold RInv; intro i9ᵣ t9ᵣ h9ᵣ tk9ᵣ hi1ᵣ hi2ᵣ hi3ᵣ F9ᵣ N9ᵣ; (try dsimp only); (try k_sweep); (try k_fold)) | with_reducible (k_here; (with_reducible show wpAny _ _ (PySem.call (Value.ref 71) _) _ _ _); k_dflt (refine' Sp.use (c_ed_a ?q1 ?q2 ?q3) ?k1 ?k2 ?k3 ?k4 ?k5 ?k6 ?k7 ?k8 ?k9 ?_; walk_at "use"; (case q2 => k_dflt k_mem); (case q3 => k_dflt k_mem); (case q1 => k_dflt (exact ⟨rfl, rfl, rfl⟩))); unfold RV; intro h9ᵣ tk9ᵣ F9ᵣ N9ᵣ; (try dsimp only); (try k_sweep); (try k_fold)) | with_reducible (k_here; (with_reducible show wpAny _ _ (PySem.call (Value.ref 64) _) _ _ _); k_dflt (refine' Sp.use (c_ed_p ?q1 ?q2 ?q3) ?k1 ?k2 ?k3 ?k4 ?k5 ?k6 ?k7 ?k8 ?k9 ?_; walk_at "use"; (case q2 => k_dflt k_mem); (case q3 => k_dflt k_mem); (case q1 => k_dflt (exact ⟨rfl, rfl, rfl⟩))); unfold RV; intro h9ᵣ tk9ᵣ F9ᵣ N9ᵣ; (try dsimp only); (try k_sweep); (try k_fold)) | with_reducible (k_here; (with_reducible show wpAny _ _ (call (Value.builtin "len") [Value.ref _]) _ _ _); k_dflt (refine' kst_len ?q1 ?q2 ?q3 ?q4 ?_; (case q1 => k_asm); (case q2 => k_mem); (case q3 => assumption); (case q4 => omega))) | with_reducible (k_here; (with_reducible show wpAny _ _ (exec (Stmt.For _ _ _ _ _) _) _ _ _); (rename Fr _ _ _ _ => lF'); (with_unfolding_all refine' For_invVF lF' ?k1 ?k2 ?_; (case k1 => exact rfl); (case k2 => exact rfl); k_whole)) | with_reducible (k_here; (with_reducible show wpAny _ _ (subscriptTail _ _ (Value.ref _) (Value.int _ _)) _ _ _); k_dflt (refine' item_tupleT ?t ?a ?b ?c ?d ?_; (case t => exact News.isTup (by k_asm) (by k_mem)); (case a => decide); (case b => decide); (case c => rfl); (case d => rfl); k_whole)) | with_reducible (k_here; (with_reducible show wpAny _ _ (PySem.pyIter (Value.ref _)) _ _ _); refine Stop.of ?_) | walk1 | ((with_reducible show wpAny _ _ _ _ _ _); dsimp only; walk1) | fail "no step"))
        exact lp_end c' (by k_asm) (by k_asm) (fun _ h => .tail _ h) (.head _) hne' (List.forall_mem_nil _) (by walk_at "same") hI')
      (case zd =>
        intro c u h8 tk8 hI F8 N14
        dsimp only [envOf] at F8
        k_dflt (refine' base_of N14 hI alien_st (alien_cells hst5) rfl rfl hvl1 hcu j1 j2 j3 h13 h23 mS mC mT ml1 ml2 ml3 mR (hR.mono sub2) (sub2 _ h161') ?_)
        intro B N15 hB hG nS nC n3 nS3 nC3
        have nS3' : @Ne Nat t.d3 S := fun e => nS3 e.symm
        have nC3' : @Ne Nat t.d3 C := fun e => nC3 e.symm
        clear N13 N14 hI0 hI mS mC mT ml1 ml2 ml3 sub2 hcu j1 j2 j3 h12 h13 h23 hmR hmr1 mr1 mR hTm h161'
        try dsimp only
        (repeat' (first | (k_unfold; (try dsimp only)) | ((with_reducible show wpAny _ _ (execs (List.cons _ _) _) _ _ (Shared.mk _ _ _ (HAdd.hAdd _ _) _)); (rename Fr _ _ _ _ => Fq); refine stm8 Fq ?_; clear Fq; intro tkq mq Fq; (try k_fold)) | with_reducible (k_here; (with_reducible show wpAny _ _ (compareOp .NotEq _ _) _ _ _); k_dflt (refine' ne_ov ?q1 ?_; (case q1 => assumption))) | with_reducible (k_here; (with_reducible show wpAny _ _ (compareOp .NotEq (Value.ref _) (Value.ref _)) _ _ _); k_dflt (refine' ne_t2s ?q1 ?q2 ?q3 ?q4 ?_; (case q1 => k_asm); (case q2 => k_mem); (case q3 => k_mem); (case q4 => ktr_units))) | with_reducible (k_here; (with_reducible show wpAny _ _ (compareOp .NotEq (Value.ref _) (Value.ref _)) _ _ _); k_dflt (refine' ne_t2 ?q1 ?q2 ?q3 ?q4 ?_; (case q1 => k_asm); (case q2 => k_mem); (case q3 => k_mem); (case q4 => ktr_units))) | with_reducible (k_here; (with_reducible show wpAny _ _ (binaryOp .Mult (Value.int _ _) (Value.ref _)) _ _ _); k_dflt (refine' bin_refl ?F ?X ?I ?hC ?hS ?hR ?hF ?hU ?_; (case F => k_asm); (case X => k_asm); (case I => k_inst); (case hC => k_is); (case hS => k_is); (case hR => k_is); (case hF => k_is); (case hU => k_is); k_whole)) | with_reducible (k_here; (with_reducible show wpAny _ _ (PySem.call (Value.ref 263) _) _ _ _); k_dflt (refine' Sp.use (c_pe_order ?q1 ?m0 ?m1) ?k1 ?k2 ?k3 ?k4 ?k5 ?k6 ?k7 ?k8 ?k9 ?_; walk_at "use"; (case m0 => k_dflt k_mem); (case m1 => k_dflt k_mem); (case q1 => exact ⟨rfl, rfl, OvOk.handed (by assumption), rfl, rfl⟩)); unfold RV; intro h9ᵣ tk9ᵣ F9ᵣ N9ᵣ; (try dsimp only); (try k_sweep); (try k_fold)) | with_reducible (k_here; (with_reducible show wpAny _ _ (subscriptTail _ _ (Value.ref _) (Value.int _ _)) _ _ _); k_dflt (refine' item_list ?q1 ?q2 ?q3 ?q4 ?_ ?q5 ?q6; (case q1 => exact News.isList (by k_asm) (by k_mem)); (case q4 => assumption); (case q2 => omega); (case q3 => omega); (case q5 => with_unfolding_all rfl); (case q6 => intro _; with_unfolding_all rfl))) | with_reducible (k_here; (with_reducible show wpAny _ _ (subscriptTail _ _ (Value.ref _) (Value.int _ _)) _ _ _); refine Stop.of ?_) | with_reducible (k_here; (with_reducible show wpAny _ _ (PySem.call (Value.ref _) _) _ _ _); (fail_if_success (with_reducible show wpAny _ _ (PySem.call (Value.ref 361) _) _ _ _)); refine Stop.of ?_) | with_reducible (k_here; (with_reducible show wpAny _ _ (PySem.call (Value.ref 361) _) _ _ _); k_dflt (refine' Sp.use (c_takeU ?q1 ?q2 ?q3 ?q4 ?q5 ?q6) ?k1 ?k2 ?k3 ?k4 ?k5 ?k6 ?k7 ?k8 ?k9 ?_; walk_at "use"; (case q5 => k_updF); (case q6 => (intro o9ᵣ; k_updF)); (case q1 => with_reducible assumption); (case q2 => omega); (case q3 => first | omega | decide); (case q4 => assumption)); unfold RTakeU; intro r9ᵣ tr9ᵣ at9ᵣ ta9ᵣ vs9ᵣ ns9ᵣ zs9ᵣ zc9ᵣ h9ᵣ tk9ᵣ hr91ᵣ hr92ᵣ hst9ᵣ F9ᵣ N9ᵣ; (try dsimp only at N9ᵣ ⊢); (try k_sweep); (try k_fold)) | with_reducible (k_here; (with_reducible show wpAny _ _ (PySem.call (Value.ref 21) _) _ _ _); k_dflt (refine' Sp.use (c_inv ?q1 ?q2 ?q3 ?q4) ?k1 ?k2 ?k3 ?k4 ?k5 ?k6 ?k7 ?k8 ?k9 ?_; walk_at "use"; (case q1 => assumption); (case q2 => assumption); (case q3 => omega); (case q4 => omega)); unfold RInv; intro i9ᵣ t9ᵣ h9ᵣ tk9ᵣ hi1ᵣ hi2ᵣ hi3ᵣ F9ᵣ N9ᵣ; (try dsimp only); (try k_sweep); (try k_fold)) | with_reducible (k_here; (with_reducible show wpAny _ _ (PySem.call (Value.ref 71) _) _ _ _); k_dflt (refine' Sp.use (c_ed_a ?q1 ?q2 ?q3) ?k1 ?k2 ?k3 ?k4 ?k5 ?k6 ?k7 ?k8 ?k9 ?_; walk_at "use"; (case q2 => k_dflt k_mem); (case q3 => k_dflt k_mem); (case q1 => k_dflt (exact ⟨rfl, rfl, rfl⟩))); unfold RV; intro h9ᵣ tk9ᵣ F9ᵣ N9ᵣ; (try dsimp only); (try k_sweep); (try k_fold)) | with_reducible (k_here; (with_reducible show wpAny _ _ (PySem.call (Value.ref 64) _) _ _ _); k_dflt (refine' Sp.use (c_ed_p ?q1 ?q2 ?q3) ?k1 ?k2 ?k3 ?k4 ?k5 ?k6 ?k7 ?k8 ?k9 ?_; walk_at "use"; (case q2 => k_dflt k_mem); (case q3 => k_dflt k_mem); (case q1 => k_dflt (exact ⟨rfl, rfl, rfl⟩))); unfold RV; intro h9ᵣ tk9ᵣ F9ᵣ N9ᵣ; (try dsimp only); (try k_sweep); (try k_fold)) | with_reducible (k_here; (with_reducible show wpAny _ _ (call (Value.builtin "len") [Value.ref _]) _ _ _); k_dflt (refine' kst_len ?q1 ?q2 ?q3 ?q4 ?_; (case q1 => k_asm); (case q2 => k_mem); (case q3 => assumption); (case q4 => omega))) | with_reducible (k_here; (with_reducible show wpAny _ _ (exec (Stmt.For _ _ _ _ _) _) _ _ _); (rename Fr _ _ _ _ => lF'); (with_unfolding_all refine' For_invVF lF' ?k1 ?k2 ?_; (case k1 => exact rfl); (case k2 => exact rfl); k_whole)) | with_reducible (k_here; (with_reducible show wpAny _ _ (subscriptTail _ _ (Value.ref _) (Value.int _ _)) _ _ _); k_dflt (refine' item_tupleT ?t ?a ?b ?c ?d ?_; (case t => exact News.isTup (by k_asm) (by k_mem)); (case a => decide); (case b => decide); (case c => rfl); (case d => rfl); k_whole)) | with_reducible (k_here; (with_reducible show wpAny _ _ (PySem.pyIter (Value.ref _)) _ _ _); refine Stop.of ?_) | walk1 | ((with_reducible show wpAny _ _ _ _ _ _); dsimp only; walk1) | fail "no step"))
        refine Stop.to ?_
        (rename News _ _ _ _ => N16)
        (rename StI _ _ _ (0 + 3 + 1 + 2 + 2 + 2 + 1) => hst6)
        (rename (_ < (4 : Int)) => hr4)
        (rename (0 ≤ (_ : Int)) => hr0)
        revert N16
        refine withSt hst6 ?_
        rintro vs6 ns6 at6 rfl rfl rfl N16
        revert hr0 N16
        refine withI hr4 ?_
        rintro r4 rfl hr0 N16
        k_dflt (refine' lp_rangeI (σ := OutC) (1 + r4).toNat (fun c' => (S, stO c'.at0 c'.ta C c'.zs) :: (C, W.listOf c'.vs.toArray c'.zc) :: (t.d3, t.D3 w c.k3 c.e3 c'.l) :: c'.led) (fun _ => []) (OutI t S C 100 B) [Str.ofString "number", Str.ofString "due", Str.ofString "told", Str.ofString "result"] ⟨at6, _, _, vs6, ns6, _, l3, B⟩ rfl ?yr ?ys ?yn (by k_asm) N16 (List.forall_mem_nil _) ?yi ?yt ?yd)
        (case yr => assumption)
        (case ys => exact small_one (by omega) (by omega) (by omega) (by omega))
        (case yn => rw [rangeSize_nat, Int.sub_zero])
        (case yi => exact ⟨StI.mono hst6 (by omega), hG, fun _ h => h, nS, nC, n3⟩)
        (case yt =>
          intro I i ti co u h10 tk10 it hi hit hI hne F10 N17
          dsimp only [envOf] at hne F10 N17
          (repeat' (first | (k_unfold; (try dsimp only)) | ((with_reducible show wpAny _ _ (execs (List.cons _ _) _) _ _ (Shared.mk _ _ _ (HAdd.hAdd _ _) _)); (rename Fr _ _ _ _ => Fq); refine stm8 Fq ?_; clear Fq; intro tkq mq Fq; (try k_fold)) | with_reducible (k_here; (with_reducible show wpAny _ _ (compareOp .NotEq _ _) _ _ _); k_dflt (refine' ne_ov ?q1 ?_; (case q1 => assumption))) | with_reducible (k_here; (with_reducible show wpAny _ _ (compareOp .NotEq (Value.ref _) (Value.ref _)) _ _ _); k_dflt (refine' ne_t2s ?q1 ?q2 ?q3 ?q4 ?_; (case q1 => k_asm); (case q2 => k_mem); (case q3 => k_mem); (case q4 => ktr_units))) | with_reducible (k_here; (with_reducible show wpAny _ _ (compareOp .NotEq (Value.ref _) (Value.ref _)) _ _ _); k_dflt (refine' ne_t2 ?q1 ?q2 ?q3 ?q4 ?_; (case q1 => k_asm); (case q2 => k_mem); (case q3 => k_mem); (case q4 => ktr_units))) | with_reducible (k_here; (with_reducible show wpAny _ _ (binaryOp .Mult (Value.int _ _) (Value.ref _)) _ _ _); k_dflt (refine' bin_refl ?F ?X ?I ?hC ?hS ?hR ?hF ?hU ?_; (case F => k_asm); (case X => k_asm); (case I => k_inst); (case hC => k_is); (case hS => k_is); (case hR => k_is); (case hF => k_is); (case hU => k_is); k_whole)) | with_reducible (k_here; (with_reducible show wpAny _ _ (PySem.call (Value.ref 263) _) _ _ _); k_dflt (refine' Sp.use (c_pe_order ?q1 ?m0 ?m1) ?k1 ?k2 ?k3 ?k4 ?k5 ?k6 ?k7 ?k8 ?k9 ?_; walk_at "use"; (case m0 => k_dflt k_mem); (case m1 => k_dflt k_mem); (case q1 => exact ⟨rfl, rfl, OvOk.handed (by assumption), rfl, rfl⟩)); unfold RV; intro h9ᵣ tk9ᵣ F9ᵣ N9ᵣ; (try dsimp only); (try k_sweep); (try k_fold)) | with_reducible (k_here; (with_reducible show wpAny _ _ (subscriptTail _ _ (Value.ref _) (Value.int _ _)) _ _ _); k_dflt (refine' item_list ?q1 ?q2 ?q3 ?q4 ?_ ?q5 ?q6; (case q1 => exact News.isList (by k_asm) (by k_mem)); (case q4 => assumption); (case q2 => omega); (case q3 => omega); (case q5 => with_unfolding_all rfl); (case q6 => intro _; with_unfolding_all rfl))) | with_reducible (k_here; (with_reducible show wpAny _ _ (subscriptTail _ _ (Value.ref _) (Value.int _ _)) _ _ _); refine Stop.of ?_) | with_reducible (k_here; (with_reducible show wpAny _ _ (PySem.call (Value.ref _) _) _ _ _); (fail_if_success (with_reducible show wpAny _ _ (PySem.call (Value.ref 361) _) _ _ _)); refine Stop.of ?_) | with_reducible (k_here; (with_reducible show wpAny _ _ (PySem.call (Value.ref 361) _) _ _ _); k_dflt (refine' Sp.use (c_takeU ?q1 ?q2 ?q3 ?q4 ?q5 ?q6) ?k1 ?k2 ?k3 ?k4 ?k5 ?k6 ?k7 ?k8 ?k9 ?_; walk_at "use"; (case q5 => k_updF); (case q6 => (intro o9ᵣ; k_updF)); (case q1 => with_reducible assumption); (case q2 => omega); (case q3 => first | omega | decide); (case q4 => assumption)); unfold RTakeU; intro r9ᵣ tr9ᵣ at9ᵣ ta9ᵣ vs9ᵣ ns9ᵣ zs9ᵣ zc9ᵣ h9ᵣ tk9ᵣ hr91ᵣ hr92ᵣ hst9ᵣ F9ᵣ N9ᵣ; (try dsimp only at N9ᵣ ⊢); (try k_sweep); (try k_fold)) | with_reducible (k_here; (with_reducible show wpAny _ _ (PySem.call (Value.ref 21) _) _ _ _); k_dflt (refine' Sp.use (c_inv ?q1 ?q2 ?q3 ?q4) ?k1 ?k2 ?k3 ?k4 ?k5 ?k6 ?k7 ?k8 ?k9 ?_; walk_at "use"; (case q1 => assumption); (case q2 => assumption); (case q3 => omega); (case q4 => omega)); unfold RInv; intro i9ᵣ t9ᵣ h9ᵣ tk9ᵣ hi1ᵣ hi2ᵣ hi3ᵣ F9ᵣ N9ᵣ; (try dsimp only); (try k_sweep); (try k_fold)) | with_reducible (k_here; (with_reducible show wpAny _ _ (PySem.call (Value.ref 71) _) _ _ _); k_dflt (refine' Sp.use (c_ed_a ?q1 ?q2 ?q3) ?k1 ?k2 ?k3 ?k4 ?k5 ?k6 ?k7 ?k8 ?k9 ?_; walk_at "use"; (case q2 => k_dflt k_mem); (case q3 => k_dflt k_mem); (case q1 => k_dflt (exact ⟨rfl, rfl, rfl⟩))); unfold RV; intro h9ᵣ tk9ᵣ F9ᵣ N9ᵣ; (try dsimp only); (try k_sweep); (try k_fold)) | with_reducible (k_here; (with_reducible show wpAny _ _ (PySem.call (Value.ref 64) _) _ _ _); k_dflt (refine' Sp.use (c_ed_p ?q1 ?q2 ?q3) ?k1 ?k2 ?k3 ?k4 ?k5 ?k6 ?k7 ?k8 ?k9 ?_; walk_at "use"; (case q2 => k_dflt k_mem); (case q3 => k_dflt k_mem); (case q1 => k_dflt (exact ⟨rfl, rfl, rfl⟩))); unfold RV; intro h9ᵣ tk9ᵣ F9ᵣ N9ᵣ; (try dsimp only); (try k_sweep); (try k_fold)) | with_reducible (k_here; (with_reducible show wpAny _ _ (call (Value.builtin "len") [Value.ref _]) _ _ _); k_dflt (refine' kst_len ?q1 ?q2 ?q3 ?q4 ?_; (case q1 => k_asm); (case q2 => k_mem); (case q3 => assumption); (case q4 => omega))) | with_reducible (k_here; (with_reducible show wpAny _ _ (exec (Stmt.For _ _ _ _ _) _) _ _ _); (rename Fr _ _ _ _ => lF'); (with_unfolding_all refine' For_invVF lF' ?k1 ?k2 ?_; (case k1 => exact rfl); (case k2 => exact rfl); k_whole)) | with_reducible (k_here; (with_reducible show wpAny _ _ (subscriptTail _ _ (Value.ref _) (Value.int _ _)) _ _ _); k_dflt (refine' item_tupleT ?t ?a ?b ?c ?d ?_; (case t => exact News.isTup (by k_asm) (by k_mem)); (case a => decide); (case b => decide); (case c => rfl); (case d => rfl); k_whole)) | with_reducible (k_here; (with_reducible show wpAny _ _ (PySem.pyIter (Value.ref _)) _ _ _); refine Stop.of ?_) | walk1 | ((with_reducible show wpAny _ _ _ _ _ _); dsimp only; walk1) | fail "no step"))
          refine Stop.to ?_
          have q1 := hne _ (.head _)
          have q2 := hne _ (.tail _ (.head _))
          have q3 := hne _ (.tail _ (.tail _ (.head _)))
          have q4 : ∀ p ∈ co.led, p.1 ≠ I := fun p hp => hne p (.tail _ (.tail _ (.tail _ hp)))
          have N18 := news_rot N17
          k_dflt (refine' Sp.use (c_number (news := (I, it) :: (t.d3, t.D3 w c.k3 c.e3 co.l) :: co.led) hI.st (by omega) hSC (List.forall_mem_cons.mpr ⟨fun e => q1 e.symm, List.forall_mem_cons.mpr ⟨nS3', hI.nS⟩⟩) (List.forall_mem_cons.mpr ⟨fun e => q2 e.symm, List.forall_mem_cons.mpr ⟨nC3', hI.nC⟩⟩)) ?zk1 ?zk2 ?zk3 ?zk4 ?zk5 ?zk6 ?zk7 ?zk8 trivial ?_)
          ((case zk1 => k_asm); (case zk2 => k_asm); (case zk3 => k_asm); (case zk4 => k_asm); (case zk5 => k_asm); (case zk6 => rfl); (case zk7 => ktr_room); (case zk8 => ktr_units))
          intro kv tkv at7 ta7 vs7 ns7 zs7 zc7 h11 tk11 hk1 hk2 hst7 F11 N19
          (try dsimp only at N19)
          have hB7 := hB.mono hI.sub
          have hfk := Ed.fm_bd (show (0 : Int) < vs.length by omega) kv
          obtain ⟨rd, y1, y2, ey, hmd⟩ := hB7.rw (kv.fmod (vs.length : Int)).toNat _ (List.getElem?_eq_getElem (by omega))
          have hrd : vs.toArray[(kv.fmod (vs.length : Int)).toNat]? = some (.ref rd) := by
            rw [← ey]
            simp [show (kv.fmod (vs.length : Int)).toNat < vs.length by omega]
          have ez : Ed.lmul t.q t.a t.d t.P (kv.fmod (vs.length : Int)).toNat = Ed.zM t.q t.a t.d t.P t.n kv := by
            unfold Ed.zM
            rw [hn, Int.fmod_eq_emod_of_nonneg _ (by omega)]
          rw [ez] at hmd
          have mT7 := hB7.mT
          have mR7 := hB7.mR
          clear N17 N18 ey ez
          try dsimp only
          (repeat' (first | (k_unfold; (try dsimp only)) | ((with_reducible show wpAny _ _ (execs (List.cons _ _) _) _ _ (Shared.mk _ _ _ (HAdd.hAdd _ _) _)); (rename Fr _ _ _ _ => Fq); refine stm8 Fq ?_; clear Fq; intro tkq mq Fq; (try k_fold)) | with_reducible (k_here; (with_reducible show wpAny _ _ (compareOp .NotEq _ _) _ _ _); k_dflt (refine' ne_ov ?q1 ?_; (case q1 => assumption))) | with_reducible (k_here; (with_reducible show wpAny _ _ (compareOp .NotEq (Value.ref _) (Value.ref _)) _ _ _); k_dflt (refine' ne_t2s ?q1 ?q2 ?q3 ?q4 ?_; (case q1 => k_asm); (case q2 => k_mem); (case q3 => k_mem); (case q4 => ktr_units))) | with_reducible (k_here; (with_reducible show wpAny _ _ (compareOp .NotEq (Value.ref _) (Value.ref _)) _ _ _); k_dflt (refine' ne_t2 ?q1 ?q2 ?q3 ?q4 ?_; (case q1 => k_asm); (case q2 => k_mem); (case q3 => k_mem); (case q4 => ktr_units))) | with_reducible (k_here; (with_reducible show wpAny _ _ (binaryOp .Mult (Value.int _ _) (Value.ref _)) _ _ _); k_dflt (refine' bin_refl ?F ?X ?I ?hC ?hS ?hR ?hF ?hU ?_; (case F => k_asm); (case X => k_asm); (case I => k_inst); (case hC => k_is); (case hS => k_is); (case hR => k_is); (case hF => k_is); (case hU => k_is); k_whole)) | with_reducible (k_here; (with_reducible show wpAny _ _ (PySem.call (Value.ref 263) _) _ _ _); k_dflt (refine' Sp.use (c_pe_order ?q1 ?m0 ?m1) ?k1 ?k2 ?k3 ?k4 ?k5 ?k6 ?k7 ?k8 ?k9 ?_; walk_at "use"; (case m0 => k_dflt k_mem); (case m1 => k_dflt k_mem); (case q1 => exact ⟨rfl, rfl, OvOk.handed (by assumption), rfl, rfl⟩)); unfold RV; intro h9ᵣ tk9ᵣ F9ᵣ N9ᵣ; (try dsimp only); (try k_sweep); (try k_fold)) | with_reducible (k_here; (with_reducible show wpAny _ _ (subscriptTail _ _ (Value.ref _) (Value.int _ _)) _ _ _); k_dflt (refine' item_list ?q1 ?q2 ?q3 ?q4 ?_ ?q5 ?q6; (case q1 => exact News.isList (by k_asm) (by k_mem)); (case q4 => assumption); (case q2 => omega); (case q3 => omega); (case q5 => with_unfolding_all rfl); (case q6 => intro _; with_unfolding_all rfl))) | with_reducible (k_here; (with_reducible show wpAny _ _ (subscriptTail _ _ (Value.ref _) (Value.int _ _)) _ _ _); refine Stop.of ?_) | with_reducible (k_here; (with_reducible show wpAny _ _ (PySem.call (Value.ref _) _) _ _ _); (fail_if_success (with_reducible show wpAny _ _ (PySem.call (Value.ref 361) _) _ _ _)); refine Stop.of ?_) | with_reducible (k_here; (with_reducible show wpAny _ _ (PySem.call (Value.ref 361) _) _ _ _); k_dflt (refine' Sp.use (c_takeU ?q1 ?q2 ?q3 ?q4 ?q5 ?q6) ?k1 ?k2 ?k3 ?k4 ?k5 ?k6 ?k7 ?k8 ?k9 ?_; walk_at "use"; (case q5 => k_updF); (case q6 => (intro o9ᵣ; k_updF)); (case q1 => with_reducible assumption); (case q2 => omega); (case q3 => first | omega | decide); (case q4 => assumption)); unfold RTakeU; intro r9ᵣ tr9ᵣ at9ᵣ ta9ᵣ vs9ᵣ ns9ᵣ zs9ᵣ zc9ᵣ h9ᵣ tk9ᵣ hr91ᵣ hr92ᵣ hst9ᵣ F9ᵣ N9ᵣ; (try dsimp only at N9ᵣ ⊢); (try k_sweep); (try k_fold)) | with_reducible (k_here; (with_reducible show wpAny _ _ (PySem.call (Value.ref 21) _) _ _ _); k_dflt (refine' Sp.use (c_inv ?q1 ?q2 ?q3 ?q4) ?k1 ?k2 ?k3 ?k4 ?k5 ?k6 ?k7 ?k8 ?k9 ?_; walk_at "use"; (case q1 => assumption); (case q2 => assumption); (case q3 => omega); (case q4 => omega)); unfold RInv; intro i9ᵣ t9ᵣ h9ᵣ tk9ᵣ hi1ᵣ hi2ᵣ hi3ᵣ F9ᵣ N9ᵣ; (try dsimp only); (try k_sweep); (try k_fold)) | with_reducible (k_here; (with_reducible show wpAny _ _ (PySem.call (Value.ref 71) _) _ _ _); k_dflt (refine' Sp.use (c_ed_a ?q1 ?q2 ?q3) ?k1 ?k2 ?k3 ?k4 ?k5 ?k6 ?k7 ?k8 ?k9 ?_; walk_at "use"; (case q2 => k_dflt k_mem); (case q3 => k_dflt k_mem); (case q1 => k_dflt (exact ⟨rfl, rfl, rfl⟩))); unfold RV; intro h9ᵣ tk9ᵣ F9ᵣ N9ᵣ; (try dsimp only); (try k_sweep); (try k_fold)) | with_reducible (k_here; (with_reducible show wpAny _ _ (PySem.call (Value.ref 64) _) _ _ _); k_dflt (refine' Sp.use (c_ed_p ?q1 ?q2 ?q3) ?k1 ?k2 ?k3 ?k4 ?k5 ?k6 ?k7 ?k8 ?k9 ?_; walk_at "use"; (case q2 => k_dflt k_mem); (case q3 => k_dflt k_mem); (case q1 => k_dflt (exact ⟨rfl, rfl, rfl⟩))); unfold RV; intro h9ᵣ tk9ᵣ F9ᵣ N9ᵣ; (try dsimp only); (try k_sweep); (try k_fold)) | with_reducible (k_here; (with_reducible show wpAny _ _ (call (Value.builtin "len") [Value.ref _]) _ _ _); k_dflt (refine' kst_len ?q1 ?q2 ?q3 ?q4 ?_; (case q1 => k_asm); (case q2 => k_mem); (case q3 => assumption); (case q4 => omega))) | with_reducible (k_here; (with_reducible show wpAny _ _ (exec (Stmt.For _ _ _ _ _) _) _ _ _); (rename Fr _ _ _ _ => lF'); (with_unfolding_all refine' For_invVF lF' ?k1 ?k2 ?_; (case k1 => exact rfl); (case k2 => exact rfl); k_whole)) | with_reducible (k_here; (with_reducible show wpAny _ _ (subscriptTail _ _ (Value.ref _) (Value.int _ _)) _ _ _); k_dflt (refine' item_tupleT ?t ?a ?b ?c ?d ?_; (case t => exact News.isTup (by k_asm) (by k_mem)); (case a => decide); (case b => decide); (case c => rfl); (case d => rfl); k_whole)) | with_reducible (k_here; (with_reducible show wpAny _ _ (PySem.pyIter (Value.ref _)) _ _ _); refine Stop.of ?_) | walk1 | ((with_reducible show wpAny _ _ _ _ _ _); dsimp only; walk1) | fail "no step"))
          refine Stop.to ?_
          (rename News _ _ _ _ => N20)
          (rename (_ < _ ∧ S < _ ∧ C < _ ∧ I < _ ∧ t.d3 < _ ∧ AllLt _ _) => lF9)
          revert lF9
          refine withAddrH N20 ?_
          rintro lF rfl lF9
          have lF' : @LT.lt Nat _ t.d3 lF := lF9.2.2.2.2.1
          have q3' : @Ne Nat t.d3 I := q3
          have N21 : News _ _ _ ((t.d3, t.D3 w c.k3 c.e3 co.l) :: (S, stO at7 ta7 C zs7) :: (C, W.listOf vs7.toArray zc7) :: (I, it) :: (lF, W.listOf [Value.ref t.x1, Value.ref t.x2, Value.ref t.x3, Value.ref t.x3].toArray 0) :: co.led) :=
            cb_drop N20 (List.forall_mem_cons.mpr ⟨by k_dflt k_mem, List.forall_mem_cons.mpr ⟨by k_dflt k_mem, List.forall_mem_cons.mpr ⟨by k_dflt k_mem, List.forall_mem_cons.mpr ⟨by k_dflt k_mem, List.forall_mem_cons.mpr ⟨.head _, fun p hp => by repeat (first | exact hp | apply List.mem_cons_of_mem)⟩⟩⟩⟩⟩)
          obtain ⟨B2, hB2e⟩ : ∃ B2, B2 = (S, stO at7 ta7 C zs7) :: (C, W.listOf vs7.toArray zc7) :: (I, it) :: (lF, W.listOf [Value.ref t.x1, Value.ref t.x2, Value.ref t.x3, Value.ref t.x3].toArray 0) :: co.led := ⟨_, rfl⟩
          have s27 : ∀ p ∈ co.led, p ∈ B2 := fun p hp => by rw [hB2e]; exact .tail _ (.tail _ (.tail _ (.tail _ hp)))
          have mF : (lF, W.listOf [Value.ref t.x1, Value.ref t.x2, Value.ref t.x3, Value.ref t.x3].toArray 0) ∈ B2 := by rw [hB2e]; exact .tail _ (.tail _ (.tail _ (.head _)))
          have n32 : ∀ p ∈ B2, p.1 ≠ t.d3 := by rw [hB2e]; exact List.forall_mem_cons.mpr ⟨nS3, List.forall_mem_cons.mpr ⟨nC3, List.forall_mem_cons.mpr ⟨fun e => q3 e.symm, List.forall_mem_cons.mpr ⟨Nat.ne_of_gt lF', hI.n3⟩⟩⟩⟩
          rw [← hB2e] at N21
          have hB2 := hB7.mono s27
          have hmd2 := s27 _ hmd
          clear N20 hB7 hmd mT7 mR7
          k_dflt (refine' lp_listI (σ := InC) (lo := W.listOf [Value.ref t.x1, Value.ref t.x2, Value.ref t.x3, Value.ref t.x3].toArray 0) [Value.ref t.x1, Value.ref t.x2, Value.ref t.x3, Value.ref t.x3] (fun c' => (t.d3, t.D3 w c.k3 c.e3 c'.l) :: c'.led) (fun _ => []) (fun _ => InI t B2) [Str.ofString "result"] ⟨co.l, B2⟩ rfl (News.isList N21 (.tail _ mF)) (fun _ _ c' hI => .tail _ (hI.sub _ mF)) (N21 _ (.tail _ mF)).2.1 (by k_asm) N21 (List.forall_mem_nil _) ⟨hI.tab.mono s27, fun _ h => h, n32⟩ ?xt ?xd)
          (case xt =>
            intro I2 i2 v ci u2 h12 tk12 it2 hv hit2 hI2 hne2 F12 N22
            dsimp only [envOf] at hne2 F12 N22
            obtain ⟨x, ov, rfl, hT⟩ := told_at hB2 hI2.sub hv
            have h3I := hne2 _ (.head _)
            have hBI : ∀ p ∈ B2, p.1 ≠ I2 := fun p hp => hne2 p (.tail _ (hI2.sub p hp))
            obtain ⟨led1, hle⟩ : ∃ led1, led1 = (I2, it2) :: ci.led := ⟨_, rfl⟩
            have s1 : ∀ p ∈ ci.led, p ∈ led1 := fun p hp => by rw [hle]; exact .tail _ hp
            have s2 : ∀ p ∈ B2, p ∈ led1 := fun p hp => s1 p (hI2.sub p hp)
            have mI1 : (I2, it2) ∈ led1 := by rw [hle]; exact .head _
            have n31 : ∀ p ∈ led1, p.1 ≠ t.d3 := by rw [hle]; exact List.forall_mem_cons.mpr ⟨fun e => h3I e.symm, hI2.n3⟩
            have N23 := news_swap N22
            rw [← hle] at N23
            have hT1 := hT.mono s1
            have hG1 := hI2.tab.mono s1
            have hcu1 := hB2.cu.mono s2
            have hn9 : t.n ≤ 1000 := by omega
            refine hT1.get (e3 := c.e3) (l := ci.l) ?_
            intro dx kx gx lx x1 x2 x3 x4 x5 m0 m1 hz hov
            clear N22 hne2 hT hv hI2 hle
            (repeat' (first | (k_unfold; (try dsimp only)) | ((with_reducible show wpAny _ _ (execs (List.cons _ _) _) _ _ (Shared.mk _ _ _ (HAdd.hAdd _ _) _)); (rename Fr _ _ _ _ => Fq); refine stm8 Fq ?_; clear Fq; intro tkq mq Fq; (try k_fold)) | with_reducible (k_here; (with_reducible show wpAny _ _ (compareOp .NotEq _ _) _ _ _); k_dflt (refine' ne_ov ?q1 ?_; (case q1 => assumption))) | with_reducible (k_here; (with_reducible show wpAny _ _ (compareOp .NotEq (Value.ref _) (Value.ref _)) _ _ _); k_dflt (refine' ne_t2s ?q1 ?q2 ?q3 ?q4 ?_; (case q1 => k_asm); (case q2 => k_mem); (case q3 => k_mem); (case q4 => ktr_units))) | with_reducible (k_here; (with_reducible show wpAny _ _ (compareOp .NotEq (Value.ref _) (Value.ref _)) _ _ _); k_dflt (refine' ne_t2 ?q1 ?q2 ?q3 ?q4 ?_; (case q1 => k_asm); (case q2 => k_mem); (case q3 => k_mem); (case q4 => ktr_units))) | with_reducible (k_here; (with_reducible show wpAny _ _ (binaryOp .Mult (Value.int _ _) (Value.ref _)) _ _ _); k_dflt (refine' bin_refl ?F ?X ?I ?hC ?hS ?hR ?hF ?hU ?_; (case F => k_asm); (case X => k_asm); (case I => k_inst); (case hC => k_is); (case hS => k_is); (case hR => k_is); (case hF => k_is); (case hU => k_is); k_whole)) | with_reducible (k_here; (with_reducible show wpAny _ _ (PySem.call (Value.ref 263) _) _ _ _); k_dflt (refine' Sp.use (c_pe_order ?q1 ?m0 ?m1) ?k1 ?k2 ?k3 ?k4 ?k5 ?k6 ?k7 ?k8 ?k9 ?_; walk_at "use"; (case m0 => k_dflt k_mem); (case m1 => k_dflt k_mem); (case q1 => exact ⟨rfl, rfl, OvOk.handed (by assumption), rfl, rfl⟩)); unfold RV; intro h9ᵣ tk9ᵣ F9ᵣ N9ᵣ; (try dsimp only); (try k_sweep); (try k_fold)) | with_reducible (k_here; (with_reducible show wpAny _ _ (subscriptTail _ _ (Value.ref _) (Value.int _ _)) _ _ _); k_dflt (refine' item_list ?q1 ?q2 ?q3 ?q4 ?_ ?q5 ?q6; (case q1 => exact News.isList (by k_asm) (by k_mem)); (case q4 => assumption); (case q2 => omega); (case q3 => omega); (case q5 => with_unfolding_all rfl); (case q6 => intro _; with_unfolding_all rfl))) | with_reducible (k_here; (with_reducible show wpAny _ _ (subscriptTail _ _ (Value.ref _) (Value.int _ _)) _ _ _); refine Stop.of ?_) | with_reducible (k_here; (with_reducible show wpAny _ _ (PySem.call (Value.ref _) _) _ _ _); (fail_if_success (with_reducible show wpAny _ _ (PySem.call (Value.ref 361) _) _ _ _)); refine Stop.of ?_) | with_reducible (k_here; (with_reducible show wpAny _ _ (PySem.call (Value.ref 361) _) _ _ _); k_dflt (refine' Sp.use (c_takeU ?q1 ?q2 ?q3 ?q4 ?q5 ?q6) ?k1 ?k2 ?k3 ?k4 ?k5 ?k6 ?k7 ?k8 ?k9 ?_; walk_at "use"; (case q5 => k_updF); (case q6 => (intro o9ᵣ; k_updF)); (case q1 => with_reducible assumption); (case q2 => omega); (case q3 => first | omega | decide); (case q4 => assumption)); unfold RTakeU; intro r9ᵣ tr9ᵣ at9ᵣ ta9ᵣ vs9ᵣ ns9ᵣ zs9ᵣ zc9ᵣ h9ᵣ tk9ᵣ hr91ᵣ hr92ᵣ hst9ᵣ F9ᵣ N9ᵣ; (try dsimp only at N9ᵣ ⊢); (try k_sweep); (try k_fold)) | with_reducible (k_here; (with_reducible show wpAny _ _ (PySem.call (Value.ref 21) _) _ _ _); k_dflt (refine' Sp.use (c_inv ?q1 ?q2 ?q3 ?q4) ?k1 ?k2 ?k3 ?k4 ?k5 ?k6 ?k7 ?k8 ?k9 ?_; walk_at "use"; (case q1 => assumption); (case q2 => assumption); (case q3 => omega); (case q4 => omega)); unfold RInv; intro i9ᵣ t9ᵣ h9ᵣ tk9ᵣ hi1ᵣ hi2ᵣ hi3ᵣ F9ᵣ N9ᵣ; (try dsimp only); (try k_sweep); (try k_fold)) | with_reducible (k_here; (with_reducible show wpAny _ _ (PySem.call (Value.ref 71) _) _ _ _); k_dflt (refine' Sp.use (c_ed_a ?q1 ?q2 ?q3) ?k1 ?k2 ?k3 ?k4 ?k5 ?k6 ?k7 ?k8 ?k9 ?_; walk_at "use"; (case q2 => k_dflt k_mem); (case q3 => k_dflt k_mem); (case q1 => k_dflt (exact ⟨rfl, rfl, rfl⟩))); unfold RV; intro h9ᵣ tk9ᵣ F9ᵣ N9ᵣ; (try dsimp only); (try k_sweep); (try k_fold)) | with_reducible (k_here; (with_reducible show wpAny _ _ (PySem.call (Value.ref 64) _) _ _ _); k_dflt (refine' Sp.use (c_ed_p ?q1 ?q2 ?q3) ?k1 ?k2 ?k3 ?k4 ?k5 ?k6 ?k7 ?k8 ?k9 ?_; walk_at "use"; (case q2 => k_dflt k_mem); (case q3 => k_dflt k_mem); (case q1 => k_dflt (exact ⟨rfl, rfl, rfl⟩))); unfold RV; intro h9ᵣ tk9ᵣ F9ᵣ N9ᵣ; (try dsimp only); (try k_sweep); (try k_fold)) | with_reducible (k_here; (with_reducible show wpAny _ _ (call (Value.builtin "len") [Value.ref _]) _ _ _); k_dflt (refine' kst_len ?q1 ?q2 ?q3 ?q4 ?_; (case q1 => k_asm); (case q2 => k_mem); (case q3 => assumption); (case q4 => omega))) | with_reducible (k_here; (with_reducible show wpAny _ _ (exec (Stmt.For _ _ _ _ _) _) _ _ _); (rename Fr _ _ _ _ => lF'); (with_unfolding_all refine' For_invVF lF' ?k1 ?k2 ?_; (case k1 => exact rfl); (case k2 => exact rfl); k_whole)) | with_reducible (k_here; (with_reducible show wpAny _ _ (subscriptTail _ _ (Value.ref _) (Value.int _ _)) _ _ _); k_dflt (refine' item_tupleT ?t ?a ?b ?c ?d ?_; (case t => exact News.isTup (by k_asm) (by k_mem)); (case a => decide); (case b => decide); (case c => rfl); (case d => rfl); k_whole)) | with_reducible (k_here; (with_reducible show wpAny _ _ (PySem.pyIter (Value.ref _)) _ _ _); refine Stop.of ?_) | walk1 | ((with_reducible show wpAny _ _ _ _ _ _); dsimp only; walk1) | fail "no step"))
            refine Stop.to ?_
            k_dflt (refine' Sp.use (SpC.sp (c_mulT hc' hn9 ⟨hk1, hk2⟩ hcu1 hG1 n31 hT1)) ?zk1 ?zk2 ?zk3 ?zk4 ?zk5 ?zk6 ?zk7 ?zk8 trivial ?_)
            ((case zk1 => k_asm); (case zk2 => k_asm); (case zk3 => k_asm); (case zk4 => k_asm); (case zk5 => k_asm); (case zk6 => rfl); (case zk7 => ktr_room); (case zk8 => ktr_units))
            clear N23 m0 m1 hz
            unfold RMulU
            intro ra l' led' led2 h13 tk13 hres hg' hs' n3' n32' F13 N24
            have hmd' := hs' _ (s2 _ hmd2)
            have hcu2 := hcu1.mono hs'
            have hT2 := hT1.mono hs'
            dsimp only [PySem.W.CmpBack]
            (repeat' (first | (k_unfold; (try dsimp only)) | ((with_reducible show wpAny _ _ (execs (List.cons _ _) _) _ _ (Shared.mk _ _ _ (HAdd.hAdd _ _) _)); (rename Fr _ _ _ _ => Fq); refine stm8 Fq ?_; clear Fq; intro tkq mq Fq; (try k_fold)) | with_reducible (k_here; (with_reducible show wpAny _ _ (compareOp .NotEq _ _) _ _ _); k_dflt (refine' ne_ov ?q1 ?_; (case q1 => assumption))) | with_reducible (k_here; (with_reducible show wpAny _ _ (compareOp .NotEq (Value.ref _) (Value.ref _)) _ _ _); k_dflt (refine' ne_t2s ?q1 ?q2 ?q3 ?q4 ?_; (case q1 => k_asm); (case q2 => k_mem); (case q3 => k_mem); (case q4 => ktr_units))) | with_reducible (k_here; (with_reducible show wpAny _ _ (compareOp .NotEq (Value.ref _) (Value.ref _)) _ _ _); k_dflt (refine' ne_t2 ?q1 ?q2 ?q3 ?q4 ?_; (case q1 => k_asm); (case q2 => k_mem); (case q3 => k_mem); (case q4 => ktr_units))) | with_reducible (k_here; (with_reducible show wpAny _ _ (binaryOp .Mult (Value.int _ _) (Value.ref _)) _ _ _); k_dflt (refine' bin_refl ?F ?X ?I ?hC ?hS ?hR ?hF ?hU ?_; (case F => k_asm); (case X => k_asm); (case I => k_inst); (case hC => k_is); (case hS => k_is); (case hR => k_is); (case hF => k_is); (case hU => k_is); k_whole)) | with_reducible (k_here; (with_reducible show wpAny _ _ (PySem.call (Value.ref 263) _) _ _ _); k_dflt (refine' Sp.use (c_pe_order ?q1 ?m0 ?m1) ?k1 ?k2 ?k3 ?k4 ?k5 ?k6 ?k7 ?k8 ?k9 ?_; walk_at "use"; (case m0 => k_dflt k_mem); (case m1 => k_dflt k_mem); (case q1 => exact ⟨rfl, rfl, OvOk.handed (by assumption), rfl, rfl⟩)); unfold RV; intro h9ᵣ tk9ᵣ F9ᵣ N9ᵣ; (try dsimp only); (try k_sweep); (try k_fold)) | with_reducible (k_here; (with_reducible show wpAny _ _ (subscriptTail _ _ (Value.ref _) (Value.int _ _)) _ _ _); k_dflt (refine' item_list ?q1 ?q2 ?q3 ?q4 ?_ ?q5 ?q6; (case q1 => exact News.isList (by k_asm) (by k_mem)); (case q4 => assumption); (case q2 => omega); (case q3 => omega); (case q5 => with_unfolding_all rfl); (case q6 => intro _; with_unfolding_all rfl))) | with_reducible (k_here; (with_reducible show wpAny _ _ (subscriptTail _ _ (Value.ref _) (Value.int _ _)) _ _ _); refine Stop.of ?_) | with_reducible (k_here; (with_reducible show wpAny _ _ (PySem.call (Value.ref _) _) _ _ _); (fail_if_success (with_reducible show wpAny _ _ (PySem.call (Value.ref 361) _) _ _ _)); refine Stop.of ?_) | with_reducible (k_here; (with_reducible show wpAny _ _ (PySem.call (Value.ref 361) _) _ _ _); k_dflt (refine' Sp.use (c_takeU ?q1 ?q2 ?q3 ?q4 ?q5 ?q6) ?k1 ?k2 ?k3 ?k4 ?k5 ?k6 ?k7 ?k8 ?k9 ?_; walk_at "use"; (case q5 => k_updF); (case q6 => (intro o9ᵣ; k_updF)); (case q1 => with_reducible assumption); (case q2 => omega); (case q3 => first | omega | decide); (case q4 => assumption)); unfold RTakeU; intro r9ᵣ tr9ᵣ at9ᵣ ta9ᵣ vs9ᵣ ns9ᵣ zs9ᵣ zc9ᵣ h9ᵣ tk9ᵣ hr91ᵣ hr92ᵣ hst9ᵣ F9ᵣ N9ᵣ; (try dsimp only at N9ᵣ ⊢); (try k_sweep); (try k_fold)) | with_reducible (k_here; (with_reducible show wpAny _ _ (PySem.call (Value.ref 21) _) _ _ _); k_dflt (refine' Sp.use (c_inv ?q1 ?q2 ?q3 ?q4) ?k1 ?k2 ?k3 ?k4 ?k5 ?k6 ?k7 ?k8 ?k9 ?_; walk_at "use"; (case q1 => assumption); (case q2 => assumption); (case q3 => omega); (case q4 => omega)); unfold RInv; intro i9ᵣ t9ᵣ h9ᵣ tk9ᵣ hi1ᵣ hi2ᵣ hi3ᵣ F9ᵣ N9ᵣ; (try dsimp only); (try k_sweep); (try k_fold)) | with_reducible (k_here; (with_reducible show wpAny _ _ (PySem.call (Value.ref 71) _) _ _ _); k_dflt (refine' Sp.use (c_ed_a ?q1 ?q2 ?q3) ?k1 ?k2 ?k3 ?k4 ?k5 ?k6 ?k7 ?k8 ?k9 ?_; walk_at "use"; (case q2 => k_dflt k_mem); (case q3 => k_dflt k_mem); (case q1 => k_dflt (exact ⟨rfl, rfl, rfl⟩))); unfold RV; intro h9ᵣ tk9ᵣ F9ᵣ N9ᵣ; (try dsimp only); (try k_sweep); (try k_fold)) | with_reducible (k_here; (with_reducible show wpAny _ _ (PySem.call (Value.ref 64) _) _ _ _); k_dflt (refine' Sp.use (c_ed_p ?q1 ?q2 ?q3) ?k1 ?k2 ?k3 ?k4 ?k5 ?k6 ?k7 ?k8 ?k9 ?_; walk_at "use"; (case q2 => k_dflt k_mem); (case q3 => k_dflt k_mem); (case q1 => k_dflt (exact ⟨rfl, rfl, rfl⟩))); unfold RV; intro h9ᵣ tk9ᵣ F9ᵣ N9ᵣ; (try dsimp only); (try k_sweep); (try k_fold)) | with_reducible (k_here; (with_reducible show wpAny _ _ (call (Value.builtin "len") [Value.ref _]) _ _ _); k_dflt (refine' kst_len ?q1 ?q2 ?q3 ?q4 ?_; (case q1 => k_asm); (case q2 => k_mem); (case q3 => assumption); (case q4 => omega))) | with_reducible (k_here; (with_reducible show wpAny _ _ (exec (Stmt.For _ _ _ _ _) _) _ _ _); (rename Fr _ _ _ _ => lF'); (with_unfolding_all refine' For_invVF lF' ?k1 ?k2 ?_; (case k1 => exact rfl); (case k2 => exact rfl); k_whole)) | with_reducible (k_here; (with_reducible show wpAny _ _ (subscriptTail _ _ (Value.ref _) (Value.int _ _)) _ _ _); k_dflt (refine' item_tupleT ?t ?a ?b ?c ?d ?_; (case t => exact News.isTup (by k_asm) (by k_mem)); (case a => decide); (case b => decide); (case c => rfl); (case d => rfl); k_whole)) | with_reducible (k_here; (with_reducible show wpAny _ _ (PySem.pyIter (Value.ref _)) _ _ _); refine Stop.of ?_) | walk1 | ((with_reducible show wpAny _ _ _ _ _ _); dsimp only; walk1) | fail "no step"))
            refine Stop.to ?_
            k_dflt (refine' Sp.use (c_lscaledU (k3 := c.k3) (e3 := c.e3) hc' hres hT2 hcu2 hmd' n3' n32') ?zk1 ?zk2 ?zk3 ?zk4 ?zk5 ?zk6 ?zk7 ?zk8 trivial ?_)
            ((case zk1 => k_asm); (case zk2 => k_asm); (case zk3 => k_asm); (case zk4 => k_asm); (case zk5 => k_asm); (case zk6 => rfl); (case zk7 => ktr_room); (case zk8 => ktr_units))
            intro led3 h14 tk14 hs3 n33 hord F14 N25
            have hT3 := hT2.mono hs3
            have hcu3 := hcu2.mono hs3
            have hg3 := hg'.mono hs3
            have hmd3 := hs3 _ hmd'
            have mI3 := hs3 _ (hs' _ mI1)
            have s33 : ∀ p ∈ B2, p ∈ led3 := fun p hp => hs3 p (hs' p (s2 p hp))
            refine hT3.get (e3 := c.e3) (l := l') ?_
            intro dx kx gx lx x1 x2 x3 x4 x5 m0 m1 hz _
            clear hres hg' n3' n32' hmd' hcu1 hT1 hcu2 hT2 hs' hs3 s1 s2 hG1 n31
            try dsimp only
            (repeat' (first | (k_unfold; (try dsimp only)) | ((with_reducible show wpAny _ _ (execs (List.cons _ _) _) _ _ (Shared.mk _ _ _ (HAdd.hAdd _ _) _)); (rename Fr _ _ _ _ => Fq); refine stm8 Fq ?_; clear Fq; intro tkq mq Fq; (try k_fold)) | with_reducible (k_here; (with_reducible show wpAny _ _ (compareOp .NotEq _ _) _ _ _); k_dflt (refine' ne_ov ?q1 ?_; (case q1 => assumption))) | with_reducible (k_here; (with_reducible show wpAny _ _ (compareOp .NotEq (Value.ref _) (Value.ref _)) _ _ _); k_dflt (refine' ne_t2s ?q1 ?q2 ?q3 ?q4 ?_; (case q1 => k_asm); (case q2 => k_mem); (case q3 => k_mem); (case q4 => ktr_units))) | with_reducible (k_here; (with_reducible show wpAny _ _ (compareOp .NotEq (Value.ref _) (Value.ref _)) _ _ _); k_dflt (refine' ne_t2 ?q1 ?q2 ?q3 ?q4 ?_; (case q1 => k_asm); (case q2 => k_mem); (case q3 => k_mem); (case q4 => ktr_units))) | with_reducible (k_here; (with_reducible show wpAny _ _ (binaryOp .Mult (Value.int _ _) (Value.ref _)) _ _ _); k_dflt (refine' bin_refl ?F ?X ?I ?hC ?hS ?hR ?hF ?hU ?_; (case F => k_asm); (case X => k_asm); (case I => k_inst); (case hC => k_is); (case hS => k_is); (case hR => k_is); (case hF => k_is); (case hU => k_is); k_whole)) | with_reducible (k_here; (with_reducible show wpAny _ _ (PySem.call (Value.ref 263) _) _ _ _); k_dflt (refine' Sp.use (c_pe_order ?q1 ?m0 ?m1) ?k1 ?k2 ?k3 ?k4 ?k5 ?k6 ?k7 ?k8 ?k9 ?_; walk_at "use"; (case m0 => k_dflt k_mem); (case m1 => k_dflt k_mem); (case q1 => exact ⟨rfl, rfl, OvOk.handed (by assumption), rfl, rfl⟩)); unfold RV; intro h9ᵣ tk9ᵣ F9ᵣ N9ᵣ; (try dsimp only); (try k_sweep); (try k_fold)) | with_reducible (k_here; (with_reducible show wpAny _ _ (subscriptTail _ _ (Value.ref _) (Value.int _ _)) _ _ _); k_dflt (refine' item_list ?q1 ?q2 ?q3 ?q4 ?_ ?q5 ?q6; (case q1 => exact News.isList (by k_asm) (by k_mem)); (case q4 => assumption); (case q2 => omega); (case q3 => omega); (case q5 => with_unfolding_all rfl); (case q6 => intro _; with_unfolding_all rfl))) | with_reducible (k_here; (with_reducible show wpAny _ _ (subscriptTail _ _ (Value.ref _) (Value.int _ _)) _ _ _); refine Stop.of ?_) | with_reducible (k_here; (with_reducible show wpAny _ _ (PySem.call (Value.ref _) _) _ _ _); (fail_if_success (with_reducible show wpAny _ _ (PySem.call (Value.ref 361) _) _ _ _)); refine Stop.of ?_) | with_reducible (k_here; (with_reducible show wpAny _ _ (PySem.call (Value.ref 361) _) _ _ _); k_dflt (refine' Sp.use (c_takeU ?q1 ?q2 ?q3 ?q4 ?q5 ?q6) ?k1 ?k2 ?k3 ?k4 ?k5 ?k6 ?k7 ?k8 ?k9 ?_; walk_at "use"; (case q5 => k_updF); (case q6 => (intro o9ᵣ; k_updF)); (case q1 => with_reducible assumption); (case q2 => omega); (case q3 => first | omega | decide); (case q4 => assumption)); unfold RTakeU; intro r9ᵣ tr9ᵣ at9ᵣ ta9ᵣ vs9ᵣ ns9ᵣ zs9ᵣ zc9ᵣ h9ᵣ tk9ᵣ hr91ᵣ hr92ᵣ hst9ᵣ F9ᵣ N9ᵣ; (try dsimp only at N9ᵣ ⊢); (try k_sweep); (try k_fold)) | with_reducible (k_here; (with_reducible show wpAny _ _ (PySem.call (Value.ref 21) _) _ _ _); k_dflt (refine' Sp.use (c_inv ?q1 ?q2 ?q3 ?q4) ?k1 ?k2 ?k3 ?k4 ?k5 ?k6 ?k7 ?k8 ?k9 ?_; walk_at "use"; (case q1 => assumption); (case q2 => assumption); (case q3 => omega); (case q4 => omega)); unfold RInv; intro i9ᵣ t9ᵣ h9ᵣ tk9ᵣ hi1ᵣ hi2ᵣ hi3ᵣ F9ᵣ N9ᵣ; (try dsimp only); (try k_sweep); (try k_fold)) | with_reducible (k_here; (with_reducible show wpAny _ _ (PySem.call (Value.ref 71) _) _ _ _); k_dflt (refine' Sp.use (c_ed_a ?q1 ?q2 ?q3) ?k1 ?k2 ?k3 ?k4 ?k5 ?k6 ?k7 ?k8 ?k9 ?_; walk_at "use"; (case q2 => k_dflt k_mem); (case q3 => k_dflt k_mem); (case q1 => k_dflt (exact ⟨rfl, rfl, rfl⟩))); unfold RV; intro h9ᵣ tk9ᵣ F9ᵣ N9ᵣ; (try dsimp only); (try k_sweep); (try k_fold)) | with_reducible (k_here; (with_reducible show wpAny _ _ (PySem.call (Value.ref 64) _) _ _ _); k_dflt (refine' Sp.use (c_ed_p ?q1 ?q2 ?q3) ?k1 ?k2 ?k3 ?k4 ?k5 ?k6 ?k7 ?k8 ?k9 ?_; walk_at "use"; (case q2 => k_dflt k_mem); (case q3 => k_dflt k_mem); (case q1 => k_dflt (exact ⟨rfl, rfl, rfl⟩))); unfold RV; intro h9ᵣ tk9ᵣ F9ᵣ N9ᵣ; (try dsimp only); (try k_sweep); (try k_fold)) | with_reducible (k_here; (with_reducible show wpAny _ _ (call (Value.builtin "len") [Value.ref _]) _ _ _); k_dflt (refine' kst_len ?q1 ?q2 ?q3 ?q4 ?_; (case q1 => k_asm); (case q2 => k_mem); (case q3 => assumption); (case q4 => omega))) | with_reducible (k_here; (with_reducible show wpAny _ _ (exec (Stmt.For _ _ _ _ _) _) _ _ _); (rename Fr _ _ _ _ => lF'); (with_unfolding_all refine' For_invVF lF' ?k1 ?k2 ?_; (case k1 => exact rfl); (case k2 => exact rfl); k_whole)) | with_reducible (k_here; (with_reducible show wpAny _ _ (subscriptTail _ _ (Value.ref _) (Value.int _ _)) _ _ _); k_dflt (refine' item_tupleT ?t ?a ?b ?c ?d ?_; (case t => exact News.isTup (by k_asm) (by k_mem)); (case a => decide); (case b => decide); (case c => rfl); (case d => rfl); k_whole)) | with_reducible (k_here; (with_reducible show wpAny _ _ (PySem.pyIter (Value.ref _)) _ _ _); refine Stop.of ?_) | walk1 | ((with_reducible show wpAny _ _ _ _ _ _); dsimp only; walk1) | fail "no step"))
            refine Stop.to ?_
            k_dflt (refine' Sp.use (c_rmulT hc' hn9 ⟨hk1, hk2⟩ hcu3 hg3 n33 hT3) ?zk1 ?zk2 ?zk3 ?zk4 ?zk5 ?zk6 ?zk7 ?zk8 trivial ?_)
            ((case zk1 => k_asm); (case zk2 => k_asm); (case zk3 => k_asm); (case zk4 => k_asm); (case zk5 => k_asm); (case zk6 => rfl); (case zk7 => ktr_room); (case zk8 => ktr_units))
            clear m0 m1 hz
            unfold RMulU
            intro rb l'' led'' led4 h15 tk15 hres' hg'' hs'' n3'' n34 F15 N26
            have hmd'' := hs'' _ hmd3
            dsimp only [PySem.W.CmpBack]
            (repeat' (first | (k_unfold; (try dsimp only)) | ((with_reducible show wpAny _ _ (execs (List.cons _ _) _) _ _ (Shared.mk _ _ _ (HAdd.hAdd _ _) _)); (rename Fr _ _ _ _ => Fq); refine stm8 Fq ?_; clear Fq; intro tkq mq Fq; (try k_fold)) | with_reducible (k_here; (with_reducible show wpAny _ _ (compareOp .NotEq _ _) _ _ _); k_dflt (refine' ne_ov ?q1 ?_; (case q1 => assumption))) | with_reducible (k_here; (with_reducible show wpAny _ _ (compareOp .NotEq (Value.ref _) (Value.ref _)) _ _ _); k_dflt (refine' ne_t2s ?q1 ?q2 ?q3 ?q4 ?_; (case q1 => k_asm); (case q2 => k_mem); (case q3 => k_mem); (case q4 => ktr_units))) | with_reducible (k_here; (with_reducible show wpAny _ _ (compareOp .NotEq (Value.ref _) (Value.ref _)) _ _ _); k_dflt (refine' ne_t2 ?q1 ?q2 ?q3 ?q4 ?_; (case q1 => k_asm); (case q2 => k_mem); (case q3 => k_mem); (case q4 => ktr_units))) | with_reducible (k_here; (with_reducible show wpAny _ _ (binaryOp .Mult (Value.int _ _) (Value.ref _)) _ _ _); k_dflt (refine' bin_refl ?F ?X ?I ?hC ?hS ?hR ?hF ?hU ?_; (case F => k_asm); (case X => k_asm); (case I => k_inst); (case hC => k_is); (case hS => k_is); (case hR => k_is); (case hF => k_is); (case hU => k_is); k_whole)) | with_reducible (k_here; (with_reducible show wpAny _ _ (PySem.call (Value.ref 263) _) _ _ _); k_dflt (refine' Sp.use (c_pe_order ?q1 ?m0 ?m1) ?k1 ?k2 ?k3 ?k4 ?k5 ?k6 ?k7 ?k8 ?k9 ?_; walk_at "use"; (case m0 => k_dflt k_mem); (case m1 => k_dflt k_mem); (case q1 => exact ⟨rfl, rfl, OvOk.handed (by assumption), rfl, rfl⟩)); unfold RV; intro h9ᵣ tk9ᵣ F9ᵣ N9ᵣ; (try dsimp only); (try k_sweep); (try k_fold)) | with_reducible (k_here; (with_reducible show wpAny _ _ (subscriptTail _ _ (Value.ref _) (Value.int _ _)) _ _ _); k_dflt (refine' item_list ?q1 ?q2 ?q3 ?q4 ?_ ?q5 ?q6; (case q1 => exact News.isList (by k_asm) (by k_mem)); (case q4 => assumption); (case q2 => omega); (case q3 => omega); (case q5 => with_unfolding_all rfl); (case q6 => intro _; with_unfolding_all rfl))) | with_reducible (k_here; (with_reducible show wpAny _ _ (subscriptTail _ _ (Value.ref _) (Value.int _ _)) _ _ _); refine Stop.of ?_) | with_reducible (k_here; (with_reducible show wpAny _ _ (PySem.call (Value.ref _) _) _ _ _); (fail_if_success (with_reducible show wpAny _ _ (PySem.call (Value.ref 361) _) _ _ _)); refine Stop.of ?_) | with_reducible (k_here; (with_reducible show wpAny _ _ (PySem.call (Value.ref 361) _) _ _ _); k_dflt (refine' Sp.use (c_takeU ?q1 ?q2 ?q3 ?q4 ?q5 ?q6) ?k1 ?k2 ?k3 ?k4 ?k5 ?k6 ?k7 ?k8 ?k9 ?_; walk_at "use"; (case q5 => k_updF); (case q6 => (intro o9ᵣ; k_updF)); (case q1 => with_reducible assumption); (case q2 => omega); (case q3 => first | omega | decide); (case q4 => assumption)); unfold RTakeU; intro r9ᵣ tr9ᵣ at9ᵣ ta9ᵣ vs9ᵣ ns9ᵣ zs9ᵣ zc9ᵣ h9ᵣ tk9ᵣ hr91ᵣ hr92ᵣ hst9ᵣ F9ᵣ N9ᵣ; (try dsimp only at N9ᵣ ⊢); (try k_sweep); (try k_fold)) | with_reducible (k_here; (with_reducible show wpAny _ _ (PySem.call (Value.ref 21) _) _ _ _); k_dflt (refine' Sp.use (c_inv ?q1 ?q2 ?q3 ?q4) ?k1 ?k2 ?k3 ?k4 ?k5 ?k6 ?k7 ?k8 ?k9 ?_; walk_at "use"; (case q1 => assumption); (case q2 => assumption); (case q3 => omega); (case q4 => omega)); unfold RInv; intro i9ᵣ t9ᵣ h9ᵣ tk9ᵣ hi1ᵣ hi2ᵣ hi3ᵣ F9ᵣ N9ᵣ; (try dsimp only); (try k_sweep); (try k_fold)) | with_reducible (k_here; (with_reducible show wpAny _ _ (PySem.call (Value.ref 71) _) _ _ _); k_dflt (refine' Sp.use (c_ed_a ?q1 ?q2 ?q3) ?k1 ?k2 ?k3 ?k4 ?k5 ?k6 ?k7 ?k8 ?k9 ?_; walk_at "use"; (case q2 => k_dflt k_mem); (case q3 => k_dflt k_mem); (case q1 => k_dflt (exact ⟨rfl, rfl, rfl⟩))); unfold RV; intro h9ᵣ tk9ᵣ F9ᵣ N9ᵣ; (try dsimp only); (try k_sweep); (try k_fold)) | with_reducible (k_here; (with_reducible show wpAny _ _ (PySem.call (Value.ref 64) _) _ _ _); k_dflt (refine' Sp.use (c_ed_p ?q1 ?q2 ?q3) ?k1 ?k2 ?k3 ?k4 ?k5 ?k6 ?k7 ?k8 ?k9 ?_; walk_at "use"; (case q2 => k_dflt k_mem); (case q3 => k_dflt k_mem); (case q1 => k_dflt (exact ⟨rfl, rfl, rfl⟩))); unfold RV; intro h9ᵣ tk9ᵣ F9ᵣ N9ᵣ; (try dsimp only); (try k_sweep); (try k_fold)) | with_reducible (k_here; (with_reducible show wpAny _ _ (call (Value.builtin "len") [Value.ref _]) _ _ _); k_dflt (refine' kst_len ?q1 ?q2 ?q3 ?q4 ?_; (case q1 => k_asm); (case q2 => k_mem); (case q3 => assumption); (case q4 => omega))) | with_reducible (k_here; (with_reducible show wpAny _ _ (exec (Stmt.For _ _ _ _ _) _) _ _ _); (rename Fr _ _ _ _ => lF'); (with_unfolding_all refine' For_invVF lF' ?k1 ?k2 ?_; (case k1 => exact rfl); (case k2 => exact rfl); k_whole)) | with_reducible (k_here; (with_reducible show wpAny _ _ (subscriptTail _ _ (Value.ref _) (Value.int _ _)) _ _ _); k_dflt (refine' item_tupleT ?t ?a ?b ?c ?d ?_; (case t => exact News.isTup (by k_asm) (by k_mem)); (case a => decide); (case b => decide); (case c => rfl); (case d => rfl); k_whole)) | with_reducible (k_here; (with_reducible show wpAny _ _ (PySem.pyIter (Value.ref _)) _ _ _); refine Stop.of ?_) | walk1 | ((with_reducible show wpAny _ _ _ _ _ _); dsimp only; walk1) | fail "no step"))
            refine Stop.to ?_
            k_dflt (refine' Sp.use (c_lscaledU (k3 := c.k3) (e3 := c.e3) hc' hres' (hT3.mono hs'') (hcu3.mono hs'') hmd'' n3'' n34) ?zk1 ?zk2 ?zk3 ?zk4 ?zk5 ?zk6 ?zk7 ?zk8 trivial ?_)
            ((case zk1 => k_asm); (case zk2 => k_asm); (case zk3 => k_asm); (case zk4 => k_asm); (case zk5 => k_asm); (case zk6 => rfl); (case zk7 => ktr_room); (case zk8 => ktr_units))
            intro led5 h16 tk16 hs5 n35 _ F16 N27
            have hord5 := (hord.mono hs'').mono hs5
            have hmd5 := hs5 _ hmd''
            refine ((hT3.mono hs'').mono hs5).get (e3 := c.e3) (l := l'') ?_
            intro dx kx gx lx x1 x2 x3 x4 x5 m0 m1 hz _
            clear hres' n3'' n34 hmd'' hcu3 hT3 hz hord
            try dsimp only
            rcases Classical.em (kv % (t.n : Int) = 0) with hk0 | hk0
            · rw [(Ed.zM_zero hc').mpr hk0] at hmd5
              (repeat' (first | (k_unfold; (try dsimp only)) | ((with_reducible show wpAny _ _ (execs (List.cons _ _) _) _ _ (Shared.mk _ _ _ (HAdd.hAdd _ _) _)); (rename Fr _ _ _ _ => Fq); refine stm8 Fq ?_; clear Fq; intro tkq mq Fq; (try k_fold)) | with_reducible (k_here; (with_reducible show wpAny _ _ (compareOp .NotEq _ _) _ _ _); k_dflt (refine' ne_ov ?q1 ?_; (case q1 => assumption))) | with_reducible (k_here; (with_reducible show wpAny _ _ (compareOp .NotEq (Value.ref _) (Value.ref _)) _ _ _); k_dflt (refine' ne_t2s ?q1 ?q2 ?q3 ?q4 ?_; (case q1 => k_asm); (case q2 => k_mem); (case q3 => k_mem); (case q4 => ktr_units))) | with_reducible (k_here; (with_reducible show wpAny _ _ (compareOp .NotEq (Value.ref _) (Value.ref _)) _ _ _); k_dflt (refine' ne_t2 ?q1 ?q2 ?q3 ?q4 ?_; (case q1 => k_asm); (case q2 => k_mem); (case q3 => k_mem); (case q4 => ktr_units))) | with_reducible (k_here; (with_reducible show wpAny _ _ (binaryOp .Mult (Value.int _ _) (Value.ref _)) _ _ _); k_dflt (refine' bin_refl ?F ?X ?I ?hC ?hS ?hR ?hF ?hU ?_; (case F => k_asm); (case X => k_asm); (case I => k_inst); (case hC => k_is); (case hS => k_is); (case hR => k_is); (case hF => k_is); (case hU => k_is); k_whole)) | with_reducible (k_here; (with_reducible show wpAny _ _ (PySem.call (Value.ref 263) _) _ _ _); k_dflt (refine' Sp.use (c_pe_order ?q1 ?m0 ?m1) ?k1 ?k2 ?k3 ?k4 ?k5 ?k6 ?k7 ?k8 ?k9 ?_; walk_at "use"; (case m0 => k_dflt k_mem); (case m1 => k_dflt k_mem); (case q1 => exact ⟨rfl, rfl, OvOk.handed (by assumption), rfl, rfl⟩)); unfold RV; intro h9ᵣ tk9ᵣ F9ᵣ N9ᵣ; (try dsimp only); (try k_sweep); (try k_fold)) | with_reducible (k_here; (with_reducible show wpAny _ _ (subscriptTail _ _ (Value.ref _) (Value.int _ _)) _ _ _); k_dflt (refine' item_list ?q1 ?q2 ?q3 ?q4 ?_ ?q5 ?q6; (case q1 => exact News.isList (by k_asm) (by k_mem)); (case q4 => assumption); (case q2 => omega); (case q3 => omega); (case q5 => with_unfolding_all rfl); (case q6 => intro _; with_unfolding_all rfl))) | with_reducible (k_here; (with_reducible show wpAny _ _ (subscriptTail _ _ (Value.ref _) (Value.int _ _)) _ _ _); refine Stop.of ?_) | with_reducible (k_here; (with_reducible show wpAny _ _ (PySem.call (Value.ref _) _) _ _ _); (fail_if_success (with_reducible show wpAny _ _ (PySem.call (Value.ref 361) _) _ _ _)); refine Stop.of ?_) | with_reducible (k_here; (with_reducible show wpAny _ _ (PySem.call (Value.ref 361) _) _ _ _); k_dflt (refine' Sp.use (c_takeU ?q1 ?q2 ?q3 ?q4 ?q5 ?q6) ?k1 ?k2 ?k3 ?k4 ?k5 ?k6 ?k7 ?k8 ?k9 ?_; walk_at "use"; (case q5 => k_updF); (case q6 => (intro o9ᵣ; k_updF)); (case q1 => with_reducible assumption); (case q2 => omega); (case q3 => first | omega | decide); (case q4 => assumption)); unfold RTakeU; intro r9ᵣ tr9ᵣ at9ᵣ ta9ᵣ vs9ᵣ ns9ᵣ zs9ᵣ zc9ᵣ h9ᵣ tk9ᵣ hr91ᵣ hr92ᵣ hst9ᵣ F9ᵣ N9ᵣ; (try dsimp only at N9ᵣ ⊢); (try k_sweep); (try k_fold)) | with_reducible (k_here; (with_reducible show wpAny _ _ (PySem.call (Value.ref 21) _) _ _ _); k_dflt (refine' Sp.use (c_inv ?q1 ?q2 ?q3 ?q4) ?k1 ?k2 ?k3 ?k4 ?k5 ?k6 ?k7 ?k8 ?k9 ?_; walk_at "use"; (case q1 => assumption); (case q2 => assumption); (case q3 => omega); (case q4 => omega)); unfold RInv; intro i9ᵣ t9ᵣ h9ᵣ tk9ᵣ hi1ᵣ hi2ᵣ hi3ᵣ F9ᵣ N9ᵣ; (try dsimp only); (try k_sweep); (try k_fold)) | with_reducible (k_here; (with_reducible show wpAny _ _ (PySem.call (Value.ref 71) _) _ _ _); k_dflt (refine' Sp.use (c_ed_a ?q1 ?q2 ?q3) ?k1 ?k2 ?k3 ?k4 ?k5 ?k6 ?k7 ?k8 ?k9 ?_; walk_at "use"; (case q2 => k_dflt k_mem); (case q3 => k_dflt k_mem); (case q1 => k_dflt (exact ⟨rfl, rfl, rfl⟩))); unfold RV; intro h9ᵣ tk9ᵣ F9ᵣ N9ᵣ; (try dsimp only); (try k_sweep); (try k_fold)) | with_reducible (k_here; (with_reducible show wpAny _ _ (PySem.call (Value.ref 64) _) _ _ _); k_dflt (refine' Sp.use (c_ed_p ?q1 ?q2 ?q3) ?k1 ?k2 ?k3 ?k4 ?k5 ?k6 ?k7 ?k8 ?k9 ?_; walk_at "use"; (case q2 => k_dflt k_mem); (case q3 => k_dflt k_mem); (case q1 => k_dflt (exact ⟨rfl, rfl, rfl⟩))); unfold RV; intro h9ᵣ tk9ᵣ F9ᵣ N9ᵣ; (try dsimp only); (try k_sweep); (try k_fold)) | with_reducible (k_here; (with_reducible show wpAny _ _ (call (Value.builtin "len") [Value.ref _]) _ _ _); k_dflt (refine' kst_len ?q1 ?q2 ?q3 ?q4 ?_; (case q1 => k_asm); (case q2 => k_mem); (case q3 => assumption); (case q4 => omega))) | with_reducible (k_here; (with_reducible show wpAny _ _ (exec (Stmt.For _ _ _ _ _) _) _ _ _); (rename Fr _ _ _ _ => lF'); (with_unfolding_all refine' For_invVF lF' ?k1 ?k2 ?_; (case k1 => exact rfl); (case k2 => exact rfl); k_whole)) | with_reducible (k_here; (with_reducible show wpAny _ _ (subscriptTail _ _ (Value.ref _) (Value.int _ _)) _ _ _); k_dflt (refine' item_tupleT ?t ?a ?b ?c ?d ?_; (case t => exact News.isTup (by k_asm) (by k_mem)); (case a => decide); (case b => decide); (case c => rfl); (case d => rfl); k_whole)) | with_reducible (k_here; (with_reducible show wpAny _ _ (PySem.pyIter (Value.ref _)) _ _ _); refine Stop.of ?_) | walk1 | ((with_reducible show wpAny _ _ _ _ _ _); dsimp only; walk1) | fail "no step"))
              all_goals refine inner_end (e3 := c.e3) (k3 := c.k3) (by k_asm) (by k_asm) (.tail _ (.head _)) (fun p hp => .tail _ (.tail _ hp)) (hg''.mono hs5) (fun p hp => hs5 p (hs'' p (s33 p hp))) n35 (hs5 _ (hs'' _ mI3)) hit2 h3I hBI (by walk_at "same")
            refine hord5.get (k3 := c.k3) (e3 := c.e3) (l := l'') hk0 ?_
            intro dra r1 r2 r3 r4 r5 rcx rk rg rlx mr0 mr1
            (repeat' (first | (k_unfold; (try dsimp only)) | ((with_reducible show wpAny _ _ (execs (List.cons _ _) _) _ _ (Shared.mk _ _ _ (HAdd.hAdd _ _) _)); (rename Fr _ _ _ _ => Fq); refine stm8 Fq ?_; clear Fq; intro tkq mq Fq; (try k_fold)) | with_reducible (k_here; (with_reducible show wpAny _ _ (compareOp .NotEq _ _) _ _ _); k_dflt (refine' ne_ov ?q1 ?_; (case q1 => assumption))) | with_reducible (k_here; (with_reducible show wpAny _ _ (compareOp .NotEq (Value.ref _) (Value.ref _)) _ _ _); k_dflt (refine' ne_t2s ?q1 ?q2 ?q3 ?q4 ?_; (case q1 => k_asm); (case q2 => k_mem); (case q3 => k_mem); (case q4 => ktr_units))) | with_reducible (k_here; (with_reducible show wpAny _ _ (compareOp .NotEq (Value.ref _) (Value.ref _)) _ _ _); k_dflt (refine' ne_t2 ?q1 ?q2 ?q3 ?q4 ?_; (case q1 => k_asm); (case q2 => k_mem); (case q3 => k_mem); (case q4 => ktr_units))) | with_reducible (k_here; (with_reducible show wpAny _ _ (binaryOp .Mult (Value.int _ _) (Value.ref _)) _ _ _); k_dflt (refine' bin_refl ?F ?X ?I ?hC ?hS ?hR ?hF ?hU ?_; (case F => k_asm); (case X => k_asm); (case I => k_inst); (case hC => k_is); (case hS => k_is); (case hR => k_is); (case hF => k_is); (case hU => k_is); k_whole)) | with_reducible (k_here; (with_reducible show wpAny _ _ (PySem.call (Value.ref 263) _) _ _ _); k_dflt (refine' Sp.use (c_pe_order ?q1 ?m0 ?m1) ?k1 ?k2 ?k3 ?k4 ?k5 ?k6 ?k7 ?k8 ?k9 ?_; walk_at "use"; (case m0 => k_dflt k_mem); (case m1 => k_dflt k_mem); (case q1 => exact ⟨rfl, rfl, OvOk.handed (by assumption), rfl, rfl⟩)); unfold RV; intro h9ᵣ tk9ᵣ F9ᵣ N9ᵣ; (try dsimp only); (try k_sweep); (try k_fold)) | with_reducible (k_here; (with_reducible show wpAny _ _ (subscriptTail _ _ (Value.ref _) (Value.int _ _)) _ _ _); k_dflt (refine' item_list ?q1 ?q2 ?q3 ?q4 ?_ ?q5 ?q6; (case q1 => exact News.isList (by k_asm) (by k_mem)); (case q4 => assumption); (case q2 => omega); (case q3 => omega); (case q5 => with_unfolding_all rfl); (case q6 => intro _; with_unfolding_all rfl))) | with_reducible (k_here; (with_reducible show wpAny _ _ (subscriptTail _ _ (Value.ref _) (Value.int _ _)) _ _ _); refine Stop.of ?_) | with_reducible (k_here; (with_reducible show wpAny _ _ (PySem.call (Value.ref _) _) _ _ _); (fail_if_success (with_reducible show wpAny _ _ (PySem.call (Value.ref 361) _) _ _ _)); refine Stop.of ?_) | with_reducible (k_here; (with_reducible show wpAny _ _ (PySem.call (Value.ref 361) _) _ _ _); k_dflt (refine' Sp.use (c_takeU ?q1 ?q2 ?q3 ?q4 ?q5 ?q6) ?k1 ?k2 ?k3 ?k4 ?k5 ?k6 ?k7 ?k8 ?k9 ?_; walk_at "use"; (case q5 => k_updF); (case q6 => (intro o9ᵣ; k_updF)); (case q1 => with_reducible assumption); (case q2 => omega); (case q3 => first | omega | decide); (case q4 => assumption)); unfold RTakeU; intro r9ᵣ tr9ᵣ at9ᵣ ta9ᵣ vs9ᵣ ns9ᵣ zs9ᵣ zc9ᵣ h9ᵣ tk9ᵣ hr91ᵣ hr92ᵣ hst9ᵣ F9ᵣ N9ᵣ; (try dsimp only at N9ᵣ ⊢); (try k_sweep); (try k_fold)) | with_reducible (k_here; (with_reducible show wpAny _ _ (PySem.call (Value.ref 21) _) _ _ _); k_dflt (refine' Sp.use (c_inv ?q1 ?q2 ?q3 ?q4) ?k1 ?k2 ?k3 ?k4 ?k5 ?k6 ?k7 ?k8 ?k9 ?_; walk_at "use"; (case q1 => assumption); (case q2 => assumption); (case q3 => omega); (case q4 => omega)); unfold RInv; intro i9ᵣ t9ᵣ h9ᵣ tk9ᵣ hi1ᵣ hi2ᵣ hi3ᵣ F9ᵣ N9ᵣ; (try dsimp only); (try k_sweep); (try k_fold)) | with_reducible (k_here; (with_reducible show wpAny _ _ (PySem.call (Value.ref 71) _) _ _ _); k_dflt (refine' Sp.use (c_ed_a ?q1 ?q2 ?q3) ?k1 ?k2 ?k3 ?k4 ?k5 ?k6 ?k7 ?k8 ?k9 ?_; walk_at "use"; (case q2 => k_dflt k_mem); (case q3 => k_dflt k_mem); (case q1 => k_dflt (exact ⟨rfl, rfl, rfl⟩))); unfold RV; intro h9ᵣ tk9ᵣ F9ᵣ N9ᵣ; (try dsimp only); (try k_sweep); (try k_fold)) | with_reducible (k_here; (with_reducible show wpAny _ _ (PySem.call (Value.ref 64) _) _ _ _); k_dflt (refine' Sp.use (c_ed_p ?q1 ?q2 ?q3) ?k1 ?k2 ?k3 ?k4 ?k5 ?k6 ?k7 ?k8 ?k9 ?_; walk_at "use"; (case q2 => k_dflt k_mem); (case q3 => k_dflt k_mem); (case q1 => k_dflt (exact ⟨rfl, rfl, rfl⟩))); unfold RV; intro h9ᵣ tk9ᵣ F9ᵣ N9ᵣ; (try dsimp only); (try k_sweep); (try k_fold)) | with_reducible (k_here; (with_reducible show wpAny _ _ (call (Value.builtin "len") [Value.ref _]) _ _ _); k_dflt (refine' kst_len ?q1 ?q2 ?q3 ?q4 ?_; (case q1 => k_asm); (case q2 => k_mem); (case q3 => assumption); (case q4 => omega))) | with_reducible (k_here; (with_reducible show wpAny _ _ (exec (Stmt.For _ _ _ _ _) _) _ _ _); (rename Fr _ _ _ _ => lF'); (with_unfolding_all refine' For_invVF lF' ?k1 ?k2 ?_; (case k1 => exact rfl); (case k2 => exact rfl); k_whole)) | with_reducible (k_here; (with_reducible show wpAny _ _ (subscriptTail _ _ (Value.ref _) (Value.int _ _)) _ _ _); k_dflt (refine' item_tupleT ?t ?a ?b ?c ?d ?_; (case t => exact News.isTup (by k_asm) (by k_mem)); (case a => decide); (case b => decide); (case c => rfl); (case d => rfl); k_whole)) | with_reducible (k_here; (with_reducible show wpAny _ _ (PySem.pyIter (Value.ref _)) _ _ _); refine Stop.of ?_) | walk1 | ((with_reducible show wpAny _ _ _ _ _ _); dsimp only; walk1) | fail "no step"))
            all_goals refine inner_end (e3 := c.e3) (k3 := c.k3) (by k_asm) (by k_asm) (.tail _ (.head _)) (fun p hp => .tail _ (.tail _ hp)) (hg''.mono hs5) (fun p hp => hs5 p (hs'' p (s33 p hp))) n35 (hs5 _ (hs'' _ mI3)) hit2 h3I hBI (by walk_at "same"))
          (case xd =>
            intro ci u h12 tk12 hI2 F12 N22
            dsimp only [envOf] at F12 N22
            have mS2 : (S, stO at7 ta7 C zs7) ∈ B2 := by rw [hB2e]; exact .head _
            have mC2 : (C, W.listOf vs7.toArray zc7) ∈ B2 := by rw [hB2e]; exact .tail _ (.head _)
            have mI2 : (I, it) ∈ B2 := by rw [hB2e]; exact .tail _ (.tail _ (.head _))
            (repeat' (first | (k_unfold; (try dsimp only)) | ((with_reducible show wpAny _ _ (execs (List.cons _ _) _) _ _ (Shared.mk _ _ _ (HAdd.hAdd _ _) _)); (rename Fr _ _ _ _ => Fq); refine stm8 Fq ?_; clear Fq; intro tkq mq Fq; (try k_fold)) | with_reducible (k_here; (with_reducible show wpAny _ _ (compareOp .NotEq _ _) _ _ _); k_dflt (refine' ne_ov ?q1 ?_; (case q1 => assumption))) | with_reducible (k_here; (with_reducible show wpAny _ _ (compareOp .NotEq (Value.ref _) (Value.ref _)) _ _ _); k_dflt (refine' ne_t2s ?q1 ?q2 ?q3 ?q4 ?_; (case q1 => k_asm); (case q2 => k_mem); (case q3 => k_mem); (case q4 => ktr_units))) | with_reducible (k_here; (with_reducible show wpAny _ _ (compareOp .NotEq (Value.ref _) (Value.ref _)) _ _ _); k_dflt (refine' ne_t2 ?q1 ?q2 ?q3 ?q4 ?_; (case q1 => k_asm); (case q2 => k_mem); (case q3 => k_mem); (case q4 => ktr_units))) | with_reducible (k_here; (with_reducible show wpAny _ _ (binaryOp .Mult (Value.int _ _) (Value.ref _)) _ _ _); k_dflt (refine' bin_refl ?F ?X ?I ?hC ?hS ?hR ?hF ?hU ?_; (case F => k_asm); (case X => k_asm); (case I => k_inst); (case hC => k_is); (case hS => k_is); (case hR => k_is); (case hF => k_is); (case hU => k_is); k_whole)) | with_reducible (k_here; (with_reducible show wpAny _ _ (PySem.call (Value.ref 263) _) _ _ _); k_dflt (refine' Sp.use (c_pe_order ?q1 ?m0 ?m1) ?k1 ?k2 ?k3 ?k4 ?k5 ?k6 ?k7 ?k8 ?k9 ?_; walk_at "use"; (case m0 => k_dflt k_mem); (case m1 => k_dflt k_mem); (case q1 => exact ⟨rfl, rfl, OvOk.handed (by assumption), rfl, rfl⟩)); unfold RV; intro h9ᵣ tk9ᵣ F9ᵣ N9ᵣ; (try dsimp only); (try k_sweep); (try k_fold)) | with_reducible (k_here; (with_reducible show wpAny _ _ (subscriptTail _ _ (Value.ref _) (Value.int _ _)) _ _ _); k_dflt (refine' item_list ?q1 ?q2 ?q3 ?q4 ?_ ?q5 ?q6; (case q1 => exact News.isList (by k_asm) (by k_mem)); (case q4 => assumption); (case q2 => omega); (case q3 => omega); (case q5 => with_unfolding_all rfl); (case q6 => intro _; with_unfolding_all rfl))) | with_reducible (k_here; (with_reducible show wpAny _ _ (subscriptTail _ _ (Value.ref _) (Value.int _ _)) _ _ _); refine Stop.of ?_) | with_reducible (k_here; (with_reducible show wpAny _ _ (PySem.call (Value.ref _) _) _ _ _); (fail_if_success (with_reducible show wpAny _ _ (PySem.call (Value.ref 361) _) _ _ _)); refine Stop.of ?_) | with_reducible (k_here; (with_reducible show wpAny _ _ (PySem.call (Value.ref 361) _) _ _ _); k_dflt (refine' Sp.use (c_takeU ?q1 ?q2 ?q3 ?q4 ?q5 ?q6) ?k1 ?k2 ?k3 ?k4 ?k5 ?k6 ?k7 ?k8 ?k9 ?_; walk_at "use"; (case q5 => k_updF); (case q6 => (intro o9ᵣ; k_updF)); (case q1 => with_reducible assumption); (case q2 => omega); (case q3 => first | omega | decide); (case q4 => assumption)); unfold RTakeU; intro r9ᵣ tr9ᵣ at9ᵣ ta9ᵣ vs9ᵣ ns9ᵣ zs9ᵣ zc9ᵣ h9ᵣ tk9ᵣ hr91ᵣ hr92ᵣ hst9ᵣ F9ᵣ N9ᵣ; (try dsimp only at N9ᵣ ⊢); (try k_sweep); (try k_fold)) | with_reducible (k_here; (with_reducible show wpAny _ _ (PySem.call (Value.ref 21) _) _ _ _); k_dflt (refine' Sp.use (c_inv ?q1 ?q2 ?q3 ?q4) ?k1 ?k2 ?k3 ?k4 ?k5 ?k6 ?k7 ?k8 ?k9 ?_; walk_at "use"; (case q1 => assumption); (case q2 => assumption); (case q3 => omega); (case q4 => omega)); unfold RInv; intro i9ᵣ t9ᵣ h9ᵣ tk9ᵣ hi1ᵣ hi2ᵣ hi3ᵣ F9ᵣ N9ᵣ; (try dsimp only); (try k_sweep); (try k_fold)) | with_reducible (k_here; (with_reducible show wpAny _ _ (PySem.call (Value.ref 71) _) _ _ _); k_dflt (refine' Sp.use (c_ed_a ?q1 ?q2 ?q3) ?k1 ?k2 ?k3 ?k4 ?k5 ?k6 ?k7 ?k8 ?k9 ?_; walk_at "use"; (case q2 => k_dflt k_mem); (case q3 => k_dflt k_mem); (case q1 => k_dflt (exact ⟨rfl, rfl, rfl⟩))); unfold RV; intro h9ᵣ tk9ᵣ F9ᵣ N9ᵣ; (try dsimp only); (try k_sweep); (try k_fold)) | with_reducible (k_here; (with_reducible show wpAny _ _ (PySem.call (Value.ref 64) _) _ _ _); k_dflt (refine' Sp.use (c_ed_p ?q1 ?q2 ?q3) ?k1 ?k2 ?k3 ?k4 ?k5 ?k6 ?k7 ?k8 ?k9 ?_; walk_at "use"; (case q2 => k_dflt k_mem); (case q3 => k_dflt k_mem); (case q1 => k_dflt (exact ⟨rfl, rfl, rfl⟩))); unfold RV; intro h9ᵣ tk9ᵣ F9ᵣ N9ᵣ; (try dsimp only); (try k_sweep); (try k_fold)) | with_reducible (k_here; (with_reducible show wpAny _ _ (call (Value.builtin "len") [Value.ref _]) _ _ _); k_dflt (refine' kst_len ?q1 ?q2 ?q3 ?q4 ?_; (case q1 => k_asm); (case q2 => k_mem); (case q3 => assumption); (case q4 => omega))) | with_reducible (k_here; (with_reducible show wpAny _ _ (exec (Stmt.For _ _ _ _ _) _) _ _ _); (rename Fr _ _ _ _ => lF'); (with_unfolding_all refine' For_invVF lF' ?k1 ?k2 ?_; (case k1 => exact rfl); (case k2 => exact rfl); k_whole)) | with_reducible (k_here; (with_reducible show wpAny _ _ (subscriptTail _ _ (Value.ref _) (Value.int _ _)) _ _ _); k_dflt (refine' item_tupleT ?t ?a ?b ?c ?d ?_; (case t => exact News.isTup (by k_asm) (by k_mem)); (case a => decide); (case b => decide); (case c => rfl); (case d => rfl); k_whole)) | with_reducible (k_here; (with_reducible show wpAny _ _ (PySem.pyIter (Value.ref _)) _ _ _); refine Stop.of ?_) | walk1 | ((with_reducible show wpAny _ _ _ _ _ _); dsimp only; walk1) | fail "no step"))
            (rename News _ _ _ _ => N23)
            refine frontO [(S, stO at7 ta7 C zs7), (C, W.listOf vs7.toArray zc7), (I, it), (t.d3, t.D3 w c.k3 c.e3 ci.l)] N23 (List.forall_mem_cons.mpr ⟨.tail _ (hI2.sub _ mS2), List.forall_mem_cons.mpr ⟨.tail _ (hI2.sub _ mC2), List.forall_mem_cons.mpr ⟨.tail _ (hI2.sub _ mI2), List.forall_mem_cons.mpr ⟨.head _, List.forall_mem_nil _⟩⟩⟩⟩) ?_
            intro led8 N24 hne8 _ hA8 hO8
            refine lp_end ⟨at7, ta7, zs7, vs7, ns7, zc7, ci.l, led8⟩ (by k_asm) N24 ?_ (.tail _ (.tail _ (.head _))) ?_ (List.forall_mem_nil _) (by walk_at "same") ⟨StI.mono hst7 (by omega), ?_, ?_, hne8 _ (.head _), hne8 _ (.tail _ (.head _)), hne8 _ (.tail _ (.tail _ (.tail _ (.head _))))⟩
            · exact List.forall_mem_cons.mpr ⟨.head _, List.forall_mem_cons.mpr ⟨.tail _ (.head _), List.forall_mem_cons.mpr ⟨.tail _ (.tail _ (.tail _ (.head _))), fun p hp => .tail _ (.tail _ (.tail _ (.tail _ hp)))⟩⟩⟩
            · exact List.forall_mem_cons.mpr ⟨q1, List.forall_mem_cons.mpr ⟨q2, List.forall_mem_cons.mpr ⟨q3, hne8 _ (.tail _ (.tail _ (.head _)))⟩⟩⟩
            · exact hI2.tab.monoA fun p hp ha => hO8 p (.tail _ hp) (List.forall_mem_cons.mpr ⟨fun e => ha (e ▸ alien_st), List.forall_mem_cons.mpr ⟨fun e => ha (e ▸ alien_cells hst7), List.forall_mem_cons.mpr ⟨fun e => ha (e ▸ .inr (.inl hit)), List.forall_mem_cons.mpr ⟨fun e => ha (e ▸ .inr (.inr (.inl rfl))), List.forall_mem_nil _⟩⟩⟩⟩)
            · exact fun p hp => hA8 p (.tail _ (hI2.sub p (s27 p (hI.sub p hp)))) (List.forall_mem_cons.mpr ⟨hI.nS p (hI.sub p hp), List.forall_mem_cons.mpr ⟨hI.nC p (hI.sub p hp), List.forall_mem_cons.mpr ⟨q4 p (hI.sub p hp), List.forall_mem_cons.mpr ⟨hI.n3 p (hI.sub p hp), List.forall_mem_nil _⟩⟩⟩⟩)))
        (case yd =>
          intro co u h10 tk10 hI F10 N17
          dsimp only [envOf] at F10 N17
          have h161 := hI.sub _ hB.tab
          (repeat' (first | (k_unfold; (try dsimp only)) | ((with_reducible show wpAny _ _ (execs (List.cons _ _) _) _ _ (Shared.mk _ _ _ (HAdd.hAdd _ _) _)); (rename Fr _ _ _ _ => Fq); refine stm8 Fq ?_; clear Fq; intro tkq mq Fq; (try k_fold)) | with_reducible (k_here; (with_reducible show wpAny _ _ (compareOp .NotEq _ _) _ _ _); k_dflt (refine' ne_ov ?q1 ?_; (case q1 => assumption))) | with_reducible (k_here; (with_reducible show wpAny _ _ (compareOp .NotEq (Value.ref _) (Value.ref _)) _ _ _); k_dflt (refine' ne_t2s ?q1 ?q2 ?q3 ?q4 ?_; (case q1 => k_asm); (case q2 => k_mem); (case q3 => k_mem); (case q4 => ktr_units))) | with_reducible (k_here; (with_reducible show wpAny _ _ (compareOp .NotEq (Value.ref _) (Value.ref _)) _ _ _); k_dflt (refine' ne_t2 ?q1 ?q2 ?q3 ?q4 ?_; (case q1 => k_asm); (case q2 => k_mem); (case q3 => k_mem); (case q4 => ktr_units))) | with_reducible (k_here; (with_reducible show wpAny _ _ (binaryOp .Mult (Value.int _ _) (Value.ref _)) _ _ _); k_dflt (refine' bin_refl ?F ?X ?I ?hC ?hS ?hR ?hF ?hU ?_; (case F => k_asm); (case X => k_asm); (case I => k_inst); (case hC => k_is); (case hS => k_is); (case hR => k_is); (case hF => k_is); (case hU => k_is); k_whole)) | with_reducible (k_here; (with_reducible show wpAny _ _ (PySem.call (Value.ref 263) _) _ _ _); k_dflt (refine' Sp.use (c_pe_order ?q1 ?m0 ?m1) ?k1 ?k2 ?k3 ?k4 ?k5 ?k6 ?k7 ?k8 ?k9 ?_; walk_at "use"; (case m0 => k_dflt k_mem); (case m1 => k_dflt k_mem); (case q1 => exact ⟨rfl, rfl, OvOk.handed (by assumption), rfl, rfl⟩)); unfold RV; intro h9ᵣ tk9ᵣ F9ᵣ N9ᵣ; (try dsimp only); (try k_sweep); (try k_fold)) | with_reducible (k_here; (with_reducible show wpAny _ _ (subscriptTail _ _ (Value.ref _) (Value.int _ _)) _ _ _); k_dflt (refine' item_list ?q1 ?q2 ?q3 ?q4 ?_ ?q5 ?q6; (case q1 => exact News.isList (by k_asm) (by k_mem)); (case q4 => assumption); (case q2 => omega); (case q3 => omega); (case q5 => with_unfolding_all rfl); (case q6 => intro _; with_unfolding_all rfl))) | with_reducible (k_here; (with_reducible show wpAny _ _ (subscriptTail _ _ (Value.ref _) (Value.int _ _)) _ _ _); refine Stop.of ?_) | with_reducible (k_here; (with_reducible show wpAny _ _ (PySem.call (Value.ref _) _) _ _ _); (fail_if_success (with_reducible show wpAny _ _ (PySem.call (Value.ref 361) _) _ _ _)); refine Stop.of ?_) | with_reducible (k_here; (with_reducible show wpAny _ _ (PySem.call (Value.ref 361) _) _ _ _); k_dflt (refine' Sp.use (c_takeU ?q1 ?q2 ?q3 ?q4 ?q5 ?q6) ?k1 ?k2 ?k3 ?k4 ?k5 ?k6 ?k7 ?k8 ?k9 ?_; walk_at "use"; (case q5 => k_updF); (case q6 => (intro o9ᵣ; k_updF)); (case q1 => with_reducible assumption); (case q2 => omega); (case q3 => first | omega | decide); (case q4 => assumption)); unfold RTakeU; intro r9ᵣ tr9ᵣ at9ᵣ ta9ᵣ vs9ᵣ ns9ᵣ zs9ᵣ zc9ᵣ h9ᵣ tk9ᵣ hr91ᵣ hr92ᵣ hst9ᵣ F9ᵣ N9ᵣ; (try dsimp only at N9ᵣ ⊢); (try k_sweep); (try k_fold)) | with_reducible (k_here; (with_reducible show wpAny _ _ (PySem.call (Value.ref 21) _) _ _ _); k_dflt (refine' Sp.use (c_inv ?q1 ?q2 ?q3 ?q4) ?k1 ?k2 ?k3 ?k4 ?k5 ?k6 ?k7 ?k8 ?k9 ?_; walk_at "use"; (case q1 => assumption); (case q2 => assumption); (case q3 => omega); (case q4 => omega)); unfold RInv; intro i9ᵣ t9ᵣ h9ᵣ tk9ᵣ hi1ᵣ hi2ᵣ hi3ᵣ F9ᵣ N9ᵣ; (try dsimp only); (try k_sweep); (try k_fold)) | with_reducible (k_here; (with_reducible show wpAny _ _ (PySem.call (Value.ref 71) _) _ _ _); k_dflt (refine' Sp.use (c_ed_a ?q1 ?q2 ?q3) ?k1 ?k2 ?k3 ?k4 ?k5 ?k6 ?k7 ?k8 ?k9 ?_; walk_at "use"; (case q2 => k_dflt k_mem); (case q3 => k_dflt k_mem); (case q1 => k_dflt (exact ⟨rfl, rfl, rfl⟩))); unfold RV; intro h9ᵣ tk9ᵣ F9ᵣ N9ᵣ; (try dsimp only); (try k_sweep); (try k_fold)) | with_reducible (k_here; (with_reducible show wpAny _ _ (PySem.call (Value.ref 64) _) _ _ _); k_dflt (refine' Sp.use (c_ed_p ?q1 ?q2 ?q3) ?k1 ?k2 ?k3 ?k4 ?k5 ?k6 ?k7 ?k8 ?k9 ?_; walk_at "use"; (case q2 => k_dflt k_mem); (case q3 => k_dflt k_mem); (case q1 => k_dflt (exact ⟨rfl, rfl, rfl⟩))); unfold RV; intro h9ᵣ tk9ᵣ F9ᵣ N9ᵣ; (try dsimp only); (try k_sweep); (try k_fold)) | with_reducible (k_here; (with_reducible show wpAny _ _ (call (Value.builtin "len") [Value.ref _]) _ _ _); k_dflt (refine' kst_len ?q1 ?q2 ?q3 ?q4 ?_; (case q1 => k_asm); (case q2 => k_mem); (case q3 => assumption); (case q4 => omega))) | with_reducible (k_here; (with_reducible show wpAny _ _ (exec (Stmt.For _ _ _ _ _) _) _ _ _); (rename Fr _ _ _ _ => lF'); (with_unfolding_all refine' For_invVF lF' ?k1 ?k2 ?_; (case k1 => exact rfl); (case k2 => exact rfl); k_whole)) | with_reducible (k_here; (with_reducible show wpAny _ _ (subscriptTail _ _ (Value.ref _) (Value.int _ _)) _ _ _); k_dflt (refine' item_tupleT ?t ?a ?b ?c ?d ?_; (case t => exact News.isTup (by k_asm) (by k_mem)); (case a => decide); (case b => decide); (case c => rfl); (case d => rfl); k_whole)) | with_reducible (k_here; (with_reducible show wpAny _ _ (PySem.pyIter (Value.ref _)) _ _ _); refine Stop.of ?_) | walk1 | ((with_reducible show wpAny _ _ _ _ _ _); dsimp only; walk1) | fail "no step"))
          exact (show GoodW _ _ _ _ _ (.ok (.ret (.bool _))) _ from goodW_bool (by assumption) (by assumption) (law_none ns) (law_post ns)))))
end
end Mine
theorem PySem.Challenge.cw_xq0002_05_holds : PySem.Challenge.rw_xq0002_05.Holds := by
  exact Mine.holds
