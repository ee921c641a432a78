import PyProof.Rows.All
import Wide.All
import OpenK.AllK
import Wide.FinOn
import KE.KAnyBase
import KE.KxText
import KE.KTurns
import PySem.Challenge.RW_tc0103_01
set_option Elab.async false
noncomputable section
open PySem PySem.W PyProof.Rows
set_option maxRecDepth 100000
set_option maxHeartbeats 8000000
namespace Mine
#guard_msgs (drop all) in
lay_quick_some 2 noSuchThing
open_top hd for PySem.Challenge.rw_tc0103_01
lay_quick_some 1 Nat
end Mine
end
noncomputable section
open PySem PySem.W PyProof.Rows PySem.Calls
set_option maxRecDepth 100000
set_option maxHeartbeats 8000000
namespace Mine

/-- the contract of a def: what a call of it gives back, over any frame that calls it (kd frames, ku C units to spare) -/
noncomputable def SpecN (kd ku : Nat) (w : World) (mean : ExcName → Option Value) (mg mb : Str → Option Value) (f : Addr) (news : List (Addr × Obj)) (vs : List Value) (Out : Value → List (Addr × Obj) → Prop) : Prop :=
  ∀ (p : Program) (loose : List Str) (dp un : Nat) (gd : Option (List Code)) (cn : Str) (cs : Scope) (a : Addr) (ccd : Value) (cl : List (Str × Addr)) (outer : List Env) (A₀ : Around) (base h₀ : Heap) (L : Addr) (m : Str → Option Value) (s : Shared) (Q E : Value → Shared → Prop),
    Below A₀ base outer h₀ → Fr h₀ L s.heap m → (hd.heap_39 w.params).In h₀ → News h₀ L s.heap news → Top p loose mean mg mb h₀ → cs.kind = .function →
    dp + kd < recursionLimit → un + ku < cLine →
    (∀ (r : Value) (tl : List (Addr × Obj)) (h' : Heap) (tk' : Nat), Fr h₀ L h' m → News h₀ L h' (tl ++ news) → Out r tl → Q r { s with heap := h', toks := tk' }) →
    wpAny (model PySem.Challenge.rw_tc0103_01.prog w) (ktrTop dp un gd cn cs L a ccd cl outer) (call (.ref f) vs) Q E s

theorem SpecN.use {kd ku : Nat} {w : World} {mean : ExcName → Option Value} {mg mb : Str → Option Value} {f : Addr} {need LED : List (Addr × Obj)} {vs : List Value} {Out : Value → List (Addr × Obj) → Prop} (S : SpecN kd ku w mean mg mb f (need ++ LED) vs Out)
    {p : Program} {loose : List Str} {A : Around} {cn : Str} {cs : Scope} {a : Addr} {ccd : Value} {cl : List (Str × Addr)} {outer : List Env} {A₀ : Around} {base h₀ : Heap} {L : Addr} {m : Str → Option Value} {s : Shared} {Q E : Value → Shared → Prop}
    (hh : A.handled = none) (hA : A.frames = some (envX cn cs L a ccd cl :: outer)) (B : Below A₀ base outer h₀) (F : Fr h₀ L s.heap m) (X : (hd.heap_39 w.params).In h₀) (N : News h₀ L s.heap LED) (T : Top p loose mean mg mb h₀) (hk : cs.kind = .function)
    (hd : A.depth + kd < recursionLimit) (hu : A.units + ku < cLine) (hs : ∀ p ∈ need, p ∈ LED)
    (ret : ∀ (r : Value) (tl : List (Addr × Obj)) (h' : Heap) (tk' : Nat), Fr h₀ L h' m → News h₀ L h' (tl ++ LED) → Out r tl → Q r { s with heap := h', toks := tk' }) :
    wpAny (model PySem.Challenge.rw_tc0103_01.prog w) A (call (.ref f) vs) Q E s := by
  obtain ⟨ha, dp, fr, gd, un⟩ := A
  dsimp only at hh hA hd hu
  subst hh hA
  refine S p loose dp un gd cn cs a ccd cl outer A₀ base h₀ L m s Q E B F X ?_ T hk hd hu fun r tl h' tk' F' N' o => ret r tl h' tk' F' ?_ o
  · intro q hq
    rcases List.mem_append.mp hq with h | h
    · exact N q (hs q h)
    · exact N q h
  · intro q hq
    rcases List.mem_append.mp hq with h | h
    · exact N' q (List.mem_append.mpr (.inl h))
    · exact N' q (List.mem_append.mpr (.inr (List.mem_append.mpr (.inr h))))
end Mine
end
noncomputable section
open PySem PySem.W PyProof.Rows PySem.Calls PySem.Spec
set_option maxRecDepth 100000
namespace Mine
section
variable {prog : Program} {w : World} {A : Around} {E : Value → Shared → Prop} {s : Shared} {env : Env} {h₀ : Heap} {x : Str} {body : List Stmt} {Q : Flow → Shared → Prop}
  {σ : Type} (Led : σ → List (Addr × Obj)) (ps : σ → List (Str × Value)) (stored : List Str)

noncomputable def GNames (x : Str) (m₀ m : Str → Option Value) (c : σ) : Prop :=
  (∀ p ∈ ps c, m p.1 = some p.2) ∧ (∀ z, z ≠ x → (∀ p ∈ ps c, z ≠ p.1) → stored.contains z = false → m z = m₀ z)

noncomputable def GEnd (h₀ : Heap) (L : Addr) (x : Str) (m₀ : Str → Option Value) (P : σ → Prop) (I : Addr) (oI : Obj) (s₁ s₂ : Shared) : Prop :=
  ∃ c' h' tk m' news', s₂ = { s₁ with heap := h', toks := tk } ∧ Fr h₀ L h' m' ∧ News h₀ L h' news' ∧ (∀ p ∈ Led c', p ∈ news') ∧ (I, oI) ∈ news' ∧ (∀ p ∈ Led c', p.1 ≠ I) ∧ GNames ps stored x m₀ m' c' ∧ P c'
noncomputable def GPost (h₀ : Heap) (L : Addr) (x : Str) (m₀ : Str → Option Value) (P : σ → Prop) (I : Addr) (oI : Obj) (s₁ : Shared) (Q : Flow → Shared → Prop) (f : Flow) (s₂ : Shared) : Prop :=
  match f with
  | .ret v => Q (.ret v) s₂
  | .brk => Q .next s₂
  | _ => GEnd Led ps stored h₀ L x m₀ P I oI s₁ s₂

theorem gs_walk {I : Addr} {fp : List Addr} {n : Nat} {Pv : Nat → Value → Prop} {St : Nat → Heap → Prop} {m₀ : Str → Option Value} (W : Walks prog w A I fp [I] n Pv St)
    (P : Nat → σ → Prop) (c₀ : σ) (fx : List (Addr × Obj))
    (hob : ∀ i h, St i h → ∃ o, h.get? I = some o)
    (hLf : env.locals ∉ fp) (hI₀ : h₀.get? I = none) (hnI : ∀ p ∈ Led c₀, p.1 ≠ I)
    (hfx : ∀ b ∈ fp, b ≠ I → h₀.get? b = none → ∃ o, (b, o) ∈ fx) (hsub : ∀ c, ∀ p ∈ fx, p ∈ Led c)
    (hst : St 0 s.heap) (F : Fr h₀ env.locals s.heap m₀) (N : News h₀ env.locals s.heap (Led c₀)) (hk : ∀ p ∈ ps c₀, m₀ p.1 = some p.2) (hp : P 0 c₀)
    (turn : ∀ (c : σ) i v oI (u : Str → Option Value) h tk, i < n → Pv i v → P i c → (∀ p ∈ Led c, p.1 ≠ I) →
      Fr h₀ env.locals h (fun y => if y = x then some v else kstB (fun z => if stored.contains z then u z else m₀ z) (ps c) y) → News h₀ env.locals h ((I, oI) :: Led c) →
      wpAny (model prog w) A (execs body env) (GPost Led ps stored h₀ env.locals x m₀ (P (i + 1)) I oI { s with heap := h, toks := tk } Q) E { s with heap := h, toks := tk })
    (done : ∀ (c : σ) (u : Str → Option Value) h tk, P n c → Fr h₀ env.locals h (fun y => if y = x then u y else kstB (fun z => if stored.contains z then u z else m₀ z) (ps c) y) → News h₀ env.locals h (Led c) → Q .next { s with heap := h, toks := tk }) :
    LoopAtV prog w A h₀ env x body Q E (.ref I) s := by
  refine ⟨I, fp, [I], n, Pv, St, m₀, Led c₀, (fun i m nx => ∃ c, nx = Led c ∧ GNames ps stored x m₀ m c ∧ P i c), rfl, W, hLf, ?_, ?_, hst, F, N, ⟨c₀, rfl, ⟨hk, fun _ _ _ _ => rfl⟩, hp⟩, ?_, ?_⟩
  · intro b hb; rw [List.mem_singleton.mp hb]; exact hI₀
  · intro p hpp hq; exact hnI p hpp (List.mem_singleton.mp hq)
  · rintro i v m₁ news₁ s₁ own ⟨hh', tk', rfl⟩ hin hP ⟨c, rfl, ⟨h1, h2⟩, hpc⟩ hoff hown hget hall hst₁ F₁ N₁
    obtain ⟨oI, hoI⟩ := hob _ _ hst₁
    have hIfp : I ∈ fp := W.sub I (List.mem_singleton.mpr rfl)
    have hIown := hall I hIfp hI₀ oI hoI
    have hne : ∀ p ∈ Led c, p.1 ≠ I := fun p hp e => hoff p hp (List.mem_singleton.mpr e)
    have N₂ : News h₀ env.locals hh' ((I, oI) :: Led c) := fun p hp => by
      rcases List.mem_cons.mp hp with rfl | hp
      · exact N₁ _ (List.mem_append.mpr (.inl hIown))
      · exact N₁ p (List.mem_append.mpr (.inr hp))
    refine wpAny_mono (turn c i v oI m₁ hh' tk' hin hP hpc hne (kst_fr h1 h2 F₁) N₂) (fun f s₂ p => ?_) fun _ _ e => e
    have fin : GEnd Led ps stored h₀ env.locals x m₀ (P (i + 1)) I oI { s with heap := hh', toks := tk' } s₂ →
        LoopStepU h₀ env.locals [I] own (fun m nx => ∃ c, nx = Led c ∧ GNames ps stored x m₀ m c ∧ P (i + 1) c) { s with heap := hh', toks := tk' } .next s₂ := by
      rintro ⟨c', h', tk, m', news', e, F', N', hn, ho, ha, hm, hp'⟩
      refine ⟨rfl, h', tk, m', Led c', e, F', fun p hp => ?_, fun p hp hq => ha p hp (List.mem_singleton.mp hq), c', rfl, hm, hp'⟩
      rcases List.mem_append.mp hp with h | h
      · by_cases hI : p.1 = I
        · have e1 := hget p h
          rw [hI] at e1
          have e2 : p.2 = oI := Option.some.inj (e1.symm.trans hoI)
          have : p = (I, oI) := Prod.ext hI e2
          rw [this]; exact N' _ ho
        · obtain ⟨o, ho'⟩ := hfx p.1 (hown p h) hI (N₁ p (List.mem_append.mpr (.inl h))).2.2
          have e1 := (N₂ _ (List.mem_cons_of_mem _ (hsub c _ ho'))).1
          have e2 := hget p h
          have e3 : p.2 = o := Option.some.inj (e2.symm.trans e1)
          have : p = (p.1, o) := Prod.ext rfl e3
          rw [this]; exact N' _ (hn _ (hsub c' _ ho'))
      · exact N' p (hn p h)
    cases f with
    | ret v => exact .ret p
    | brk => exact .brk p
    | next => exact .next (fin p)
    | cont => exact .cont (fin p)
  · rintro h' tk m' news' F' N' _ ⟨c, rfl, ⟨h1, h2⟩, hpc⟩
    exact done c m' h' tk hpc (kst_frOut h1 h2 F') N'

/-- the signs of a text -/
theorem gs_text {xt : Str} {tx : Tok} {m₀ : Str → Option Value} (P : Nat → σ → Prop) (c₀ : σ) (hh : A.handled = none)
    (F : Fr h₀ env.locals s.heap m₀) (N : News h₀ env.locals s.heap (Led c₀)) (hk : ∀ p ∈ ps c₀, m₀ p.1 = some p.2) (hp : P 0 c₀)
    (turn : ∀ (c : σ) i (n : Nat) t I oI (u : Str → Option Value) h tk, xt.cps[i]? = some n → P i c → (∀ p ∈ Led c, p.1 ≠ I) →
      Fr h₀ env.locals h (fun y => if y = x then some (.str ⟨#[n]⟩ t) else kstB (fun z => if stored.contains z then u z else m₀ z) (ps c) y) → News h₀ env.locals h ((I, oI) :: Led c) →
      wpAny (model prog w) A (execs body env) (GPost Led ps stored h₀ env.locals x m₀ (P (i + 1)) I oI { s with heap := h, toks := tk } Q) E { s with heap := h, toks := tk })
    (done : ∀ (c : σ) (u : Str → Option Value) h tk, P xt.cps.size c → Fr h₀ env.locals h (fun y => if y = x then u y else kstB (fun z => if stored.contains z then u z else m₀ z) (ps c) y) → News h₀ env.locals h (Led c) → Q .next { s with heap := h, toks := tk }) :
    wpAny (model prog w) A (pyIter (.str xt tx)) (fun it s₂ => LoopAtV prog w A h₀ env x body Q E it s₂) E s := by
  have key : ∀ (o : Obj) (cls : String), Walks prog w A s.heap.objs.size [s.heap.objs.size] [s.heap.objs.size] xt.cps.size (SignAt xt) (fun i h => h.IsStrIter s.heap.objs.size cls xt tx i) → (s.heap.push o).IsStrIter s.heap.objs.size cls xt tx 0 →
      LoopAtV prog w A h₀ env x body Q E (.ref s.heap.objs.size) { s with heap := s.heap.push o } := by
    intro o cls W hst
    refine gs_walk (s := { s with heap := s.heap.push o }) Led ps stored W P c₀ [] (fun i h st => let ⟨o, ho, _⟩ := st; ⟨o, ho⟩) ?_ (next_is_new F) ?_ ?_ (fun _ _ h => nomatch h) hst (F.push _) (fun p hp => ⟨Heap.get?_push_of_some _ (N p hp).1, (N p hp).2⟩) hk hp ?_ ?_
    · intro hm; exact absurd F.ns.lt ((List.mem_singleton.mp hm) ▸ Nat.lt_irrefl _)
    · intro p hp e; exact absurd (Heap.lt_size (N p hp).1) (e ▸ Nat.lt_irrefl _)
    · intro b hb hne; exact absurd (List.mem_singleton.mp hb) hne
    · rintro c i v oI u h tk hi ⟨n, t, hn, rfl⟩ hP hne F₁ N₁
      exact turn c i n t _ oI u h tk hn hP hne F₁ N₁
    · intro c u h tk hP F₁ N₁
      exact done c u h tk hP F₁ N₁
  cases ha : xt.cps.all (· < 128)
  · exact wpAny_pyIter_wide ha (key _ _ (Walks.strWide hh _ xt tx) ⟨_, Heap.get?_push_size _ rfl, rfl, rfl⟩)
  · exact wpAny_pyIter_ascii ha (key _ _ (Walks.strAscii hh _ xt tx) ⟨_, Heap.get?_push_size _ rfl, rfl, rfl⟩)
end
end Mine
namespace Mine
theorem gend {σ : Type} {Led : σ → List (Addr × Obj)} {ps : σ → List (Str × Value)} {stored : List Str} {h₀ : Heap} {L : Addr} {x : Str} {m₀ : Str → Option Value} {P : σ → Prop} {I : Addr} {oI : Obj} {s₁ : Shared} (c' : σ) {h' : Heap} {tk : Nat} {m' : Str → Option Value} {news' : List (Addr × Obj)}
    (F : Fr h₀ L h' m') (N : News h₀ L h' news') (hn : ∀ p ∈ Led c', p ∈ news') (ho : (I, oI) ∈ news') (ha : ∀ p ∈ Led c', p.1 ≠ I) (hk : ∀ p ∈ ps c', m' p.1 = some p.2) (hs : ∀ z, z ≠ x → (∀ p ∈ ps c', z ≠ p.1) → stored.contains z = false → m' z = m₀ z) (hp : P c') :
    GEnd Led ps stored h₀ L x m₀ P I oI s₁ { s₁ with heap := h', toks := tk } := ⟨c', h', tk, m', news', rfl, F, N, hn, ho, ha, ⟨hk, hs⟩, hp⟩
theorem cast_up {a : Int} {i : Nat} (h : a ≤ (i : Int)) : a + 1 ≤ ((i + 1 : Nat) : Int) := Int.add_le_add_right h 1
theorem cast_le {a : Int} {i : Nat} (h : a ≤ (i : Int)) : a ≤ ((i + 1 : Nat) : Int) := Int.le_trans h (Int.ofNat_le.mpr (Nat.le_succ i))
theorem turn_lt {i n : Nat} (h : i < n) : n + 1 - (i + 1) < n + 1 - i := Nat.sub_lt_sub_left (Nat.lt_succ_of_lt h) (Nat.lt_succ_self i)
theorem all_ne_of_lt {news : List (Addr × Obj)} {d a : Nat} (h : ∀ p ∈ news, p.1 < d) (h2 : d ≤ a) : ∀ p ∈ news, p.1 ≠ a := fun p hp e => absurd (h p hp) (by rw [e]; exact Nat.not_lt.mpr h2)
theorem all_ne_of_lt' {news : List (Addr × Obj)} {d a : Nat} (h : AllLt d news) (h2 : d ≤ a) : ∀ p ∈ news, p.1 ≠ a := all_ne_of_lt (ktn_ltOf h) h2
end Mine
namespace Mine
section
variable {prog : Program} {w : World} {A : Around} {E : Value → Shared → Prop} {s : Shared} {env : Env} {h₀ : Heap} {x : Str} {body : List Stmt} {Q : Flow → Shared → Prop}
  {σ : Type} (LedF : σ → List (Addr × Obj)) (ps : σ → List (Str × Value)) (stored : List Str) {rest : List (Addr × Obj)}
theorem gs_textR {xt : Str} {tx : Tok} {m₀ : Str → Option Value} (P : Nat → σ → Prop) (c₀ : σ) (hh : A.handled = none)
    (F : Fr h₀ env.locals s.heap m₀) (N : News h₀ env.locals s.heap (LedF c₀ ++ rest)) (hk : ∀ p ∈ ps c₀, m₀ p.1 = some p.2) (hp : P 0 c₀)
    (turn : ∀ (c : σ) i (n : Nat) t I oI (u : Str → Option Value) h tk, xt.cps[i]? = some n → P i c → (∀ p ∈ LedF c ++ rest, p.1 ≠ I) →
      Fr h₀ env.locals h (fun y => if y = x then some (.str ⟨#[n]⟩ t) else kstB (fun z => if stored.contains z then u z else m₀ z) (ps c) y) → News h₀ env.locals h ((I, oI) :: (LedF c ++ rest)) →
      wpAny (model prog w) A (execs body env) (GPost (fun c => LedF c ++ rest) ps stored h₀ env.locals x m₀ (P (i + 1)) I oI { s with heap := h, toks := tk } Q) E { s with heap := h, toks := tk })
    (done : ∀ (c : σ) (u : Str → Option Value) h tk, P xt.cps.size c → Fr h₀ env.locals h (fun y => if y = x then u y else kstB (fun z => if stored.contains z then u z else m₀ z) (ps c) y) → News h₀ env.locals h (LedF c ++ rest) → Q .next { s with heap := h, toks := tk }) :
    wpAny (model prog w) A (pyIter (.str xt tx)) (fun it s₂ => LoopAtV prog w A h₀ env x body Q E it s₂) E s :=
  gs_text (fun c => LedF c ++ rest) ps stored P c₀ hh F N hk hp turn done
/-- the same, and a break leaves to where the end leads -/
theorem gs_textB {xt : Str} {tx : Tok} {m₀ : Str → Option Value} (P : Nat → σ → Prop) (Pe : σ → Prop) (c₀ : σ) (hh : A.handled = none)
    (F : Fr h₀ env.locals s.heap m₀) (N : News h₀ env.locals s.heap (LedF c₀ ++ rest)) (hk : ∀ p ∈ ps c₀, m₀ p.1 = some p.2) (hp : P 0 c₀)
    (turn : (∀ (c : σ) (u : Str → Option Value) h tk, Pe c → Fr h₀ env.locals h (fun y => if y = x then u y else kstB (fun z => if stored.contains z then u z else m₀ z) (ps c) y) → News h₀ env.locals h (LedF c ++ rest) → Q .next { s with heap := h, toks := tk }) → ∀ (c : σ) i (n : Nat) t I oI (u : Str → Option Value) h tk, xt.cps[i]? = some n → P i c → (∀ p ∈ LedF c ++ rest, p.1 ≠ I) →
      Fr h₀ env.locals h (fun y => if y = x then some (.str ⟨#[n]⟩ t) else kstB (fun z => if stored.contains z then u z else m₀ z) (ps c) y) → News h₀ env.locals h ((I, oI) :: (LedF c ++ rest)) →
      wpAny (model prog w) A (execs body env) (GPost (fun c => LedF c ++ rest) ps stored h₀ env.locals x m₀ (P (i + 1)) I oI { s with heap := h, toks := tk } Q) E { s with heap := h, toks := tk })
    (stop : ∀ c, P xt.cps.size c → Pe c)
    (done : ∀ (c : σ) (u : Str → Option Value) h tk, Pe c → Fr h₀ env.locals h (fun y => if y = x then u y else kstB (fun z => if stored.contains z then u z else m₀ z) (ps c) y) → News h₀ env.locals h (LedF c ++ rest) → Q .next { s with heap := h, toks := tk }) :
    wpAny (model prog w) A (pyIter (.str xt tx)) (fun it s₂ => LoopAtV prog w A h₀ env x body Q E it s₂) E s :=
  gs_text (fun c => LedF c ++ rest) ps stored P c₀ hh F N hk hp (turn done) fun c u h tk hP => done c u h tk (stop c hP)
end
end Mine
namespace Mine
theorem ne_of_news {h₀ h : Heap} {L : Addr} {news : List (Addr × Obj)} {a b : Addr} {oa ob : Obj} (N : News h₀ L h news) (ha : (a, oa) ∈ news) (hb : (b, ob) ∈ news) (hne : oa.cls ≠ ob.cls) : a ≠ b := fun e => by
  subst e
  exact hne (congrArg Obj.cls (Option.some.inj ((N _ ha).1.symm.trans (N _ hb).1)))
end Mine

namespace Mine
section
variable {prog : Program} {w : World} {A : Around} {E : Value → Shared → Prop} {s : Shared} {env : Env} {h₀ : Heap} {x : Str} {body : List Stmt} {Q : Flow → Shared → Prop}
  {σ : Type} (LedF : σ → List (Addr × Obj)) (ps : σ → List (Str × Value)) (stored : List Str) {rest : List (Addr × Obj)}
/-- a range by ones -/
theorem gs_range {r : Addr} {a₀ b₀ : Int} {t₀ u₀ v₀ : Tok} {n : Nat} {m₀ : Str → Option Value} (P : Nat → σ → Prop) (c₀ : σ) (hh : A.handled = none)
    (hr : IsRange s.heap r a₀ b₀ 1 t₀ u₀ v₀) (hsmall : Builtin.Range.small a₀ b₀ 1 = true) (hn : Builtin.Range.rangeSize a₀ b₀ 1 = (n : Int))
    (F : Fr h₀ env.locals s.heap m₀) (N : News h₀ env.locals s.heap (LedF c₀ ++ rest)) (hk : ∀ p ∈ ps c₀, m₀ p.1 = some p.2) (hp : P 0 c₀)
    (turn : ∀ (c : σ) i t I oI (u : Str → Option Value) h tk, i < n → P i c → (∀ p ∈ LedF c ++ rest, p.1 ≠ I) →
      Fr h₀ env.locals h (fun y => if y = x then some (.int (a₀ + (i : Int)) t) else kstB (fun z => if stored.contains z then u z else m₀ z) (ps c) y) → News h₀ env.locals h ((I, oI) :: (LedF c ++ rest)) →
      wpAny (model prog w) A (execs body env) (GPost (fun c => LedF c ++ rest) ps stored h₀ env.locals x m₀ (P (i + 1)) I oI { s with heap := h, toks := tk } Q) E { s with heap := h, toks := tk })
    (done : ∀ (c : σ) (u : Str → Option Value) h tk, P n c → Fr h₀ env.locals h (fun y => if y = x then u y else kstB (fun z => if stored.contains z then u z else m₀ z) (ps c) y) → News h₀ env.locals h (LedF c ++ rest) → Q .next { s with heap := h, toks := tk }) :
    wpAny (model prog w) A (pyIter (.ref r)) (fun it s₂ => LoopAtV prog w A h₀ env x body Q E it s₂) E s := by
  refine wpAny_pyIter_range hr hsmall ?_
  have W : Walks prog w A s.heap.objs.size [s.heap.objs.size] [s.heap.objs.size] n (fun i v => i < n ∧ ∃ t, v = .int (a₀ + i * 1) t)
      (fun i h => IsRangeIter h s.heap.objs.size (a₀ + (i : Nat) * 1) ((n : Int) - (i : Nat)) 1) := (Walks.range hh _ a₀ 1 n).bound
  refine gs_walk (s := { s with heap := s.heap.push _ }) (fun c => LedF c ++ rest) ps stored W P c₀ [] (fun i h st => ⟨_, st⟩) ?_ (next_is_new F) ?_ ?_ (fun _ _ h => nomatch h) (by show IsRangeIter _ _ _ _ _; rw [hn]; simpa using Heap.get?_push_size _ rfl) (F.push _) (fun p hp => ⟨Heap.get?_push_of_some _ (N p hp).1, (N p hp).2⟩) hk hp ?_ ?_
  · intro hm; exact absurd F.ns.lt ((List.mem_singleton.mp hm) ▸ Nat.lt_irrefl _)
  · intro p hp e; exact absurd (Heap.lt_size (N p hp).1) (e ▸ Nat.lt_irrefl _)
  · intro b hb hne; exact absurd (List.mem_singleton.mp hb) hne
  · rintro c i v oI u h tk hi ⟨_, t, rfl⟩ hP hne F₁ N₁
    have e1 : a₀ + (i : Int) * 1 = a₀ + (i : Int) := by omega
    rw [e1] at F₁
    exact turn c i t _ oI u h tk hi hP hne F₁ N₁
  · intro c u h tk hP F₁ N₁
    exact done c u h tk hP F₁ N₁
end
end Mine
end
open Mine in
theorem Mine.omega_rule : True := by
  k_with_none
  k_with "omega" => with_reducible first | assumption | exact Nat.le_refl _ | exact Nat.le_of_lt (by assumption) | exact Ne.symm (by assumption) | exact Nat.ne_of_gt (by assumption) | exact Nat.ne_of_lt (by assumption) | exact Int.le_add_one (by assumption) | exact cast_up (by assumption) | exact cast_le (by assumption) | exact Nat.le_trans (by assumption) (by decide) | exact Nat.lt_of_le_of_lt (by assumption) (by decide) | exact Nat.lt_of_lt_of_le (by assumption) (by decide) | (refine Nat.le_trans ?_ (by assumption); decide) | exact Nat.lt_trans (by assumption) (by assumption) | (rename (_ ∧ _) => hx; first | exact hx.1 | exact hx.2.1 | exact hx.2.2.1 | exact hx.2.2.2.1 | exact hx.2.2.2.2.1 | exact hx.2.2.2.2.2.1 | exact hx.2.2.2.2.2.2.1 | exact Nat.ne_of_gt hx.1 | exact Nat.ne_of_gt hx.2.1 | exact Nat.ne_of_gt hx.2.2.1 | exact Nat.ne_of_gt hx.2.2.2.1 | exact Nat.ne_of_gt hx.2.2.2.2.1 | exact Nat.ne_of_gt hx.2.2.2.2.2.1 | exact Nat.ne_of_gt hx.2.2.2.2.2.2.1 | exact Nat.le_of_lt hx.1 | exact Nat.le_of_lt hx.2.1 | exact Nat.le_of_lt hx.2.2.1 | exact Nat.le_of_lt hx.2.2.2.1 | fail) | fail
  trivial
local macro_rules | `(tactic| omega) => `(tactic| k_extra "omega")
noncomputable section
open PySem PySem.W PyProof.Rows PySem.Calls
namespace Mine
/-- what Whitespace.__init__ reckons -/
structure WSt where
  ct : List Int
  b : Int
  n : Int
  nt : Int
noncomputable def bump (ct : List Int) (k : Nat) : List Int :=
  if k < ct.length then ct.set k (ct.getD k 0 + 1) else (ct ++ List.replicate (k - ct.length + 1) 0).set k ((ct ++ List.replicate (k - ct.length + 1) 0).getD k 0 + 1)
noncomputable def wsStep (s : WSt) (c : Nat) : WSt := if c = 32 then ⟨s.ct, s.b + 1, s.n + 1, s.nt⟩ else ⟨bump s.ct s.b.toNat, 0, s.n + 1, s.nt + 1⟩
noncomputable def wsRun : List Nat → WSt → WSt
  | [], s => s
  | c :: r, s => if c = 32 ∨ c = 9 then wsRun r (wsStep s c) else s
noncomputable def ws0 : WSt := ⟨[], 0, 0, 0⟩
theorem wsRun_pre : ∀ (p q : List Nat) (s : WSt), (∀ c ∈ p, c = 32 ∨ c = 9) → wsRun (p ++ q) s = wsRun q (p.foldl wsStep s)
  | [], _, _, _ => rfl
  | c :: p, q, s, h => by
    show (if c = 32 ∨ c = 9 then wsRun (p ++ q) (wsStep s c) else s) = _
    rw [if_pos (h c List.mem_cons_self), wsRun_pre p q _ fun c hc => h c (List.mem_cons_of_mem _ hc)]; rfl
theorem wsRun_all {l : List Nat} {s : WSt} (h : ∀ c ∈ l, c = 32 ∨ c = 9) : wsRun l s = l.foldl wsStep s := by
  have := wsRun_pre l [] s h
  rw [List.append_nil] at this; exact this
theorem wsRun_stop {a : Array Nat} {i n : Nat} {s : WSt} (h : ∀ c ∈ a.toList.take i, c = 32 ∨ c = 9) (hn : a[i]? = some n) (h1 : n ≠ 32) (h2 : n ≠ 9) : wsRun a.toList s = (a.toList.take i).foldl wsStep s := by
  have hl : a.toList[i]? = some n := by simpa using hn
  obtain ⟨hi, he⟩ := List.getElem?_eq_some_iff.mp hl
  have e : a.toList = a.toList.take i ++ n :: a.toList.drop (i + 1) := by
    rw [← he, ← List.drop_eq_getElem_cons hi, List.take_append_drop]
  rw [e, wsRun_pre _ _ _ h, ← e]
  show (if n = 32 ∨ n = 9 then _ else _) = _
  rw [if_neg (by omega)]
/-- the state between two signs -/
noncomputable def wsAt (a : Array Nat) (i : Nat) (s : WSt) : Prop := (∀ c ∈ a.toList.take i, c = 32 ∨ c = 9) ∧ s = (a.toList.take i).foldl wsStep ws0
theorem wsAt_0 (a : Array Nat) : wsAt a 0 ⟨[], 0, 0, 0⟩ := ⟨fun _ h => (nomatch h), rfl⟩
theorem wsAt_step {a : Array Nat} {i n : Nat} {s s' : WSt} (h : wsAt a i s) (hn : a[i]? = some n) (hc : n = 32 ∨ n = 9) (e : s' = wsStep s n) : wsAt a (i + 1) s' := by
  have hl : a.toList[i]? = some n := by simpa using hn
  have hs : a.toList.take (i + 1) = a.toList.take i ++ [n] := by simp [List.take_add_one, hl]
  refine ⟨fun c hm => ?_, ?_⟩
  · rw [hs] at hm
    rcases List.mem_append.mp hm with h' | h'
    · exact h.1 c h'
    · rw [List.mem_singleton.mp h']; exact hc
  · rw [hs, List.foldl_append, ← h.2, e]; rfl
theorem wsAt_end {a : Array Nat} {s : WSt} (h : wsAt a a.size s) : s = wsRun a.toList ws0 := by
  have e : a.toList.take a.size = a.toList := List.take_of_length_le (by simp)
  rw [wsAt, e] at h
  rw [wsRun_all h.1]; exact h.2
theorem wsAt_stop {a : Array Nat} {i n : Nat} {s : WSt} (h : wsAt a i s) (hn : a[i]? = some n) (h1 : n ≠ 32) (h2 : n ≠ 9) : s = wsRun a.toList ws0 := by
  rw [wsRun_stop h.1 hn h1 h2]; exact h.2

theorem sp_is : Str.ofString " " = ⟨#[32]⟩ := by decide +kernel
theorem tab_is : Str.ofString "\t" = ⟨#[9]⟩ := by decide +kernel
theorem one_eq {n k : Nat} {s : Str} (e : s = ⟨#[k]⟩) (h : (({ cps := #[n] } : Str) == s) = true) : n = k := by
  subst e
  have := eq_of_beq h
  injection this with this
  simpa using this
theorem one_ne {n k : Nat} {s : Str} (e : s = ⟨#[k]⟩) (h : (({ cps := #[n] } : Str) == s) = false) : n ≠ k := by
  intro e'; subst e'; subst e; simp at h
theorem sp_eq {n : Nat} (h : (({ cps := #[n] } : Str) == Str.ofString " ") = true) : n = 32 := one_eq sp_is h
theorem sp_ne {n : Nat} (h : (({ cps := #[n] } : Str) == Str.ofString " ") = false) : n ≠ 32 := one_ne sp_is h
theorem tab_eq {n : Nat} (h : (({ cps := #[n] } : Str) == Str.ofString "\t") = true) : n = 9 := one_eq tab_is h
theorem tab_ne {n : Nat} (h : (({ cps := #[n] } : Str) == Str.ofString "\t") = false) : n ≠ 9 := one_ne tab_is h

theorem bump_len (ct : List Int) (k : Nat) : (bump ct k).length = if k < ct.length then ct.length else k + 1 := by
  unfold bump
  split
  · simp
  · rename_i h
    simp only [List.length_set, List.length_append, List.length_replicate]; omega
theorem flat_rep (n : Nat) : (List.replicate n [(0 : Int)]).flatten = List.replicate n 0 := by
  induction n with
  | zero => rfl
  | succ n ih => rw [List.replicate_succ, List.flatten_cons, ih]; rfl
theorem bump_big {ct : List Int} {b : Int} (h : (ct.length : Int) ≤ b) :
    ((ct ++ (List.replicate (b - ct.length + 1).toNat [(0 : Int)]).flatten).set b.toNat ((ct ++ (List.replicate (b - ct.length + 1).toNat [(0 : Int)]).flatten).getD b.toNat 0 + 1)) = bump ct b.toNat := by
  unfold bump
  rw [if_neg (by omega), flat_rep]
  have : (b - ct.length + 1).toNat = b.toNat - ct.length + 1 := by
    obtain ⟨k, e⟩ := Int.le.dest h
    have e2 : b = ((ct.length + k : Nat) : Int) := e.symm
    rw [e2, Int.toNat_natCast, Nat.add_sub_cancel_left, show ((ct.length + k : Nat) : Int) - ct.length + 1 = ((k + 1 : Nat) : Int) by omega, Int.toNat_natCast]
  rw [this]
theorem bump_small {ct : List Int} {b : Int} (h0 : 0 ≤ b) (h : ¬ (ct.length : Int) ≤ b) : ct.set b.toNat (ct.getD b.toNat 0 + 1) = bump ct b.toNat := by
  unfold bump
  rw [if_pos (by omega)]
theorem step_sp {ct : List Int} {b n nt : Int} {c : Nat} (h : c = 32) : (⟨ct, b + 1, n + 1, nt⟩ : WSt) = wsStep ⟨ct, b, n, nt⟩ c := by unfold wsStep; rw [if_pos h]
theorem step_tab {ct ct' : List Int} {b n nt : Int} {c : Nat} (h : c ≠ 32) (e : ct' = bump ct b.toNat) : (⟨ct', 0, n + 1, nt + 1⟩ : WSt) = wsStep ⟨ct, b, n, nt⟩ c := by unfold wsStep; rw [if_neg h, e]

/-- a Whitespace as it lies -/
structure WsA where
  x : Addr
  dx : Addr
  tn : Addr
  tc : Addr
  raw : Value
  cvs : List Value
  k1 : Tok
  k2 : Tok
  k3 : Tok
  k4 : Tok
  k5 : Tok
  t1 : Tok
  t2 : Tok
  t3 : Tok
noncomputable abbrev wsDict (P : Params) (a : WsA) (s : WSt) : Obj := dictOf [⟨PyData.keyHash P (Str.ofString "raw"), .str (Str.ofString "raw") a.k1, a.raw⟩, ⟨PyData.keyHash P (Str.ofString "n"), .str (Str.ofString "n") a.k2, .int s.n a.t1⟩, ⟨PyData.keyHash P (Str.ofString "nt"), .str (Str.ofString "nt") a.k3, .int s.nt a.t2⟩,
  ⟨PyData.keyHash P (Str.ofString "norm"), .str (Str.ofString "norm") a.k4, .ref a.tn⟩, ⟨PyData.keyHash P (Str.ofString "is_simple"), .str (Str.ofString "is_simple") a.k5, .bool (decide ((s.ct.length : Int) ≤ 1))⟩] 5
noncomputable abbrev wsLed (P : Params) (a : WsA) (s : WSt) : List (Addr × Obj) := [(a.x, instObj 117 a.dx), (a.dx, wsDict P a s), (a.tn, { cls := .type "tuple", data := .seq #[.ref a.tc, .int s.b a.t3] }), (a.tc, { cls := .type "tuple", data := .seq a.cvs.toArray })]
/-- what is known of a Whitespace's figures -/
structure WsOk (a : WsA) (st : WSt) : Prop where
  hi : IntsAre a.cvs st.ct
  hl : st.ct.length ≤ 10
  hb0 : 0 ≤ st.b
  hb1 : st.b ≤ 10
  hc : ∀ i, 0 ≤ st.ct.getD i 0 ∧ st.ct.getD i 0 ≤ 2000
end Mine
end
noncomputable section
open PySem PySem.W PyProof.Rows PySem.Calls
local macro_rules | `(tactic| k_room) => `(tactic| ktr_room)
local macro_rules | `(tactic| k_units) => `(tactic| ktr_units)
local macro_rules | `(tactic| walk_at $s:str) => `(tactic| k_extra $s)
local macro_rules | `(tactic| k_all) => `(tactic| k_extra "k_all")
local macro_rules | `(tactic| k_ne) => `(tactic| k_extra "k_ne")
local macro_rules | `(tactic| kst_same) => `(tactic| k_extra "kst_same")
local macro_rules | `(tactic| k_mem) => `(tactic| k_extra "k_mem")
noncomputable section
open PySem PySem.W PyProof.Rows PySem.Calls
set_option maxRecDepth 100000
set_option maxHeartbeats 8000000
namespace Mine
noncomputable def colStep (size c : Int) (n : Int) : Int := if n = 32 then c + 1 else c + size - c % size
theorem colStep_b {size c : Int} {n : Int} {k : Nat} (h1 : 1 ≤ size) (h2 : size ≤ 2000) (h : 0 ≤ c) (h' : c ≤ 2000 * k) : 0 ≤ colStep size c n ∧ colStep size c n ≤ 2000 * ((k + 1 : Nat) : Int) := by
  unfold colStep
  have := Int.emod_nonneg c (show size ≠ 0 by omega)
  have := Int.emod_lt_of_pos c (show 0 < size by omega)
  split <;> omega
theorem col_t {size c : Int} {n : Nat} {pre : List Int} (d : Int) (h1 : 1 ≤ size) (h2 : size ≤ 2000) (e : c = pre.foldl (colStep size) 0) (h : 0 ≤ c) (h' : c ≤ 2000 * pre.length) (hd : d = colStep size c n) :
    d = (pre ++ [(n : Int)]).foldl (colStep size) 0 ∧ 0 ≤ d ∧ d ≤ 2000 * ((pre ++ [(n : Int)]).length : Int) := by
  subst hd
  have := colStep_b (n := (n : Int)) h1 h2 h h'
  refine ⟨by rw [List.foldl_append, ← e]; rfl, this.1, ?_⟩
  rw [List.length_append]; exact this.2
theorem col_tA {size c : Int} {n : Nat} (h : (({ cps := #[n] } : Str) == Str.ofString " ") = true) : c + 1 = colStep size c n := by
  have := sp_eq h; subst this; rfl
theorem col_tB {size c : Int} {n : Nat} (h1 : 1 ≤ size) (h : (({ cps := #[n] } : Str) == Str.ofString " ") = false) : c + size - c.fmod size = colStep size c n := by
  have := sp_ne h
  unfold colStep
  rw [if_neg (by omega), Int.fmod_eq_emod_of_nonneg c (by omega)]

theorem col (w : World) (mean : ExcName → Option Value) (mg mb : Str → Option Value) (news : List (Addr × Obj)) (lead : Str) (t : Tok) (size : Int) (t2 : Tok) (hl : lead.length ≤ 10) (h1 : 1 ≤ size) (h2 : size ≤ 2000) :
  SpecN 5 40 w mean mg mb 135 news [.str lead t, .int size t2] (fun r tl => tl = [] ∧ ∃ t, r = .int ((KStt.codes lead).foldl (colStep size) 0) t) := by
  w_top off
  k_with_none
  k_with "omega" => with_reducible first | assumption | exact Nat.le_refl _ | exact Nat.le_of_lt (by assumption) | exact Ne.symm (by assumption) | exact Nat.ne_of_gt (by assumption) | exact Nat.ne_of_lt (by assumption) | exact Int.le_add_one (by assumption) | exact cast_up (by assumption) | exact cast_le (by assumption) | exact Nat.le_trans (by assumption) (by decide) | exact Nat.lt_of_le_of_lt (by assumption) (by decide) | exact Nat.lt_of_lt_of_le (by assumption) (by decide) | (refine Nat.le_trans ?_ (by assumption); decide) | exact Nat.lt_trans (by assumption) (by assumption) | (rename (_ ∧ _) => hx; first | exact hx.1 | exact hx.2.1 | exact hx.2.2.1 | exact hx.2.2.2.1 | exact hx.2.2.2.2.1 | exact hx.2.2.2.2.2.1 | exact hx.2.2.2.2.2.2.1 | exact Nat.ne_of_gt hx.1 | exact Nat.ne_of_gt hx.2.1 | exact Nat.ne_of_gt hx.2.2.1 | exact Nat.ne_of_gt hx.2.2.2.1 | exact Nat.ne_of_gt hx.2.2.2.2.1 | exact Nat.ne_of_gt hx.2.2.2.2.2.1 | exact Nat.ne_of_gt hx.2.2.2.2.2.2.1 | exact Nat.le_of_lt hx.1 | exact Nat.le_of_lt hx.2.1 | exact Nat.le_of_lt hx.2.2.1 | exact Nat.le_of_lt hx.2.2.2.1 | fail) | fail
  unfold SpecN
  k_fill
  intros; rename_i hret
  refine wpAny_call ?_
  k_dflt cell_enter
  k_with "pyIter str" => k_state (fun pre c => c = pre.foldl (colStep size) 0 ∧ 0 ≤ c ∧ c ≤ 2000 * pre.length) "column"
  k_with "state" => first
    | exact col_t _ h1 h2 (by assumption) (by assumption) (by assumption) (col_tA (by assumption))
    | exact col_t _ h1 h2 (by assumption) (by assumption) (by assumption) (col_tB h1 (by assumption))
  k_steps
  exact hret _ [] _ _ (by k_asm) (by k_asm) ⟨rfl, _, by congr⟩
end Mine
end
noncomputable section
open PySem PySem.W PyProof.Rows PySem.Calls
set_option maxRecDepth 100000
set_option maxHeartbeats 8000000
namespace Mine
section
variable {prog : Program} {w : World} {A : Around} {E : Value → Shared → Prop} {s : Shared} {h₀ : Heap} {L : Addr} {m : Str → Option Value}
theorem tupL {l : Addr} {vs : List Value} {news : List (Addr × Obj)} {Q : Value → Shared → Prop} (F : Fr h₀ L s.heap m) (N : News h₀ L s.heap news) (hl : s.heap.IsList l vs.toArray) (hsz : vs.length ≤ sizeLine)
    (h : ∀ (D : Addr) h', Fr h₀ L h' m → News h₀ L h' ((D, { cls := .type "tuple", data := .seq vs.toArray }) :: news) → (∀ p ∈ news, p.1 < D) → Q (.ref D) { s with heap := h' }) : wpAny (model prog w) A (call (.type "tuple") [.ref l]) Q E s := by
  refine call_tuple_list hl (fun h' hk => ?_) (by rw [List.size_toArray]; exact hsz)
  have F' : Fr h₀ L h' m := F.keeps hk
  have N' : News h₀ L h' news := fun p hp => ⟨hk _ _ (N p hp).1, (N p hp).2⟩
  exact h _ _ (F'.push _) (N'.push F' _) fun p hp => Heap.lt_size (N' p hp).1
end
structure WC where
  cl : Addr
  cn : Nat
  cvs : List Value
  ct : List Int
  b : Int
  n : Int
  nt : Int
  tb : Tok
  tn : Tok
  tnt : Tok

theorem ws (w : World) (mean : ExcName → Option Value) (mg mb : Str → Option Value) (news : List (Addr × Obj)) (lead : Str) (t : Tok) (hl : lead.length ≤ 10) :
  SpecN 5 40 w mean mg mb 117 news [.str lead t] (fun r tl => ∃ a : WsA, r = .ref a.x ∧ (∀ p ∈ news, p.1 < a.dx ∧ p.1 < a.x ∧ p.1 < a.tn ∧ p.1 < a.tc) ∧ IntsAre a.cvs (wsRun lead.cps.toList ws0).ct ∧ tl = wsLed w.params a (wsRun lead.cps.toList ws0)) := by
  w_top off
  k_with_none
  k_with "omega" => with_reducible first | assumption | exact Nat.le_refl _ | exact Nat.le_of_lt (by assumption) | exact Ne.symm (by assumption) | exact Nat.ne_of_gt (by assumption) | exact Nat.ne_of_lt (by assumption) | exact Int.le_add_one (by assumption) | exact cast_up (by assumption) | exact cast_le (by assumption) | exact Nat.le_trans (by assumption) (by decide) | exact Nat.lt_of_le_of_lt (by assumption) (by decide) | exact Nat.lt_of_lt_of_le (by assumption) (by decide) | (refine Nat.le_trans ?_ (by assumption); decide) | exact Nat.lt_trans (by assumption) (by assumption) | (rename (_ ∧ _) => hx; first | exact hx.1 | exact hx.2.1 | exact hx.2.2.1 | exact hx.2.2.2.1 | exact hx.2.2.2.2.1 | exact hx.2.2.2.2.2.1 | exact hx.2.2.2.2.2.2.1 | exact Nat.ne_of_gt hx.1 | exact Nat.ne_of_gt hx.2.1 | exact Nat.ne_of_gt hx.2.2.1 | exact Nat.ne_of_gt hx.2.2.2.1 | exact Nat.ne_of_gt hx.2.2.2.2.1 | exact Nat.ne_of_gt hx.2.2.2.2.2.1 | exact Nat.ne_of_gt hx.2.2.2.2.2.2.1 | exact Nat.le_of_lt hx.1 | exact Nat.le_of_lt hx.2.1 | exact Nat.le_of_lt hx.2.2.1 | exact Nat.le_of_lt hx.2.2.2.1 | fail) | fail
  k_with "k_all" => first | exact all_ne_of_lt (by assumption) (by omega) | exact all_ne_of_lt' (by assumption) (by omega)
  k_with "k_ne" => first | (refine neN ?_; (try dsimp only); omega) | (refine neN (ne_of_news (by k_asm) (by k_mem) (by k_mem) ?_); intro hq; first | exact absurd (Value.type.inj hq) (by decide) | cases hq)
  k_with "kst_same" => (intro z h1 h2 h3; (simp only [List.forall_mem_cons, List.not_mem_nil, false_implies, implies_true, and_true, ne_eq] at h2); (simp [kstB, h1, h2]; done))
  k_with "call type:tuple" => (k_here; (with_reducible show wpAny _ _ (call (Value.type _) [Value.ref _]) _ _ _); k_dflt (refine' tupL ?k1 ?k2 ?k3 ?k4 ?_; (case k1 => k_asm); (case k2 => k_asm); (case k3 => exact News.isList (by k_asm) (by k_mem)); (case k4 => size_fits); k_whole); intro D9 h9 F9 N9 l9; (try k_lt l9); (try k_sweep))
  unfold SpecN
  k_fill
  intros; rename_i hret
  k_dflt (refine' call_cls ?k1 ?k2 ?k3 ?k4 ?k5 ?k6 ?_; (case k1 => k_asm); (case k2 => k_asm); (case k3 => k_asm); (case k4 => k_is); (case k5 => k_is); (case k6 => k_is); k_whole; intro x' d' h' F' N' l1 l2; have l2' := l2; (try k_lt2 l2))
  k_dflt cell_enter
  with_reducible show (let A' := _; wpAny _ A' _ _ _ _)
  intro A'
  k_steps
  rename_i Dq _ _ _ _ _ _ lq _ _ _ _ _ _ lF NN
  with_unfolding_all refine' gs_textB (σ := WC) (fun c => [(c.cl, W.listOf c.cvs.toArray c.cn)]) (fun c => [("count", .ref c.cl), ("b", .int c.b c.tb), ("n", .int c.n c.tn), ("nt", .int c.nt c.tnt)]) [] (fun i c => IntsAre c.cvs c.ct ∧ (@LT.lt Nat _ d' c.cl ∧ @LT.lt Nat _ x' c.cl ∧ @LT.lt Nat _ Dq c.cl) ∧ (0 ≤ c.b ∧ c.b ≤ i) ∧ (0 ≤ c.n ∧ c.n ≤ i) ∧ (0 ≤ c.nt ∧ c.nt ≤ i) ∧ c.ct.length ≤ i ∧ wsAt lead.cps i ⟨c.ct, c.b, c.n, c.nt⟩) (fun c => IntsAre c.cvs c.ct ∧ (@LT.lt Nat _ d' c.cl ∧ @LT.lt Nat _ x' c.cl ∧ @LT.lt Nat _ Dq c.cl) ∧ c.ct.length ≤ 10 ∧ ⟨c.ct, c.b, c.n, c.nt⟩ = wsRun lead.cps.toList ws0) ⟨_, 0, [], [], 0, 0, 0, _, _, _⟩ (by rfl) lF ?kn ?kk ?kp ?kt ?ks ?kd
  case kn => exact NN
  case kk => kst_all
  case kp => dsimp only; exact ⟨IntsAre.nil, ⟨by omega, by omega, by omega⟩, ⟨by omega, by omega⟩, ⟨by omega, by omega⟩, ⟨by omega, by omega⟩, by simp, wsAt_0 _⟩
  case kt =>
    rintro leave ⟨cl, cn, cvs, ct, b, n, nt, tb, tn, tnt⟩ i nch tch I oI u hh tk hch ⟨hI, ⟨hcl1, hcl2, hcl3⟩, ⟨hb0, hb1⟩, ⟨hn0, hn1⟩, ⟨hnt0, hnt1⟩, hlen, hat⟩ hne lF' NN'
    dsimp only [List.cons_append, List.nil_append] at hI hcl1 hcl2 hcl3 hb0 hb1 hn0 hn1 hnt0 hnt1 hlen hat hne lF' NN' ⊢
    k_fold
    have hIc := neN (hne _ (List.Mem.head _))
    have hId := neN (hne _ (List.Mem.tail _ (List.Mem.head _)))
    have hIx := neN (hne _ (List.Mem.tail _ (List.Mem.tail _ (List.Mem.head _))))
    have hIy := neN (hne _ (List.Mem.tail _ (List.Mem.tail _ (List.Mem.tail _ (List.Mem.head _)))))
    dsimp only at hIc hId hIx hIy
    have hi10 : i < 10 := Nat.lt_of_lt_of_le (Array.getElem?_eq_some_iff.mp hch).1 hl
    have hcv : cvs.length = ct.length := hI.length
    have hcv10 : cvs.length ≤ 10 := by omega
    have hcv10' : cvs.toArray.size ≤ 10 := by simpa using hcv10
    k_steps
    · refine gend ⟨cl, cn, cvs, ct, b + 1, n + 1, nt, _, _, tnt⟩ (by k_asm) (by k_asm) (by kst_in) (by k_mem) hne (by kst_all) (by kst_same) ?_
      dsimp only
      exact ⟨hI, ⟨hcl1, hcl2, hcl3⟩, ⟨by omega, by omega⟩, ⟨by omega, by omega⟩, ⟨by omega, by omega⟩, by omega, wsAt_step hat hch (.inl (sp_eq (by assumption))) (step_sp (sp_eq (by assumption)))⟩
    · refine gend ⟨_, _, _, bump ct b.toNat, 0, n + 1, nt + 1, _, _, _⟩ (by k_asm) (by k_asm) (by kst_in) (by k_mem) ?_ (by kst_all) (by kst_same) ?_
      · exact List.forall_mem_cons.mpr ⟨by k_ne, fun p hp => hne p (List.mem_cons_of_mem _ hp)⟩
      · dsimp only
        refine ⟨by rw [← bump_big (by assumption)]; assumption, ⟨by omega, by omega, by omega⟩, ⟨by omega, by omega⟩, ⟨by omega, by omega⟩, ⟨by omega, by omega⟩, ?_, wsAt_step hat hch (.inr (tab_eq (by assumption))) (step_tab (sp_ne (by assumption)) rfl)⟩
        rw [bump_len]; split <;> omega
    · refine gend ⟨cl, cn, _, bump ct b.toNat, 0, n + 1, nt + 1, _, _, _⟩ (by k_asm) (by k_asm) (by kst_in) (by k_mem) ?_ (by kst_all) (by kst_same) ?_
      · exact List.forall_mem_cons.mpr ⟨by k_ne, fun p hp => hne p (List.mem_cons_of_mem _ hp)⟩
      · dsimp only
        refine ⟨by rw [← bump_small hb0 (by assumption)]; assumption, ⟨hcl1, hcl2, hcl3⟩, ⟨by omega, by omega⟩, ⟨by omega, by omega⟩, ⟨by omega, by omega⟩, ?_, wsAt_step hat hch (.inr (tab_eq (by assumption))) (step_tab (sp_ne (by assumption)) rfl)⟩
        rw [bump_len]; split <;> omega
    · dsimp only
      k_steps
      dsimp only [GPost]
      exact leave ⟨cl, cn, cvs, ct, b, n, nt, tb, tn, tnt⟩ _ _ _ ⟨hI, ⟨hcl1, hcl2, hcl3⟩, Nat.le_trans hlen (Nat.le_of_lt hi10), wsAt_stop hat hch (sp_ne (by assumption)) (tab_ne (by assumption))⟩ lF' (fun p hp => NN' p (.tail _ hp))
  case ks =>
    rintro ⟨cl, cn, cvs, ct, b, n, nt, tb, tn, tnt⟩ ⟨hI, hcl, -, -, -, hlen, hat⟩
    exact ⟨hI, hcl, Nat.le_trans hlen hl, wsAt_end hat⟩
  case kd =>
    rintro ⟨cl, cn, cvs, ct, b, n, nt, tb, tn, tnt⟩ u hh tk ⟨hI, ⟨hcl1, hcl2, hcl3⟩, hlen, hend⟩ lF' NN'
    dsimp only [List.cons_append, List.nil_append] at *
    have hcv : cvs.length = ct.length := hI.length
    have hcv10 : cvs.length ≤ 10 := by rw [hcv]; exact hlen
    have hcv10' : cvs.toArray.size ≤ 10 := by simpa using hcv10
    k_steps
    rename (_ ∧ _ ∧ _ ∧ _ ∧ _ ∧ AllLt _ _) => hlA
    rename (_ ∧ _ ∧ _ ∧ _ ∧ AllLt _ _) => hlB
    refine' hret _ (wsLed w.params ⟨x', d', _, _, _, cvs, _, _, _, _, _, _, _, _⟩ ⟨ct, b, n, nt⟩) _ _ (by k_asm) (KStt.news_of (by k_asm) ?kin2) ⟨⟨x', d', _, _, _, cvs, _, _, _, _, _, _, _, _⟩, rfl, fun p hp => ⟨l1 p hp, Nat.lt_trans (l1 p hp) l2', ktn_ltOf hlA.2.2.2.2.2 p hp, ktn_ltOf hlB.2.2.2.2 p hp⟩, ?k12, ?k22⟩
    case kin2 => dsimp only [wsLed, wsDict]; kst_in
    case k12 => rw [← hend]; exact hI
    case k22 => rw [← hend]
end Mine
end
noncomputable section
open PySem PySem.W PyProof.Rows PySem.Calls
set_option maxRecDepth 100000
set_option maxHeartbeats 8000000
namespace Mine

noncomputable def run1 (st : WSt) : Int := max ((st.ct.length : Int) - 1) st.b
theorem longest (w : World) (mean : ExcName → Option Value) (mg mb : Str → Option Value) (news : List (Addr × Obj)) (a : WsA) (st : WSt) (ha : WsOk a st) :
  SpecN 5 40 w mean mg mb 79 (wsLed w.params a st ++ news) [.ref a.x] (fun r tl => tl = [] ∧ ∃ t, r = .int (run1 st) t) := by
  obtain ⟨hi, hl, hb0, hb1, hc⟩ := ha
  obtain ⟨x, dx, tn, tc, raw, cvs, k1, k2, k3, k4, k5, t1, t2, t3⟩ := a
  obtain ⟨ct, b, n, nt⟩ := st
  dsimp only at *
  w_top off
  k_with_none
  k_with "omega" => with_reducible first | assumption | exact Nat.le_refl _ | exact Nat.le_of_lt (by assumption) | exact Ne.symm (by assumption) | exact Nat.ne_of_gt (by assumption) | exact Nat.ne_of_lt (by assumption) | exact Int.le_add_one (by assumption) | exact cast_up (by assumption) | exact cast_le (by assumption) | exact Nat.le_trans (by assumption) (by decide) | exact Nat.lt_of_le_of_lt (by assumption) (by decide) | exact Nat.lt_of_lt_of_le (by assumption) (by decide) | (refine Nat.le_trans ?_ (by assumption); decide) | exact Nat.lt_trans (by assumption) (by assumption) | (rename (_ ∧ _) => hx; first | exact hx.1 | exact hx.2.1 | exact hx.2.2.1 | exact hx.2.2.2.1 | exact hx.2.2.2.2.1 | exact hx.2.2.2.2.2.1 | exact hx.2.2.2.2.2.2.1 | exact Nat.ne_of_gt hx.1 | exact Nat.ne_of_gt hx.2.1 | exact Nat.ne_of_gt hx.2.2.1 | exact Nat.ne_of_gt hx.2.2.2.1 | exact Nat.ne_of_gt hx.2.2.2.2.1 | exact Nat.ne_of_gt hx.2.2.2.2.2.1 | exact Nat.ne_of_gt hx.2.2.2.2.2.2.1 | exact Nat.le_of_lt hx.1 | exact Nat.le_of_lt hx.2.1 | exact Nat.le_of_lt hx.2.2.1 | exact Nat.le_of_lt hx.2.2.2.1 | fail) | fail
  unfold SpecN
  k_fill
  dsimp only [wsLed, List.cons_append, List.nil_append]
  intros; rename_i hret
  refine wpAny_call ?_
  k_dflt cell_enter
  with_reducible show (let A' := _; wpAny _ A' _ _ _ _)
  intro A'
  have hcv : cvs.length = ct.length := hi.length
  have hcv10' : cvs.toArray.size ≤ 10 := by simp; omega
  k_steps
  refine hret _ [] _ _ (by k_asm) (by k_asm) ⟨rfl, ktn_int ?_⟩
  unfold run1
  simp only [List.size_toArray, hcv]
  split <;> omega
noncomputable def lvStep (ts : Int) (ct : List Int) (il i : Int) : Int := il + i / ts * ct.getD i.toNat 0
noncomputable def level (st : WSt) (ts : Int) : Int := st.b + ts * ((rangeKs ts (st.ct.length - ts).toNat).foldl (lvStep ts st.ct) 0 + st.nt)
theorem mulOkR {a b : Int} (h : 0 ≤ b ∧ b ≤ 2000) : IntMulOk a b := IntMulOk.of_right (intBits_le_64 (by omega) (by omega))
theorem mulOkL {a b : Int} (h0 : 1 ≤ a) (h : a ≤ 2000) : IntMulOk a b := IntMulOk.of_left (intBits_le_64 (by omega) (by omega))
theorem lv_t {ts c n : Int} {ct pre : List Int} (h : 1 ≤ ts) (e : c = pre.foldl (lvStep ts ct) 0) : c + n.fdiv ts * ct.getD n.toNat 0 = (pre ++ [n]).foldl (lvStep ts ct) 0 := by
  rw [List.foldl_append, ← e, Int.fdiv_eq_ediv_of_nonneg n (by omega)]; rfl
theorem indent (w : World) (mean : ExcName → Option Value) (mg mb : Str → Option Value) (news : List (Addr × Obj)) (a : WsA) (st : WSt) (ts : Int) (tk : Tok) (ha : WsOk a st) (hts : 1 ≤ ts) (hts2 : ts ≤ 2000) :
  SpecN 5 40 w mean mg mb 86 (wsLed w.params a st ++ news) [.ref a.x, .int ts tk] (fun r tl => tl = [] ∧ ∃ t, r = .int (level st ts) t) := by
  obtain ⟨hi, hl, hb0, hb1, hc⟩ := ha
  obtain ⟨x, dx, tn, tc, raw, cvs, k1, k2, k3, k4, k5, t1, t2, t3⟩ := a
  obtain ⟨ct, b, n, nt⟩ := st
  dsimp only [level] at *
  w_top off
  k_with_none
  k_with "omega" => with_reducible first | assumption | exact Nat.le_refl _ | exact Nat.le_of_lt (by assumption) | exact Ne.symm (by assumption) | exact Nat.ne_of_gt (by assumption) | exact Nat.ne_of_lt (by assumption) | exact Int.le_add_one (by assumption) | exact cast_up (by assumption) | exact cast_le (by assumption) | exact Nat.le_trans (by assumption) (by decide) | exact Nat.lt_of_le_of_lt (by assumption) (by decide) | exact Nat.lt_of_lt_of_le (by assumption) (by decide) | (refine Nat.le_trans ?_ (by assumption); decide) | exact Nat.lt_trans (by assumption) (by assumption) | (rename (_ ∧ _) => hx; first | exact hx.1 | exact hx.2.1 | exact hx.2.2.1 | exact hx.2.2.2.1 | exact hx.2.2.2.2.1 | exact hx.2.2.2.2.2.1 | exact hx.2.2.2.2.2.2.1 | exact Nat.ne_of_gt hx.1 | exact Nat.ne_of_gt hx.2.1 | exact Nat.ne_of_gt hx.2.2.1 | exact Nat.ne_of_gt hx.2.2.2.1 | exact Nat.ne_of_gt hx.2.2.2.2.1 | exact Nat.ne_of_gt hx.2.2.2.2.2.1 | exact Nat.ne_of_gt hx.2.2.2.2.2.2.1 | exact Nat.le_of_lt hx.1 | exact Nat.le_of_lt hx.2.1 | exact Nat.le_of_lt hx.2.2.1 | exact Nat.le_of_lt hx.2.2.2.1 | fail) | fail
  unfold SpecN
  k_fill
  dsimp only [wsLed, List.cons_append, List.nil_append]
  intros; rename_i hret
  refine wpAny_call ?_
  k_dflt cell_enter
  have hcv : cvs.length = ct.length := hi.length
  have hcv10' : cvs.toArray.size ≤ 10 := by simp; omega
  k_with "pyIter ref" => k_state (fun pre il => il = pre.foldl (lvStep ts ct) 0) "il"
  k_with "state" => exact lv_t hts (by assumption)
  k_with "binaryOp Mult int int" => first | refine mul_int ?_ (mulOkR (hc _)) | refine mul_int ?_ (mulOkL hts hts2)
  k_steps
  exact hret _ [] _ _ (by k_asm) (by k_asm) ⟨rfl, ktn_int (by rw [kInv])⟩
end Mine
end
noncomputable section
open PySem PySem.W PyProof.Rows PySem.Calls PySem.SeqAt
namespace Mine
noncomputable def bound2 (st st' : WSt) : Int := (if run1 st' > run1 st then run1 st' else run1 st) + 1
theorem run1_b {a : WsA} {st : WSt} (h : WsOk a st) : 0 ≤ run1 st ∧ run1 st ≤ 10 := by
  have := h.hl; have := h.hb0; have := h.hb1; unfold run1; omega
theorem bound2_b {a a' : WsA} {st st' : WSt} (h : WsOk a st) (h' : WsOk a' st') : 1 ≤ bound2 st st' ∧ bound2 st st' ≤ 11 := by
  have := run1_b h; have := run1_b h'; unfold bound2; split <;> omega
noncomputable def lessB (st st' : WSt) : Bool :=
  if st'.n ≤ st.n then false else if (st.ct.length : Int) ≤ 1 ∧ (st'.ct.length : Int) ≤ 1 then decide (st.nt ≤ st'.nt)
  else (rangeKs 2 (bound2 st st' + 1 - 2).toNat).all fun v => decide (level st v < level st' v)
theorem less_1 {st st' : WSt} (h : st'.n ≤ st.n) : false = lessB st st' := by unfold lessB; rw [if_pos h]
theorem less_2 {st st' : WSt} (h : ¬ st'.n ≤ st.n) (h1 : (st.ct.length : Int) ≤ 1) (h2 : (st'.ct.length : Int) ≤ 1) : decide (st.nt ≤ st'.nt) = lessB st st' := by unfold lessB; rw [if_neg h, if_pos ⟨h1, h2⟩]
theorem less_3 {st st' : WSt} {k : Int} {pre : List Int} (h : ¬ st'.n ≤ st.n) (h1 : ¬ ((st.ct.length : Int) ≤ 1 ∧ (st'.ct.length : Int) ≤ 1)) (e : k = 2 + (pre.length : Int)) (hl : pre.length < (bound2 st st' + 1 - 2).toNat) (hk : level st' k ≤ level st k) : false = lessB st st' := by
  unfold lessB; rw [if_neg h, if_neg h1]
  refine (Bool.eq_false_iff.mpr fun q => ?_).symm
  have := of_decide_eq_true (List.all_eq_true.mp q k (List.mem_map.mpr ⟨pre.length, List.mem_range.mpr hl, e.symm⟩))
  omega
theorem less_4 {st st' : WSt} (h : ¬ st'.n ≤ st.n) (h1 : ¬ ((st.ct.length : Int) ≤ 1 ∧ (st'.ct.length : Int) ≤ 1)) (q : ∀ v ∈ rangeKs 2 (bound2 st st' + 1 - 2).toNat, level st v < level st' v) : true = lessB st st' := by
  unfold lessB; rw [if_neg h, if_neg h1]; exact (List.all_eq_true.mpr fun v hv => decide_eq_true (q v hv)).symm

theorem reads_norm {h₀ h : Heap} {L : Addr} {news : List (Addr × Obj)} {tn tc : Addr} {cvs : List Value} {ct : List Int} {b : Int} {t : Tok} (N : News h₀ L h news)
    (h1 : (tn, ({ cls := .type "tuple", data := .seq #[.ref tc, .int b t] } : Obj)) ∈ news) (h2 : (tc, ({ cls := .type "tuple", data := .seq cvs.toArray } : Obj)) ∈ news) (hi : IntsAre cvs ct) :
    Reads h (.ref tn) (.tuple [.tuple (ct.map .int), .int b]) ([] ++ ([] ++ [])) :=
  reads_tuple_at (N.get h1) rfl rfl (.cons (reads_tuple_at (N.get h2) rfl rfl (hi.reads h)) (.cons (.int _ _) .nil))
theorem shaped_norm (ct : List Int) (b : Int) : shaped (.tuple [.tuple (ct.map .int), .int b]) = true := by
  simp [shaped, PyData.canLay0, PyData.canLayAll0, PyData.depth, PyData.depthAll, ke_canLayAll0, ke_depthAll]
theorem eqv_norm (ct ct' : List Int) (b b' : Int) : PyData.eqv (.tuple [.tuple (ct.map .int), .int b]) (.tuple [.tuple (ct'.map .int), .int b']) = decide (ct = ct' ∧ b = b') := by
  simp only [PyData.eqv, PyData.eqvAll, ked_eqvAll, Bool.and_true]
  by_cases h : ct = ct' <;> by_cases h' : b = b' <;> simp [h, h']

/-- one witness as it lies -/
structure WT where
  ad : Addr
  ts : Int
  l1 : Int
  l2 : Int
  t1 : Tok
  t2 : Tok
  t3 : Tok
noncomputable abbrev WT.obj (e : WT) : Obj := { cls := .type "tuple", data := .seq #[.int e.ts e.t1, .int e.l1 e.t2, .int e.l2 e.t3] }
noncomputable abbrev WT.ent (e : WT) : Addr × Obj := (e.ad, e.obj)
noncomputable abbrev WT.val (e : WT) : Value := .ref e.ad
noncomputable abbrev witLed (D : Addr) (n : Nat) (es : List WT) : List (Addr × Obj) := (D, W.listOf (es.map WT.val).toArray n) :: es.map WT.ent
noncomputable def WT.fig (e : WT) : Int × Int × Int := (e.ts, e.l1, e.l2)
noncomputable def wits (c : WSt → WSt → Int → Bool) (st st' : WSt) (n : Nat) : List (Int × Int × Int) := ((rangeKs 1 n).filter (c st st')).map fun ts => (ts, level st ts, level st' ts)
noncomputable def cLow (st st' : WSt) (ts : Int) : Bool := decide (level st' ts ≤ level st ts)
noncomputable def cOdd (st st' : WSt) (ts : Int) : Bool := !decide (level st ts = level st' ts)
theorem rangeKs_snoc (a : Int) (n : Nat) : rangeKs a (n + 1) = rangeKs a n ++ [a + (n : Int)] := by
  unfold rangeKs; rw [List.range_succ, List.map_append]; rfl
theorem wits_yes {c : WSt → WSt → Int → Bool} {st st' : WSt} {i : Nat} (h : c st st' (1 + (i : Int)) = true) : wits c st st' (i + 1) = wits c st st' i ++ [(1 + (i : Int), level st (1 + (i : Int)), level st' (1 + (i : Int)))] := by
  unfold wits; rw [rangeKs_snoc, List.filter_append, List.map_append]; simp [h]
theorem wits_no {c : WSt → WSt → Int → Bool} {st st' : WSt} {i : Nat} (h : c st st' (1 + (i : Int)) = false) : wits c st st' (i + 1) = wits c st st' i := by
  unfold wits; rw [rangeKs_snoc, List.filter_append, List.map_append]; simp [h]
theorem ents_ne {h₀ h : Heap} {L D : Addr} {news : List (Addr × Obj)} {o : Obj} {es : List WT} (N : News h₀ L h news) (hD : (D, o) ∈ news) (ho : o.cls = .type "list") (hs : ∀ p ∈ es.map WT.ent, p ∈ news) : ∀ p ∈ es.map WT.ent, p.1 ≠ D := fun p hp => by
  obtain ⟨e, _, rfl⟩ := List.mem_map.mp hp
  exact ne_of_news N (hs _ hp) hD (by rw [ho]; exact fun q => absurd (Value.type.inj q) (by decide))
theorem witLed_snoc {D : Addr} {n : Nat} {es : List WT} (e : WT) {P : Addr × Obj → Prop} (h1 : P (D, W.listOf ((es.map WT.val).toArray.push (.ref e.ad)) (n + 1))) (h2 : P e.ent) (h3 : ∀ p ∈ es.map WT.ent, P p) : ∀ p ∈ witLed D (n + 1) (es ++ [e]), P p := by
  intro p hp
  rcases List.mem_cons.mp hp with rfl | hp
  · have : ((es ++ [e]).map WT.val).toArray = (es.map WT.val).toArray.push (.ref e.ad) := by simp
    rw [this]; exact h1
  · rw [List.map_append] at hp
    rcases List.mem_append.mp hp with hp | hp
    · exact h3 p hp
    · rw [List.mem_singleton.mp hp]; exact h2
theorem wits_len (c : WSt → WSt → Int → Bool) (st st' : WSt) (i : Nat) : (wits c st st' i).length ≤ i := by
  unfold wits
  rw [List.length_map]
  exact Nat.le_trans (List.length_filter_le _ _) (Nat.le_of_eq (rangeKs_length _ _))
theorem es_size {c : WSt → WSt → Int → Bool} {st st' : WSt} {i : Nat} {es : List WT} (h : es.map WT.fig = wits c st st' i) (hi : i ≤ 20) : (es.map WT.val).toArray.size ≤ 20 := by
  have := congrArg List.length h
  have := wits_len c st st' i
  simp at *; omega
theorem cLow_t {st st' : WSt} {k : Int} (h : level st' k ≤ level st k) : cLow st st' k = true := decide_eq_true h
theorem cLow_f {st st' : WSt} {k : Int} (h : ¬ level st' k ≤ level st k) : cLow st st' k = false := decide_eq_false h
theorem cOdd_t {st st' : WSt} {k : Int} (h : level st k ≠ level st' k) : cOdd st st' k = true := by unfold cOdd; rw [decide_eq_false h]; rfl
theorem cOdd_f {st st' : WSt} {k : Int} (h : level st k = level st' k) : cOdd st st' k = false := by unfold cOdd; rw [decide_eq_true h]; rfl
structure WLst where
  D : Addr
  n : Nat
  es : List WT
end Mine
end
noncomputable section
open PySem PySem.W PyProof.Rows PySem.Calls
set_option maxRecDepth 100000
set_option maxHeartbeats 8000000
namespace Mine

theorem less (w : World) (mean : ExcName → Option Value) (mg mb : Str → Option Value) (news : List (Addr × Obj)) (a a' : WsA) (st st' : WSt) (ha : WsOk a st) (ha' : WsOk a' st') :
  SpecN 10 80 w mean mg mb 107 (wsLed w.params a st ++ (wsLed w.params a' st' ++ news)) [.ref a.x, .ref a'.x] (fun r tl => tl = [] ∧ r = .bool (lessB st st')) := by
  obtain ⟨hi, hl, hb0, hb1, hc⟩ := id ha
  obtain ⟨hi', hl', hb0', hb1', hc'⟩ := id ha'
  w_top off
  k_with_none
  k_with "omega" => with_reducible first | assumption | exact Nat.le_refl _ | exact Nat.le_of_lt (by assumption) | exact Ne.symm (by assumption) | exact Nat.ne_of_gt (by assumption) | exact Nat.ne_of_lt (by assumption) | exact Int.le_add_one (by assumption) | exact cast_up (by assumption) | exact cast_le (by assumption) | exact Nat.le_trans (by assumption) (by decide) | exact Nat.lt_of_le_of_lt (by assumption) (by decide) | exact Nat.lt_of_lt_of_le (by assumption) (by decide) | (refine Nat.le_trans ?_ (by assumption); decide) | exact Nat.lt_trans (by assumption) (by assumption) | (rename (_ ∧ _) => hx; first | exact hx.1 | exact hx.2.1 | exact hx.2.2.1 | exact hx.2.2.2.1 | exact hx.2.2.2.2.1 | exact hx.2.2.2.2.2.1 | exact hx.2.2.2.2.2.2.1 | exact Nat.ne_of_gt hx.1 | exact Nat.ne_of_gt hx.2.1 | exact Nat.ne_of_gt hx.2.2.1 | exact Nat.ne_of_gt hx.2.2.2.1 | exact Nat.ne_of_gt hx.2.2.2.2.1 | exact Nat.ne_of_gt hx.2.2.2.2.2.1 | exact Nat.ne_of_gt hx.2.2.2.2.2.2.1 | exact Nat.le_of_lt hx.1 | exact Nat.le_of_lt hx.2.1 | exact Nat.le_of_lt hx.2.2.1 | exact Nat.le_of_lt hx.2.2.2.1 | fail) | fail
  k_with "k_all" => first | exact all_ne_of_lt (by assumption) (by omega) | exact all_ne_of_lt' (by assumption) (by omega) | (refine List.forall_mem_append.mpr ⟨?kaa, ?kab⟩; (case kaa => first | assumption | k_all); (case kab => k_all))
  k_with "k_ne" => first | (refine neN ?_; (try dsimp only); omega) | (refine neN (ne_of_news (by k_asm) (by k_mem) (by k_mem) ?_); intro hq; first | exact absurd (Value.type.inj hq) (by decide) | cases hq)
  k_with "kst_same" => (intro z h1 h2 h3; (simp only [List.forall_mem_cons, List.not_mem_nil, false_implies, implies_true, and_true, ne_eq] at h2); (simp [kstB, h1, h2]; done))
  k_with "call ref" => (k_here; (try dsimp only [List.append_nil]); k_dflt ((refine' SpecN.use (longest _ _ _ _ _ _ _ ?k1) ?kh ?kA ?kB ?kF ?kX ?kN ?kT ?kK ?kd ?ku ?ks ?_); (case kh => rfl); (case kA => rfl); (case kB => k_asm); (case kF => k_asm); (case kX => k_asm); (case kT => k_asm); (case kN => k_asm); (case kK => rfl); (case k1 => assumption); (case kd => ktr_room); (case ku => ktr_units); (case ks => kst_in); k_whole); intro r' tl' h' tk' F' N' ho'; obtain ⟨e1', t', e2'⟩ := ho'; subst e1' e2'; (try dsimp only [List.nil_append] at N'))
  k_with "call ref" => (k_here; (try dsimp only [List.append_nil]); k_dflt ((refine' SpecN.use (indent _ _ _ _ _ _ _ _ _ ?k1 ?k2 ?k3) ?kh ?kA ?kB ?kF ?kX ?kN ?kT ?kK ?kd ?ku ?ks ?_); (case kh => rfl); (case kA => rfl); (case kB => k_asm); (case kF => k_asm); (case kX => k_asm); (case kT => k_asm); (case kN => k_asm); (case kK => rfl); (case k1 => assumption); (case k2 => omega); (case k3 => omega); (case kd => ktr_room); (case ku => ktr_units); (case ks => kst_in); k_whole); intro r' tl' h' tk' F' N' ho'; obtain ⟨e1', t', e2'⟩ := ho'; subst e1' e2'; (try dsimp only [List.nil_append] at N'))
  unfold SpecN
  k_fill
  dsimp only [wsLed, List.cons_append, List.nil_append]
  intros; rename_i hret
  refine wpAny_call ?_
  k_dflt cell_enter
  have hcv : a.cvs.length = st.ct.length := hi.length
  have hcv10' : a.cvs.toArray.size ≤ 10 := by simp; omega
  have hcv' : a'.cvs.length = st'.ct.length := hi'.length
  have hcv10'' : a'.cvs.toArray.size ≤ 10 := by simp; omega
  have hr := run1_b ha
  have hr' := run1_b ha'
  clear hb0 hb1 hb0' hb1'

  k_with "pyIter ref" => k_search (fun pre => ∀ v ∈ pre, level st v < level st' v)
  k_steps
  · exact hret _ [] _ _ (by k_asm) (by k_asm) ⟨rfl, congrArg Value.bool (less_1 (by assumption))⟩
  · exact hret _ [] _ _ (by k_asm) (by k_asm) ⟨rfl, congrArg Value.bool (less_2 (by assumption) (by assumption) (by assumption))⟩
  · exact hret _ [] _ _ (by k_asm) (KStt.news_of (by k_asm) (by dsimp only [List.nil_append]; kst_in)) ⟨rfl, congrArg Value.bool (less_3 (by assumption) (by omega) kEq kLt (by assumption))⟩
  · exact hret _ [] _ _ (by k_asm) (by k_asm) ⟨rfl, congrArg Value.bool (less_4 (by assumption) (by omega) kInv)⟩
  · exact hret _ [] _ _ (by k_asm) (KStt.news_of (by k_asm) (by dsimp only [List.nil_append]; kst_in)) ⟨rfl, congrArg Value.bool (less_3 (by assumption) (by omega) kEq kLt (by assumption))⟩
  · exact hret _ [] _ _ (by k_asm) (by k_asm) ⟨rfl, congrArg Value.bool (less_4 (by assumption) (by omega) kInv)⟩

theorem equal (w : World) (mean : ExcName → Option Value) (mg mb : Str → Option Value) (news : List (Addr × Obj)) (a a' : WsA) (st st' : WSt) (ha : WsOk a st) (ha' : WsOk a' st') :
  SpecN 10 80 w mean mg mb 93 (wsLed w.params a st ++ (wsLed w.params a' st' ++ news)) [.ref a.x, .ref a'.x] (fun r tl => tl = [] ∧ r = .bool (decide (st.ct = st'.ct ∧ st.b = st'.b))) := by
  obtain ⟨hi, hl, hb0, hb1, hc⟩ := id ha
  obtain ⟨hi', hl', hb0', hb1', hc'⟩ := id ha'
  w_top off
  k_with_none
  k_with "omega" => with_reducible first | assumption | exact Nat.le_refl _ | exact Nat.le_of_lt (by assumption) | exact Ne.symm (by assumption) | exact Nat.ne_of_gt (by assumption) | exact Nat.ne_of_lt (by assumption) | exact Int.le_add_one (by assumption) | exact cast_up (by assumption) | exact cast_le (by assumption) | exact Nat.le_trans (by assumption) (by decide) | exact Nat.lt_of_le_of_lt (by assumption) (by decide) | exact Nat.lt_of_lt_of_le (by assumption) (by decide) | (refine Nat.le_trans ?_ (by assumption); decide) | exact Nat.lt_trans (by assumption) (by assumption) | (rename (_ ∧ _) => hx; first | exact hx.1 | exact hx.2.1 | exact hx.2.2.1 | exact hx.2.2.2.1 | exact hx.2.2.2.2.1 | exact hx.2.2.2.2.2.1 | exact hx.2.2.2.2.2.2.1 | exact Nat.ne_of_gt hx.1 | exact Nat.ne_of_gt hx.2.1 | exact Nat.ne_of_gt hx.2.2.1 | exact Nat.ne_of_gt hx.2.2.2.1 | exact Nat.ne_of_gt hx.2.2.2.2.1 | exact Nat.ne_of_gt hx.2.2.2.2.2.1 | exact Nat.ne_of_gt hx.2.2.2.2.2.2.1 | exact Nat.le_of_lt hx.1 | exact Nat.le_of_lt hx.2.1 | exact Nat.le_of_lt hx.2.2.1 | exact Nat.le_of_lt hx.2.2.2.1 | fail) | fail
  k_with "k_all" => first | exact all_ne_of_lt (by assumption) (by omega) | exact all_ne_of_lt' (by assumption) (by omega) | (refine List.forall_mem_append.mpr ⟨?kaa, ?kab⟩; (case kaa => first | assumption | k_all); (case kab => k_all))
  k_with "k_ne" => first | (refine neN ?_; (try dsimp only); omega) | (refine neN (ne_of_news (by k_asm) (by k_mem) (by k_mem) ?_); intro hq; first | exact absurd (Value.type.inj hq) (by decide) | cases hq)
  k_with "kst_same" => (intro z h1 h2 h3; (simp only [List.forall_mem_cons, List.not_mem_nil, false_implies, implies_true, and_true, ne_eq] at h2); (simp [kstB, h1, h2]; done))
  k_with "call ref" => (k_here; (try dsimp only [List.append_nil]); k_dflt ((refine' SpecN.use (longest _ _ _ _ _ _ _ ?k1) ?kh ?kA ?kB ?kF ?kX ?kN ?kT ?kK ?kd ?ku ?ks ?_); (case kh => rfl); (case kA => rfl); (case kB => k_asm); (case kF => k_asm); (case kX => k_asm); (case kT => k_asm); (case kN => k_asm); (case kK => rfl); (case k1 => assumption); (case kd => ktr_room); (case ku => ktr_units); (case ks => kst_in); k_whole); intro r' tl' h' tk' F' N' ho'; obtain ⟨e1', t', e2'⟩ := ho'; subst e1' e2'; (try dsimp only [List.nil_append] at N'))
  k_with "call ref" => (k_here; (try dsimp only [List.append_nil]); k_dflt ((refine' SpecN.use (indent _ _ _ _ _ _ _ _ _ ?k1 ?k2 ?k3) ?kh ?kA ?kB ?kF ?kX ?kN ?kT ?kK ?kd ?ku ?ks ?_); (case kh => rfl); (case kA => rfl); (case kB => k_asm); (case kF => k_asm); (case kX => k_asm); (case kT => k_asm); (case kN => k_asm); (case kK => rfl); (case k1 => assumption); (case k2 => omega); (case k3 => omega); (case kd => ktr_room); (case ku => ktr_units); (case ks => kst_in); k_whole); intro r' tl' h' tk' F' N' ho'; obtain ⟨e1', t', e2'⟩ := ho'; subst e1' e2'; (try dsimp only [List.nil_append] at N'))
  unfold SpecN
  k_fill
  dsimp only [wsLed, List.cons_append, List.nil_append]
  intros; rename_i hret
  refine wpAny_call ?_
  k_dflt cell_enter
  have hcv : a.cvs.length = st.ct.length := hi.length
  have hcv10' : a.cvs.toArray.size ≤ 10 := by simp; omega
  have hcv' : a'.cvs.length = st'.ct.length := hi'.length
  have hcv10'' : a'.cvs.toArray.size ≤ 10 := by simp; omega

  k_with "compareOp Eq ref ref" => (refine eq_dataH (reads_norm (by k_asm) (by k_mem) (by k_mem) hi) (reads_norm (by k_asm) (by k_mem) (by k_mem) hi') (shaped_norm _ _) (shaped_norm _ _) (by ktr_units) ?_; rw [eqv_norm])
  k_steps
  exact hret _ [] _ _ (by k_asm) (by k_asm) ⟨rfl, rfl⟩
end Mine
end
noncomputable section
open PySem PySem.W PyProof.Rows PySem.Calls
set_option maxRecDepth 100000
set_option maxHeartbeats 8000000
namespace Mine

theorem lowW (w : World) (mean : ExcName → Option Value) (mg mb : Str → Option Value) (news : List (Addr × Obj)) (a a' : WsA) (st st' : WSt) (ha : WsOk a st) (ha' : WsOk a' st') :
  SpecN 10 80 w mean mg mb 114 (wsLed w.params a st ++ (wsLed w.params a' st' ++ news)) [.ref a.x, .ref a'.x] (fun r tl => ∃ D n es, r = .ref D ∧ tl = witLed D n es ∧ (∀ p ∈ news, @LT.lt Nat _ p.1 D) ∧ es.map WT.fig = wits cLow st st' (bound2 st st').toNat) := by
  obtain ⟨hi, hl, hb0, hb1, hc⟩ := id ha
  obtain ⟨hi', hl', hb0', hb1', hc'⟩ := id ha'
  w_top off
  k_with_none
  k_with "omega" => with_reducible first | assumption | exact Nat.le_refl _ | exact Nat.le_of_lt (by assumption) | exact Ne.symm (by assumption) | exact Nat.ne_of_gt (by assumption) | exact Nat.ne_of_lt (by assumption) | exact Int.le_add_one (by assumption) | exact cast_up (by assumption) | exact cast_le (by assumption) | exact Nat.le_trans (by assumption) (by decide) | exact Nat.lt_of_le_of_lt (by assumption) (by decide) | exact Nat.lt_of_lt_of_le (by assumption) (by decide) | (refine Nat.le_trans ?_ (by assumption); decide) | exact Nat.lt_trans (by assumption) (by assumption) | (rename (_ ∧ _) => hx; first | exact hx.1 | exact hx.2.1 | exact hx.2.2.1 | exact hx.2.2.2.1 | exact hx.2.2.2.2.1 | exact hx.2.2.2.2.2.1 | exact hx.2.2.2.2.2.2.1 | exact Nat.ne_of_gt hx.1 | exact Nat.ne_of_gt hx.2.1 | exact Nat.ne_of_gt hx.2.2.1 | exact Nat.ne_of_gt hx.2.2.2.1 | exact Nat.ne_of_gt hx.2.2.2.2.1 | exact Nat.ne_of_gt hx.2.2.2.2.2.1 | exact Nat.ne_of_gt hx.2.2.2.2.2.2.1 | exact Nat.le_of_lt hx.1 | exact Nat.le_of_lt hx.2.1 | exact Nat.le_of_lt hx.2.2.1 | exact Nat.le_of_lt hx.2.2.2.1 | fail) | fail
  k_with "k_all" => first | exact all_ne_of_lt (by assumption) (by omega) | exact all_ne_of_lt' (by assumption) (by omega) | (refine List.forall_mem_append.mpr ⟨?kaa, ?kab⟩; (case kaa => first | assumption | k_all); (case kab => k_all))
  k_with "k_ne" => first | (refine neN ?_; (try dsimp only); omega) | (refine neN (ne_of_news (by k_asm) (by k_mem) (by k_mem) ?_); intro hq; first | exact absurd (Value.type.inj hq) (by decide) | cases hq)
  k_with "k_mem" => first | exact List.Mem.head _ | (refine List.mem_append.mpr (Or.inr ?_); k_mem)
  k_with "kst_same" => (intro z h1 h2 h3; (simp only [List.forall_mem_cons, List.not_mem_nil, false_implies, implies_true, and_true, ne_eq] at h2); (simp [kstB, h1, h2]; done))
  k_with "call ref" => (k_here; (try dsimp only [List.append_nil]); k_dflt ((refine' SpecN.use (longest _ _ _ _ _ _ _ ?k1) ?kh ?kA ?kB ?kF ?kX ?kN ?kT ?kK ?kd ?ku ?ks ?_); (case kh => rfl); (case kA => rfl); (case kB => k_asm); (case kF => k_asm); (case kX => k_asm); (case kT => k_asm); (case kN => k_asm); (case kK => rfl); (case k1 => assumption); (case kd => ktr_room); (case ku => ktr_units); (case ks => kst_in); k_whole); intro r' tl' h' tk' F' N' ho'; obtain ⟨e1', t', e2'⟩ := ho'; subst e1' e2'; (try dsimp only [List.nil_append] at N'))
  k_with "call ref" => (k_here; (try dsimp only [List.append_nil]); k_dflt ((refine' SpecN.use (indent _ _ _ _ _ _ _ _ _ ?k1 ?k2 ?k3) ?kh ?kA ?kB ?kF ?kX ?kN ?kT ?kK ?kd ?ku ?ks ?_); (case kh => rfl); (case kA => rfl); (case kB => k_asm); (case kF => k_asm); (case kX => k_asm); (case kT => k_asm); (case kN => k_asm); (case kK => rfl); (case k1 => assumption); (case k2 => omega); (case k3 => omega); (case kd => ktr_room); (case ku => ktr_units); (case ks => kst_in); k_whole); intro r' tl' h' tk' F' N' ho'; obtain ⟨e1', t', e2'⟩ := ho'; subst e1' e2'; (try dsimp only [List.nil_append] at N'))
  unfold SpecN
  k_fill
  dsimp only [wsLed, List.cons_append, List.nil_append]
  intros; rename_i hret
  refine wpAny_call ?_
  k_dflt cell_enter
  have hcv : a.cvs.length = st.ct.length := hi.length
  have hcv10' : a.cvs.toArray.size ≤ 10 := by simp; omega
  have hcv' : a'.cvs.length = st'.ct.length := hi'.length
  have hcv10'' : a'.cvs.toArray.size ≤ 10 := by simp; omega

  have hbd := bound2_b ha ha'
  unfold bound2 at hbd
  clear hb0 hb1 hb0' hb1'
  k_with "pyIter ref" => (rename Fr _ _ _ _ => lF'; rename News _ _ _ _ => lN'; rename IsRange _ _ _ _ _ _ _ _ => rgX; with_unfolding_all refine' gs_range (σ := WLst) (fun c => witLed c.D c.n c.es) (fun c => [("a", .ref c.D)]) [] (fun i c => (∀ p ∈ news, @LT.lt Nat _ p.1 c.D) ∧ c.es.map WT.fig = wits cLow st st' i) ⟨_, 0, []⟩ (by rfl) (by exact rgX) (by exact small_one (by omega) (by omega) (by omega) (by omega)) (by exact rangeSize_nat _ _) lF' ?gn ?gk ?gp ?_ ?_; (case gn => exact lN'); (case gk => kst_all); (case gp => (rename (_ ∧ _ ∧ _ ∧ _ ∧ _ ∧ _ ∧ _ ∧ _ ∧ _) => hl1); dsimp only; exact ⟨fun p hp => ktn_ltOf hl1.2.2.2.2.2.2.2.2 p hp, rfl⟩); (intro kc ki kt kI koI ku khh ktk klt kP kne klF kNN); (obtain ⟨kP1, kP2⟩ := kP); (dsimp only [witLed, List.cons_append, List.nil_append] at kne kNN klF); k_fold; (have hne1 := neN (kne _ (List.Mem.head _))); (have hents := ents_ne kNN (List.Mem.tail _ (List.Mem.head _)) rfl (fun p hp => List.Mem.tail _ (List.Mem.tail _ (List.mem_append.mpr (.inl hp))))); (have hsz9 := es_size kP2 (by omega)); (dsimp only at hne1); rotate_left; (intro kc ku khh ktk kP klF kNN); (dsimp only [witLed, List.cons_append, List.nil_append] at kNN klF); rotate_right)
  k_steps
  · refine' gend ⟨kc.D, kc.n + 1, kc.es ++ [⟨_, 1 + (ki : Int), level st (1 + (ki : Int)), level st' (1 + (ki : Int)), _, _, _⟩]⟩ (by k_asm) (by k_asm) ?wsub (by k_mem) ?woff (by kst_all) (by kst_same) ?wp
    case wsub => exact List.forall_mem_append.mpr ⟨witLed_snoc _ (by k_mem) (by with_unfolding_all exact List.Mem.head _) (fun p hp => List.Mem.tail _ (List.Mem.tail _ (List.Mem.tail _ (List.mem_append.mpr (.inl hp))))), fun p hp => List.Mem.tail _ (List.Mem.tail _ (List.Mem.tail _ (List.mem_append.mpr (.inr hp))))⟩
    case woff => exact List.forall_mem_append.mpr ⟨witLed_snoc (P := fun p => p.1 ≠ kI) _ hne1 (by k_ne) (fun p hp => kne p (List.Mem.tail _ (List.mem_append.mpr (.inl hp)))), fun p hp => kne p (List.Mem.tail _ (List.mem_append.mpr (.inr hp)))⟩
    case wp => exact ⟨kP1, by rw [List.map_append, kP2, wits_yes (cLow_t (by assumption))]; rfl⟩
  · refine gend kc (by k_asm) (by k_asm) (fun p hp => List.Mem.tail _ hp) (by k_mem) kne (by kst_all) (by kst_same) ⟨kP1, by rw [kP2, wits_no (cLow_f (by assumption))]⟩
  · exact hret _ (witLed kc.D kc.n kc.es) _ _ (by k_asm) (KStt.news_of (by k_asm) (fun p hp => hp)) ⟨kc.D, kc.n, kc.es, rfl, rfl, kP.1, by rw [kP.2]; unfold bound2; congr 2; omega⟩

theorem oddW (w : World) (mean : ExcName → Option Value) (mg mb : Str → Option Value) (news : List (Addr × Obj)) (a a' : WsA) (st st' : WSt) (ha : WsOk a st) (ha' : WsOk a' st') :
  SpecN 10 80 w mean mg mb 100 (wsLed w.params a st ++ (wsLed w.params a' st' ++ news)) [.ref a.x, .ref a'.x] (fun r tl => ∃ D n es, r = .ref D ∧ tl = witLed D n es ∧ (∀ p ∈ news, @LT.lt Nat _ p.1 D) ∧ es.map WT.fig = wits cOdd st st' (bound2 st st').toNat) := by
  obtain ⟨hi, hl, hb0, hb1, hc⟩ := id ha
  obtain ⟨hi', hl', hb0', hb1', hc'⟩ := id ha'
  w_top off
  k_with_none
  k_with "omega" => with_reducible first | assumption | exact Nat.le_refl _ | exact Nat.le_of_lt (by assumption) | exact Ne.symm (by assumption) | exact Nat.ne_of_gt (by assumption) | exact Nat.ne_of_lt (by assumption) | exact Int.le_add_one (by assumption) | exact cast_up (by assumption) | exact cast_le (by assumption) | exact Nat.le_trans (by assumption) (by decide) | exact Nat.lt_of_le_of_lt (by assumption) (by decide) | exact Nat.lt_of_lt_of_le (by assumption) (by decide) | (refine Nat.le_trans ?_ (by assumption); decide) | exact Nat.lt_trans (by assumption) (by assumption) | (rename (_ ∧ _) => hx; first | exact hx.1 | exact hx.2.1 | exact hx.2.2.1 | exact hx.2.2.2.1 | exact hx.2.2.2.2.1 | exact hx.2.2.2.2.2.1 | exact hx.2.2.2.2.2.2.1 | exact Nat.ne_of_gt hx.1 | exact Nat.ne_of_gt hx.2.1 | exact Nat.ne_of_gt hx.2.2.1 | exact Nat.ne_of_gt hx.2.2.2.1 | exact Nat.ne_of_gt hx.2.2.2.2.1 | exact Nat.ne_of_gt hx.2.2.2.2.2.1 | exact Nat.ne_of_gt hx.2.2.2.2.2.2.1 | exact Nat.le_of_lt hx.1 | exact Nat.le_of_lt hx.2.1 | exact Nat.le_of_lt hx.2.2.1 | exact Nat.le_of_lt hx.2.2.2.1 | fail) | fail
  k_with "k_all" => first | exact all_ne_of_lt (by assumption) (by omega) | exact all_ne_of_lt' (by assumption) (by omega) | (refine List.forall_mem_append.mpr ⟨?kaa, ?kab⟩; (case kaa => first | assumption | k_all); (case kab => k_all))
  k_with "k_ne" => first | (refine neN ?_; (try dsimp only); omega) | (refine neN (ne_of_news (by k_asm) (by k_mem) (by k_mem) ?_); intro hq; first | exact absurd (Value.type.inj hq) (by decide) | cases hq)
  k_with "k_mem" => first | exact List.Mem.head _ | (refine List.mem_append.mpr (Or.inr ?_); k_mem)
  k_with "kst_same" => (intro z h1 h2 h3; (simp only [List.forall_mem_cons, List.not_mem_nil, false_implies, implies_true, and_true, ne_eq] at h2); (simp [kstB, h1, h2]; done))
  k_with "call ref" => (k_here; (try dsimp only [List.append_nil]); k_dflt ((refine' SpecN.use (longest _ _ _ _ _ _ _ ?k1) ?kh ?kA ?kB ?kF ?kX ?kN ?kT ?kK ?kd ?ku ?ks ?_); (case kh => rfl); (case kA => rfl); (case kB => k_asm); (case kF => k_asm); (case kX => k_asm); (case kT => k_asm); (case kN => k_asm); (case kK => rfl); (case k1 => assumption); (case kd => ktr_room); (case ku => ktr_units); (case ks => kst_in); k_whole); intro r' tl' h' tk' F' N' ho'; obtain ⟨e1', t', e2'⟩ := ho'; subst e1' e2'; (try dsimp only [List.nil_append] at N'))
  k_with "call ref" => (k_here; (try dsimp only [List.append_nil]); k_dflt ((refine' SpecN.use (indent _ _ _ _ _ _ _ _ _ ?k1 ?k2 ?k3) ?kh ?kA ?kB ?kF ?kX ?kN ?kT ?kK ?kd ?ku ?ks ?_); (case kh => rfl); (case kA => rfl); (case kB => k_asm); (case kF => k_asm); (case kX => k_asm); (case kT => k_asm); (case kN => k_asm); (case kK => rfl); (case k1 => assumption); (case k2 => omega); (case k3 => omega); (case kd => ktr_room); (case ku => ktr_units); (case ks => kst_in); k_whole); intro r' tl' h' tk' F' N' ho'; obtain ⟨e1', t', e2'⟩ := ho'; subst e1' e2'; (try dsimp only [List.nil_append] at N'))
  unfold SpecN
  k_fill
  dsimp only [wsLed, List.cons_append, List.nil_append]
  intros; rename_i hret
  refine wpAny_call ?_
  k_dflt cell_enter
  have hcv : a.cvs.length = st.ct.length := hi.length
  have hcv10' : a.cvs.toArray.size ≤ 10 := by simp; omega
  have hcv' : a'.cvs.length = st'.ct.length := hi'.length
  have hcv10'' : a'.cvs.toArray.size ≤ 10 := by simp; omega

  have hbd := bound2_b ha ha'
  unfold bound2 at hbd
  clear hb0 hb1 hb0' hb1'
  k_with "pyIter ref" => (rename Fr _ _ _ _ => lF'; rename News _ _ _ _ => lN'; rename IsRange _ _ _ _ _ _ _ _ => rgX; with_unfolding_all refine' gs_range (σ := WLst) (fun c => witLed c.D c.n c.es) (fun c => [("a", .ref c.D)]) [] (fun i c => (∀ p ∈ news, @LT.lt Nat _ p.1 c.D) ∧ c.es.map WT.fig = wits cOdd st st' i) ⟨_, 0, []⟩ (by rfl) (by exact rgX) (by exact small_one (by omega) (by omega) (by omega) (by omega)) (by exact rangeSize_nat _ _) lF' ?gn ?gk ?gp ?_ ?_; (case gn => exact lN'); (case gk => kst_all); (case gp => (rename (_ ∧ _ ∧ _ ∧ _ ∧ _ ∧ _ ∧ _ ∧ _ ∧ _) => hl1); dsimp only; exact ⟨fun p hp => ktn_ltOf hl1.2.2.2.2.2.2.2.2 p hp, rfl⟩); (intro kc ki kt kI koI ku khh ktk klt kP kne klF kNN); (obtain ⟨kP1, kP2⟩ := kP); (dsimp only [witLed, List.cons_append, List.nil_append] at kne kNN klF); k_fold; (have hne1 := neN (kne _ (List.Mem.head _))); (have hents := ents_ne kNN (List.Mem.tail _ (List.Mem.head _)) rfl (fun p hp => List.Mem.tail _ (List.Mem.tail _ (List.mem_append.mpr (.inl hp))))); (have hsz9 := es_size kP2 (by omega)); (dsimp only at hne1); rotate_left; (intro kc ku khh ktk kP klF kNN); (dsimp only [witLed, List.cons_append, List.nil_append] at kNN klF); rotate_right)
  k_steps
  · refine' gend ⟨kc.D, kc.n + 1, kc.es ++ [⟨_, 1 + (ki : Int), level st (1 + (ki : Int)), level st' (1 + (ki : Int)), _, _, _⟩]⟩ (by k_asm) (by k_asm) ?wsub (by k_mem) ?woff (by kst_all) (by kst_same) ?wp
    case wsub => exact List.forall_mem_append.mpr ⟨witLed_snoc _ (by k_mem) (by with_unfolding_all exact List.Mem.head _) (fun p hp => List.Mem.tail _ (List.Mem.tail _ (List.Mem.tail _ (List.mem_append.mpr (.inl hp))))), fun p hp => List.Mem.tail _ (List.Mem.tail _ (List.Mem.tail _ (List.mem_append.mpr (.inr hp))))⟩
    case woff => exact List.forall_mem_append.mpr ⟨witLed_snoc (P := fun p => p.1 ≠ kI) _ hne1 (by k_ne) (fun p hp => kne p (List.Mem.tail _ (List.mem_append.mpr (.inl hp)))), fun p hp => kne p (List.Mem.tail _ (List.mem_append.mpr (.inr hp)))⟩
    case wp => exact ⟨kP1, by rw [List.map_append, kP2, wits_yes (cOdd_t (by assumption))]; rfl⟩
  · refine gend kc (by k_asm) (by k_asm) (fun p hp => List.Mem.tail _ hp) (by k_mem) kne (by kst_all) (by kst_same) ⟨kP1, by rw [kP2, wits_no (cOdd_f (by assumption))]⟩
  · exact hret _ (witLed kc.D kc.n kc.es) _ _ (by k_asm) (KStt.news_of (by k_asm) (fun p hp => hp)) ⟨kc.D, kc.n, kc.es, rfl, rfl, kP.1, by rw [kP.2]; unfold bound2; congr 2; omega⟩

end Mine
end
noncomputable section
open PySem PySem.W PyProof.Rows PySem.Calls
set_option maxRecDepth 100000
set_option maxHeartbeats 8000000
namespace Mine

theorem mulOk_diff {a x y : Int} (h : 0 ≤ x ∧ x ≤ 20000) (h' : 0 ≤ y ∧ y ≤ 20000) : IntMulOk a (x - y) := IntMulOk.of_right (intBits_le_64 (by omega) (by omega))
structure ILst where
  D : Addr
  n : Nat
  ws : List Value
  ms : List Int
noncomputable def pr (ls is : List Int) : Nat → List Int
  | 0 => [ls.getD 0 0]
  | i + 1 => pr ls is i ++ [(pr ls is i).getD i 0 * (ls.getD (i + 1) 0 - ls.getD (is.getD (i + 1) 0).toNat 0)]
theorem pr_len (ls is : List Int) : ∀ i, (pr ls is i).length = i + 1
  | 0 => rfl
  | i + 1 => by rw [pr, List.length_append, pr_len ls is i]; rfl
theorem pr_step {ls is ms : List Int} {i : Nat} (h : ms = pr ls is i) : ms ++ [ms.getD (-1 + (ms.length : Int)).toNat 0 * (ls.getD (1 + (i : Int)).toNat 0 - ls.getD (is.getD (1 + (i : Int)).toNat 0).toNat 0)] = pr ls is (i + 1) := by
  subst h
  have h1 : (-1 + ((pr ls is i).length : Int)).toNat = i := by rw [pr_len]; omega
  have h2 : (1 + (i : Int)).toNat = i + 1 := by omega
  rw [h1, h2]; rfl
theorem push_is {D : Addr} {n : Nat} {ws : List Value} {v : Value} {l : List (Addr × Obj)} (h : (D, W.listOf (ws.toArray.push v) n) ∈ l) : (D, W.listOf (ws ++ [v]).toArray n) ∈ l := by
  have : (ws ++ [v]).toArray = ws.toArray.push v := by simp
  rw [this]; exact h
theorem prods (w : World) (mean : ExcName → Option Value) (mg mb : Str → Option Value) (news : List (Addr × Obj)) (A1 A2 : Addr) (n1 n2 : Nat) (vs us : List Value) (ls is : List Int) (hv : IntsAre vs ls) (hu : IntsAre us is) (hl : ls.length = 4) (hil : is.length = 4)
   (hb : ∀ i, 0 ≤ ls.getD i 0 ∧ ls.getD i 0 ≤ 20000) (hi : ∀ i, 0 ≤ is.getD i 0 ∧ is.getD i 0 < 4) :
  SpecN 10 80 w mean mg mb 154 ([(A1, W.listOf vs.toArray n1), (A2, W.listOf us.toArray n2)] ++ news) [.ref A1, .ref A2] (fun r tl => ∃ D n ws, r = .ref D ∧ tl = [(D, W.listOf ws.toArray n)] ∧ IntsAre ws (pr ls is 3)) := by
  w_top off
  k_with_none
  k_with "omega" => with_reducible first | assumption | exact Nat.le_refl _ | exact Nat.le_of_lt (by assumption) | exact Ne.symm (by assumption) | exact Nat.ne_of_gt (by assumption) | exact Nat.ne_of_lt (by assumption) | exact Int.le_add_one (by assumption) | exact cast_up (by assumption) | exact cast_le (by assumption) | exact Nat.le_trans (by assumption) (by decide) | exact Nat.lt_of_le_of_lt (by assumption) (by decide) | exact Nat.lt_of_lt_of_le (by assumption) (by decide) | (refine Nat.le_trans ?_ (by assumption); decide) | exact Nat.lt_trans (by assumption) (by assumption) | (rename (_ ∧ _) => hx; first | exact hx.1 | exact hx.2.1 | exact hx.2.2.1 | exact hx.2.2.2.1 | exact hx.2.2.2.2.1 | exact hx.2.2.2.2.2.1 | exact hx.2.2.2.2.2.2.1 | exact Nat.ne_of_gt hx.1 | exact Nat.ne_of_gt hx.2.1 | exact Nat.ne_of_gt hx.2.2.1 | exact Nat.ne_of_gt hx.2.2.2.1 | exact Nat.ne_of_gt hx.2.2.2.2.1 | exact Nat.ne_of_gt hx.2.2.2.2.2.1 | exact Nat.ne_of_gt hx.2.2.2.2.2.2.1 | exact Nat.le_of_lt hx.1 | exact Nat.le_of_lt hx.2.1 | exact Nat.le_of_lt hx.2.2.1 | exact Nat.le_of_lt hx.2.2.2.1 | fail) | fail
  k_with "k_all" => first | exact all_ne_of_lt (by assumption) (by omega) | exact all_ne_of_lt' (by assumption) (by omega) | (refine List.forall_mem_append.mpr ⟨?kaa, ?kab⟩; (case kaa => first | assumption | k_all); (case kab => k_all))
  k_with "k_ne" => first | (refine neN ?_; (try dsimp only); omega) | (refine neN (ne_of_news (by k_asm) (by k_mem) (by k_mem) ?_); intro hq; first | exact absurd (Value.type.inj hq) (by decide) | cases hq)
  k_with "k_mem" => first | exact List.Mem.head _ | (refine List.mem_append.mpr (Or.inr ?_); k_mem)
  k_with "kst_same" => (intro z h1 h2 h3; (simp only [List.forall_mem_cons, List.not_mem_nil, false_implies, implies_true, and_true, ne_eq] at h2); (simp [kstB, h1, h2]; done))
  unfold SpecN
  k_fill
  dsimp only [List.cons_append, List.nil_append]
  intros; rename_i hret
  refine wpAny_call ?_
  k_dflt cell_enter
  have hvl : vs.length = 4 := by rw [hv.length]; exact hl
  have hul : us.length = 4 := by rw [hu.length]; exact hil
  have hb0 := hb 0
  k_with "binaryOp Mult int int" => refine mul_int ?_ (mulOk_diff (hb _) (hb _))
  k_with "pyIter ref" => (rename Fr _ _ _ _ => lF'; rename News _ _ _ _ => lN'; rename IsRange _ _ _ _ _ _ _ _ => rgX; (rename (_ ∧ _ ∧ _) => hl1); with_unfolding_all refine' gs_range (σ := ILst) (fun c => [(c.D, W.listOf c.ws.toArray c.n)]) (fun c => [("products", .ref c.D)]) [] (fun i c => (∀ p ∈ news, @LT.lt Nat _ p.1 c.D) ∧ (@LT.lt Nat _ A1 c.D ∧ @LT.lt Nat _ A2 c.D) ∧ IntsAre c.ws c.ms ∧ c.ms = pr ls is i) ⟨_, 0, [_], [ls.getD 0 0]⟩ (by rfl) (by exact rgX) (by exact small_one (by omega) (by omega) (by omega) (by omega)) (by exact rangeSize_nat _ _) lF' ?gn ?gk ?gp ?_ ?_; (case gn => exact lN'); (case gk => kst_all); (case gp => dsimp only; exact ⟨fun p hp => ktn_ltOf hl1.2.2 p hp, ⟨hl1.1, hl1.2.1⟩, .cons _ _ .nil, rfl⟩); (intro kc ki kt kI koI ku khh ktk klt kP kne klF kNN); (obtain ⟨kP1, kP2, kP3, kP4⟩ := kP); (dsimp only [List.cons_append, List.nil_append] at kne kNN klF); k_fold; (have hne1 := neN (kne _ (List.Mem.head _))); (have hne2 := neN (kne _ (List.Mem.tail _ (List.Mem.head _)))); (have hne3 := neN (kne _ (List.Mem.tail _ (List.Mem.tail _ (List.Mem.head _))))); (have hj := hi (1 + (ki : Int)).toNat); (have hk3 : ki < 3 := klt); (have hms := pr_len ls is ki); (rw [← kP4] at hms); (have hws := IntsAre.length kP3); rotate_left; (intro kc ku khh ktk kP klF kNN); (dsimp only [List.cons_append, List.nil_append] at kNN klF); rotate_right)
  k_steps
  · refine' gend ⟨kc.D, kc.n + 1, kc.ws ++ [_], pr ls is (ki + 1)⟩ (by k_asm) (by k_asm) ?wsub (by k_mem) ?woff (by kst_all) (by kst_same) ?wp
    case wsub => exact List.forall_mem_cons.mpr ⟨push_is (by k_mem), fun p hp => List.Mem.tail _ (List.Mem.tail _ hp)⟩
    case woff => exact List.forall_mem_cons.mpr ⟨hne1, fun p hp => kne p (List.Mem.tail _ hp)⟩
    case wp => exact ⟨kP1, kP2, by rw [← pr_step kP4]; exact kP3.append (.cons _ _ .nil), rfl⟩
  · exact hret _ [(kc.D, W.listOf kc.ws.toArray kc.n)] _ _ (by k_asm) (by k_asm) ⟨kc.D, kc.n, kc.ws, rfl, rfl, kP.2.2.2 ▸ kP.2.2.1⟩
end Mine
end
noncomputable section
open PySem PySem.W PyProof.Rows PySem.Calls PySem.Spec
set_option maxRecDepth 100000
namespace Mine
section
variable {M : Model} {A : Around} {E : Value → Shared → Prop} {s : Shared} {env : Env}
theorem newCompEnv {scope : Scope} {g : Addr} {cl : List (Str × Addr)} {qual : Str} {b : Addr} {Q : Env → Shared → Prop}
    (h : Q { scope := scope, locals := s.heap.objs.size, globals := g, cells := cellsFrom (s.heap.objs.size + 1) scope.names cl, qual := qual, func := none, code := env.code, frame := env.frame, builtins := env.builtins }
      { s with heap := pushCells (s.heap.push { cls := .type "dict", data := .dict #[] }) scope.names }) :
    wpAny M A (newFunctionEnv scope g cl [] qual none .none (some env) b) Q E s := by
  simp only [newFunctionEnv, Option.isSome_some, if_true]
  refine wpAny_bind (wpAny_alloc ?_)
  refine wpAny_bind (wpAny_layCells _ (fun name kind cells => by cases hkc : kind == NameKind.cell <;> simp [hkc]) _ _ _ _ ?_)
  rw [show ({ s with heap := s.heap.push { cls := .type "dict", data := .dict #[] } } : Shared).heap.objs.size = s.heap.objs.size + 1 from Heap.size_push ..]
  rw [List.forIn_nil]
  exact wpAny_bind (wpAny_pure (wpAny_pure h))
end


noncomputable def cellAddrs : Nat → List (Str × NameKind) → List Addr
  | _, [] => []
  | n, (_, k) :: r => if k == .cell then n :: cellAddrs (n + 1) r else cellAddrs n r
theorem pushCells_at : ∀ (names : List (Str × NameKind)) (h : Heap), (∀ b ∈ cellAddrs h.objs.size names, h.objs.size ≤ b ∧ b < (pushCells h names).objs.size ∧ ∃ o : Obj, (pushCells h names).get? b = some o ∧ o.data = .cell none) ∧ h.objs.size ≤ (pushCells h names).objs.size
  | [], h => ⟨fun _ hb => (nomatch hb), Nat.le_refl _⟩
  | (n, k) :: r, h => by
    unfold cellAddrs pushCells
    split
    · obtain ⟨h2, h3⟩ := pushCells_at r (h.push { cls := .type "cell", data := .cell none })
      rw [Heap.size_push] at h2 h3
      refine ⟨fun b hb => ?_, by omega⟩
      rcases List.mem_cons.mp hb with rfl | hb
      · have hg : (pushCells (h.push { cls := .type "cell", data := .cell none }) r).get? h.objs.size = some { cls := .type "cell", data := .cell none } := pushCells_keeps r _ _ _ (Heap.get?_push_size _ rfl)
        exact ⟨Nat.le_refl _, Nat.lt_of_succ_le h3, _, hg, rfl⟩
      · obtain ⟨a, b', c⟩ := h2 b hb
        exact ⟨by omega, b', c⟩
    · exact pushCells_at r h
end Mine

namespace Mine
open LCg
section
variable {prog : Program} {w : World} {A : Around} {E : Value → Shared → Prop} {R : Result → Shared → Prop}
theorem compLoop_turns {elt target iter : Expr} {ifs : List Expr} {scope : Scope} {pos : Pos} {it acc : Value} {env : Env} (I : Nat → Shared → Prop)
    (turn : ∀ n s, I n s → wpAny (model prog w) A (pyNext it) (fun r s₁ => match r with
      | none => R (.ok .next) s₁
      | some v => wpAny (model prog w) A (letOwnedTupleGo target it v) (fun _ s₁' => wpAny (model prog w) A (assign target env v) (fun _ s₂ =>
          wpAny (model prog w) A (forIn ifs true fun c r => if r = true then do let ok ← isTrue c env (eval c env); pure (ForInStep.yield ok) else pure (ForInStep.yield r)) (fun ok s₃ =>
            if ok = true then wpAny (model prog w) A (eval elt env) (fun x s₄ =>
              wpAny (model prog w) A (call (.builtin "list.append") [acc, x]) (fun _ s₅ => ∃ m, m < n ∧ I m s₅) (notedBy (model prog w) A env fun e s' => R (.error e) s') s₄) (notedBy (model prog w) A env fun e s' => R (.error e) s') s₃
            else ∃ m, m < n ∧ I m s₃) (notedBy (model prog w) A env fun e s' => R (.error e) s') s₂) (notedBy (model prog w) A env fun e s' => R (.error e) s') s₁') (notedBy (model prog w) A env fun e s' => R (.error e) s') s₁) (notedBy (model prog w) A env fun e s' => R (.error e) s') s)
    (n : Nat) {s : Shared} (h : I n s) : codeAny (model prog w) A (.compLoop (.ListComp elt [⟨target, iter, ifs, 0⟩] scope pos) 0 it acc env) R s := by
  refine codeAny_loop rfl I (fun n s hI => ?_) n h
  show wpAny _ A ((compTurn (.ListComp elt [⟨target, iter, ifs, 0⟩] scope pos) 0 it acc env).onRaise (fun x => do noteFrame x env; theTreesLotGoes x)) _ _ s
  refine wpAny_noted ?_
  rw [compTurn_list]
  refine wpAny_bind (wpAny_standAt (wpAny_bind (wpAny_mono (turn n s hI) (fun r s₁ h₁ => ?_) fun _ _ h' => h')))
  cases r with
  | none => exact wpAny_pure h₁
  | some v =>
    refine wpAny_bind (wpAny_mono h₁ (fun _ s₁' h₁' => ?_) fun _ _ h' => h')
    refine wpAny_bind (wpAny_mono h₁' (fun _ s₂ h₂ => wpAny_bind (wpAny_mono h₂ (fun ok s₃ h₃ => ?_) fun _ _ h' => h')) fun _ _ h' => h')
    cases ok with
    | false => exact wpAny_pure ⟨rfl, h₃⟩
    | true =>
      exact wpAny_bind (wpAny_bind (wpAny_mono h₃ (fun x s₄ h₄ => wpAny_bind (wpAny_mono h₄ (fun _ s₅ h₅ => wpAny_pure (wpAny_pure ⟨rfl, h₅⟩)) fun _ _ h' => h')) fun _ _ h' => h'))
end

noncomputable def AllCell : List Addr → (List (Addr × Obj) → Prop) → Prop
  | [], k => k []
  | a :: r, k => ∀ (o : Obj) (v : Option Value), o.data = .cell v → AllCell r (fun ce => k ((a, o) :: ce))
theorem AllCell.at : ∀ {ca : List Addr} {k : List (Addr × Obj) → Prop} {h : Heap}, AllCell ca k → (∀ b ∈ ca, ∃ o v, h.get? b = some o ∧ o.data = .cell v) → ∃ ce, ce.map (·.1) = ca ∧ (∀ p ∈ ce, h.get? p.1 = some p.2) ∧ k ce
  | [], _, _, h, _ => ⟨[], rfl, fun _ hp => (nomatch hp), h⟩
  | a :: r, k, h, x, hc => by
    obtain ⟨o, v, ho, hd⟩ := hc a (.head _)
    obtain ⟨ce, h1, h2, h3⟩ := AllCell.at (x o v hd) fun b hb => hc b (.tail _ hb)
    refine ⟨(a, o) :: ce, by simp [h1], fun p hp => ?_, h3⟩
    rcases List.mem_cons.mp hp with rfl | hp
    · exact ho
    · exact h2 p hp

section
variable {σ : Type} (Led : σ → List (Addr × Obj))
/-- what a turn of a block leaves -/
noncomputable def BEnd (h₀ : Heap) (L : Addr) (m : Str → Option Value) (ws : List Addr) (ca : List Addr) (C D : Addr) (its : List (Addr × Obj)) (ys : List Value) (P : σ → Prop) (s₁ s₂ : Shared) : Prop :=
  ∃ c' h' tk news', s₂ = { s₁ with heap := h', toks := tk } ∧ Fr h₀ L h' m ∧ News h₀ L h' news' ∧ (∀ p ∈ its, p ∈ news') ∧ (∃ oC m', (C, oC) ∈ news' ∧ NsObj oC m') ∧ (∀ b ∈ ca, ∃ o v, (b, o) ∈ news' ∧ o.data = .cell v) ∧
    (D, lst ys) ∈ news' ∧ (∀ p ∈ Led c', p ∈ news') ∧ (∀ p ∈ Led c', p.1 ∉ ws ∧ p.1 ≠ C ∧ p.1 ≠ D ∧ p.1 ∉ ca) ∧ P c'
end

section
variable {prog : Program} {w : World} {A : Around} {E : Value → Shared → Prop} {s : Shared} {h₀ : Heap} {L : Addr} {m : Str → Option Value} {env : Env}
  {σ : Type} (Led : σ → List (Addr × Obj))
noncomputable abbrev cenvOf (scope : Scope) (cl : List (Str × Addr)) (C : Addr) (env : Env) : Env := compEnvC scope (cellsFrom (C + 1) scope.names cl) C env

noncomputable def BTurn (prog : Program) (w : World) (A : Around) (h₀ : Heap) (L : Addr) (m : Str → Option Value) (cenv : Env) (target elt : Expr) (ifs : List Expr) (ws : List (Addr × String)) (ca : List Addr) (C D : Addr) (s : Shared) (n : Nat)
    (Pv : Nat → Value → Heap → Prop) (P : Nat → List Value → σ → Prop) : Prop :=
  ∀ (c : σ) (i : Nat) (ys : List Value) (v : Value) (oC : Obj) (m₂ : Str → Option Value) (h : Heap) (tk : Nat) (E' : Value → Shared → Prop), i < n → Pv i v h → P i ys c → NsObj oC m₂ → Fr h₀ L h m →
    (∀ p ∈ Led c, p.1 ∉ ws.map (·.1) ∧ p.1 ≠ C ∧ p.1 ≠ D ∧ p.1 ∉ ca) → AllObj ws (fun its => AllCell ca (fun ce => News h₀ L h (its ++ ((C, oC) :: (ce ++ ((D, lst ys) :: Led c)))) →
      wpAny (model prog w) A (assign target cenv v) (fun _ s₂ =>
        wpAny (model prog w) A (forIn ifs true fun c r => if r = true then do let ok ← isTrue c cenv (eval c cenv); pure (ForInStep.yield ok) else pure (ForInStep.yield r)) (fun ok s₃ =>
          if ok = true then wpAny (model prog w) A (eval elt cenv) (fun y s₄ => BEnd Led h₀ L m (ws.map (·.1)) ca C D its ys (P (i + 1) (ys ++ [y])) { s with heap := h, toks := tk } s₄) E' s₃
          else BEnd Led h₀ L m (ws.map (·.1)) ca C D its ys (P (i + 1) ys) { s with heap := h, toks := tk } s₃) E' s₂) E' { s with heap := h, toks := tk }))

/-- one turn of a block: next, target, tests, element, append -/
noncomputable def CTurn (prog : Program) (w : World) (A : Around) (target elt : Expr) (ifs : List Expr) (cenv : Env) (it acc : Value) (R : Result → Shared → Prop) (I : Nat → Shared → Prop) (n : Nat) (s : Shared) : Prop :=
  wpAny (model prog w) A (pyNext it) (fun r s₁ => match r with
      | none => R (.ok .next) s₁
      | some v => wpAny (model prog w) A (letOwnedTupleGo target it v) (fun _ s₁' => wpAny (model prog w) A (assign target cenv v) (fun _ s₂ =>
          wpAny (model prog w) A (forIn ifs true fun c r => if r = true then do let ok ← isTrue c cenv (eval c cenv); pure (ForInStep.yield ok) else pure (ForInStep.yield r)) (fun ok s₃ =>
            if ok = true then wpAny (model prog w) A (eval elt cenv) (fun x s₄ =>
              wpAny (model prog w) A (call (.builtin "list.append") [acc, x]) (fun _ s₅ => ∃ m, m < n ∧ I m s₅) (notedBy (model prog w) A cenv fun e s' => R (.error e) s') s₄) (notedBy (model prog w) A cenv fun e s' => R (.error e) s') s₃
            else ∃ m, m < n ∧ I m s₃) (notedBy (model prog w) A cenv fun e s' => R (.error e) s') s₂) (notedBy (model prog w) A cenv fun e s' => R (.error e) s') s₁') (notedBy (model prog w) A cenv fun e s' => R (.error e) s') s₁) (notedBy (model prog w) A cenv fun e s' => R (.error e) s') s

theorem blkLoop {target elt : Expr} {ifs : List Expr} {cenv : Env} {cd : Code} {s₂ : Shared} {I C D : Addr} {ca : List Addr} {fp wr : List Addr} {n : Nat} {Pv Md : Nat → Value → Heap → Prop} {St : Nat → Heap → Prop} {ys₀ : List Value} {N₀ : Nat}
    {R : Result → Shared → Prop} {ws : List (Addr × String)} {fx : List (Addr × Obj)} (P : Nat → List Value → σ → Prop) (c₀ : σ) {m₀ : Str → Option Value}
    (hcode : ∀ (Inv : Nat → Shared → Prop), (∀ n s, Inv n s → CTurn prog w A target elt ifs cenv (.ref I) (.ref D) R Inv n s) → ∀ n s, Inv n s → codeAny (model prog w) A cd R s)
    (W : KTurns prog w A target I fp wr n Pv Md St) (hsz : N₀ + n ≤ sizeLine) (hys : ys₀.length ≤ N₀)
    (hobj : ∀ i h, St i h → ∃ its, Objs ws its ∧ ∀ p ∈ its, h.get? p.1 = some p.2)
    (hwr : ∀ b ∈ wr, b ∈ ws.map (·.1)) (hws : ∀ b ∈ ws.map (·.1), b ∈ fp ∧ h₀.get? b = none ∧ b ≠ L) (hfx : ∀ b ∈ fp, b ∈ ws.map (·.1) ∨ (∃ o, (b, o) ∈ fx) ∨ ∃ o, h₀.get? b = some o) (hsub : ∀ c, ∀ p ∈ fx, p ∈ Led c)
    (hst : St 0 s₂.heap) (hbig : ∀ b ∈ fp, b ≠ C ∧ b ≠ D ∧ b ∉ ca)
    (hCD : C ≠ D) (caC : C ∉ ca) (caD : D ∉ ca) (hC₀ : h₀.get? C = none) (hD₀ : h₀.get? D = none) (hca₀ : ∀ b ∈ ca, h₀.get? b = none) (hCL : C ≠ L) (hDL : D ≠ L) (hcaL : L ∉ ca)
    (F : Fr h₀ L s₂.heap m) (hns : s₂.heap.Ns C m₀) (hcs : ∀ b ∈ ca, ∃ o v, s₂.heap.get? b = some o ∧ o.data = .cell v) (hacc : s₂.heap.get? D = some (lst ys₀)) (N : News h₀ L s₂.heap (Led c₀))
    (off₀ : ∀ p ∈ Led c₀, p.1 ∉ ws.map (·.1) ∧ p.1 ≠ C ∧ p.1 ≠ D ∧ p.1 ∉ ca) (h0 : P 0 ys₀ c₀)
    (turn : BTurn Led prog w A h₀ L m cenv target elt ifs ws ca C D s₂ n Pv P)
    (hR : ∀ h tk m' ys c, ys.length ≤ N₀ + n → Fr h₀ L h m → h.Ns C m' → (∀ b ∈ ca, ∃ o v, h.get? b = some o ∧ o.data = .cell v) → h.get? D = some (lst ys) → News h₀ L h (Led c) → (∀ p ∈ Led c, p.1 ∉ ws.map (·.1) ∧ p.1 ≠ C ∧ p.1 ≠ D ∧ p.1 ∉ ca) → P n ys c → R (.ok .next) { s₂ with heap := h, toks := tk }) :
    codeAny (model prog w) A cd R s₂ := by
  have hLws : L ∉ ws.map (·.1) := fun hm => (hws L hm).2.2 rfl
  have hwfp : ∀ b ∈ wr, b ∈ fp := W.sub
  let Off : List (Addr × Obj) → Prop := fun l => ∀ p ∈ l, p.1 ∉ ws.map (·.1) ∧ p.1 ≠ C ∧ p.1 ≠ D ∧ p.1 ∉ ca
  refine hcode
      (fun k s' => ∃ h' tk i ys m' c, s' = { s₂ with heap := h', toks := tk } ∧ i ≤ n ∧ k = n + 1 - i ∧ ys.length ≤ N₀ + i ∧ St i h' ∧ Fr h₀ L h' m ∧ h'.Ns C m' ∧ (∀ b ∈ ca, ∃ o v, h'.get? b = some o ∧ o.data = .cell v) ∧
        h'.get? D = some (lst ys) ∧ News h₀ L h' (Led c) ∧ Off (Led c) ∧ P i ys c) ?_ (n + 1) _
      ⟨s₂.heap, s₂.toks, 0, ys₀, _, c₀, rfl, Nat.zero_le _, rfl, hys, hst, F, hns, hcs, hacc, N, off₀, h0⟩
  rintro k s' ⟨h', tk, i, ys, m', c, rfl, hi, rfl, hyl, hst', F', hn', hcs', hD', N', off', hP'⟩
  have old₀ : ∀ b o, h₀.get? b = some o → b ∉ wr := fun b o e hb => by rw [(hws b (hwr b hb)).2.1] at e; cases e
  have next : ∀ h₂ : Heap, (∀ b o, b ∉ wr → h'.get? b = some o → h₂.get? b = some o) → Fr h₀ L h₂ m ∧ h₂.Ns C m' ∧ (∀ b ∈ ca, ∃ o v, h₂.get? b = some o ∧ o.data = .cell v) ∧ h₂.get? D = some (lst ys) ∧ News h₀ L h₂ (Led c) := fun h₂ hk =>
    ⟨⟨F'.ns.at' fun o e => hk _ o (fun hm => hLws (hwr _ hm)) e, fun b o e => hk b o (old₀ b o e) (F'.keep b o e), F'.above⟩,
     hn'.at' fun o e => hk _ o (fun hm => (hbig _ (hwfp _ hm)).1 rfl) e,
     fun b hb => let ⟨o, v, h1, h2⟩ := hcs' b hb; ⟨o, v, hk b o (fun hm => (hbig _ (hwfp _ hm)).2.2 hb) h1, h2⟩,
     hk _ _ (fun hm => (hbig _ (hwfp _ hm)).2.1 rfl) hD',
     fun p hp => ⟨hk _ _ (fun hm => (off' p hp).1 (hwr _ hm)) (N' p hp).1, (N' p hp).2⟩⟩
  by_cases hlt : i < n
  · refine W.item i _ _ _ hlt hst' fun v h₂ tk₂ hMd hk₂ => ?_
    refine W.go i v _ _ _ hMd fun h₃ hPv hst₃ hk₃ => ?_
    obtain ⟨F₃, hn₃, hcs₃, hD₃, N₃⟩ := next h₃ fun b o hb e => hk₃ b o hb (hk₂ b o hb e)
    obtain ⟨oC, heC, hoC⟩ := ns_obj hn₃
    obtain ⟨its, hits, hitg⟩ := hobj _ _ hst₃
    have hmap := hits.map
    have T := turn c i ys v oC m' h₃ tk₂ (notedBy (model prog w) A cenv fun e s' => R (.error e) s') hlt hPv hP' hoC F₃ off'
    obtain ⟨ce, hce1, hce2, T⟩ := AllCell.at (T.at hits) hcs₃
    have T := T fun p hp => by
      rcases List.mem_append.mp hp with hp | hp
      · have hm : p.1 ∈ ws.map (·.1) := by rw [← hmap]; exact List.mem_map.mpr ⟨p, hp, rfl⟩
        exact ⟨hitg p hp, (hws _ hm).2.2, (hws _ hm).2.1⟩
      rcases List.mem_cons.mp hp with rfl | hp
      · exact ⟨heC, hCL, hC₀⟩
      rcases List.mem_append.mp hp with hp | hp
      · have hm : p.1 ∈ ca := by rw [← hce1]; exact List.mem_map.mpr ⟨p, hp, rfl⟩
        exact ⟨hce2 p hp, fun e => hcaL (e ▸ hm), hca₀ _ hm⟩
      rcases List.mem_cons.mp hp with rfl | hp
      · exact ⟨hD₃, hDL, hD₀⟩
      · exact N₃ p hp
    have after : ∀ (P' : σ → Prop) s₄, BEnd Led h₀ L m (ws.map (·.1)) ca C D its ys P' { s₂ with heap := h₃, toks := tk₂ } s₄ →
        ∃ h₄ tk₄ c' m₄, s₄ = { s₂ with heap := h₄, toks := tk₄ } ∧ St (i + 1) h₄ ∧ Fr h₀ L h₄ m ∧ h₄.Ns C m₄ ∧ (∀ b ∈ ca, ∃ o v, h₄.get? b = some o ∧ o.data = .cell v) ∧
          h₄.get? D = some (lst ys) ∧ News h₀ L h₄ (Led c') ∧ Off (Led c') ∧ P' c' := by
      rintro P' s₄ ⟨c', h₄, tk₄, news₄, rfl, F₄, N₄, hi4, ⟨oC4, m4, hC4, hN4⟩, hca4, hD4, hl4, off4, hP4⟩
      refine ⟨h₄, tk₄, c', m4, rfl, ?_, F₄, hN4.ns (N₄ _ hC4).1, fun b hb => let ⟨o, v, h1, h2⟩ := hca4 b hb; ⟨o, v, (N₄ _ h1).1, h2⟩, (N₄ _ hD4).1, fun p hp => N₄ p (hl4 p hp), off4, hP4⟩
      refine W.frame _ _ _ hst₃ fun b hb o e => ?_
      rcases hfx b hb with hm | ⟨o', hm⟩ | ⟨o', ho'⟩
      · rw [← hmap] at hm
        obtain ⟨q, hq, hqe⟩ := List.mem_map.mp hm
        have h5 := hitg q hq
        rw [hqe] at h5
        have : q.2 = o := Option.some.inj (h5.symm.trans e)
        have h6 := (N₄ q (hi4 q hq)).1
        rw [hqe, this] at h6
        exact h6
      · have h5 := (N₃ _ (hsub c _ hm)).1
        have : o' = o := Option.some.inj (h5.symm.trans e)
        exact this ▸ (N₄ _ (hl4 _ (hsub c' _ hm))).1
      · have : o' = o := Option.some.inj ((F₃.keep b o' ho').symm.trans e)
        exact this ▸ F₄.keep b o' ho'
    refine wpAny_mono T (fun _ s₃' T => wpAny_mono T (fun ok s₃'' T => ?_) fun _ _ e => e) fun _ _ e => e
    cases ok with
    | false =>
      simp only [Bool.false_eq_true, if_false] at T ⊢
      obtain ⟨h₄, tk₄, c', m₄, rfl, st4, F4, n4, ca4, D4, N4, o4, p4⟩ := after _ _ T
      exact ⟨n + 1 - (i + 1), turn_lt hlt, h₄, tk₄, i + 1, ys, m₄, c', rfl, hlt, rfl, by omega, st4, F4, n4, ca4, D4, N4, o4, p4⟩
    | true =>
      simp only [if_true] at T ⊢
      refine wpAny_mono T (fun y s₄ T => ?_) fun _ _ e => e
      obtain ⟨h₄, tk₄, c', m₄, rfl, st4, F4, n4, ca4, D4, N4, o4, p4⟩ := after _ _ T
      refine append_at (hsz := by show ys.toArray.size ≤ sizeLine; rw [List.size_toArray]; omega) D4 fun h₅ hs₅ hD₅ => ?_
      refine ⟨n + 1 - (i + 1), turn_lt hlt, h₅, tk₄, i + 1, ys ++ [y], m₄, c', rfl, hlt, rfl, by rw [List.length_append, List.length_singleton]; omega, W.frame _ _ _ st4 fun b hb o e => hs₅.extBut b o (hbig b hb).2.1 e,
        F4.change hs₅ hDL hD₀, n4.sameBut hs₅ hCD, fun b hb => let ⟨o, v, h1, h2⟩ := ca4 b hb; ⟨o, v, hs₅.extBut _ _ (fun q => caD (q ▸ hb)) h1, h2⟩, hD₅.trans (congrArg some (lst_snoc ys y)),
        fun p hp => ⟨hs₅.extBut _ _ (o4 p hp).2.2.1 (N4 p hp).1, (N4 p hp).2⟩, o4, p4⟩
  · obtain rfl : i = n := Nat.le_antisymm hi (Nat.not_lt.mp hlt)
    refine W.done _ _ _ hst' fun h₂ tk₂ hk₂ => ?_
    obtain ⟨F₂, hn₂, hcs₂, hD₂, N₂⟩ := next h₂ hk₂
    exact hR h₂ tk₂ m' ys c hyl F₂ hn₂ hcs₂ hD₂ N₂ off' hP'

theorem blk {target elt iter : Expr} {ifs : List Expr} {scope : Scope} {cl : List (Str × Addr)} {pos : Pos} {s₂ : Shared} {I : Addr} {fp wr : List Addr} {n : Nat} {Pv Md : Nat → Value → Heap → Prop} {St : Nat → Heap → Prop}
    {RR : Value → Addr → Result → Shared → Prop} {ws : List (Addr × String)} {fx : List (Addr × Obj)} (P : Nat → List Value → σ → Prop) (c₀ : σ)
    (W : KTurns prog w A target I fp wr n Pv Md St) (hself : ∀ i (s : Shared) (Q : Value → Shared → Prop) (E : Value → Shared → Prop), St i s.heap → Q (.ref I) s → wpAny (model prog w) A (pyIter (.ref I)) Q E s) (hsz : n ≤ sizeLine)
    (hobj : ∀ i h, St i h → ∃ its, Objs ws its ∧ ∀ p ∈ its, h.get? p.1 = some p.2)
    (hwr : ∀ b ∈ wr, b ∈ ws.map (·.1)) (hws : ∀ b ∈ ws.map (·.1), b ∈ fp ∧ h₀.get? b = none ∧ b ≠ L) (hfx : ∀ b ∈ fp, b ∈ ws.map (·.1) ∨ (∃ o, (b, o) ∈ fx) ∨ ∃ o, h₀.get? b = some o) (hsub : ∀ c, ∀ p ∈ fx, p ∈ Led c)
    (hst : St 0 s₂.heap) (hfp : ∀ b ∈ fp, b < s₂.heap.objs.size)
    (F : Fr h₀ L s₂.heap m) (N : News h₀ L s₂.heap (Led c₀)) (off : ∀ p ∈ Led c₀, p.1 ∉ ws.map (·.1)) (h0 : P 0 [] c₀)
    (turn : ∀ C D, (D = s₂.heap.objs.size ∧ C = D + 1) → BTurn Led prog w A h₀ L m (cenvOf scope cl C env) target elt ifs ws (cellAddrs (C + 1) scope.names) C D s₂ n Pv P)
    (hRR : ∀ D C h tk m' oC ys c, Fr h₀ L h m → News h₀ L h ((C, oC) :: (D, lst ys) :: Led c) → NsObj oC m' → C ≠ D → (∀ p ∈ Led c, p.1 ≠ C ∧ p.1 ≠ D) → (∀ p ∈ Led c₀, p.1 < D) → P n ys c → RR (.ref D) C (.ok .next) { s₂ with heap := h, toks := tk }) :
    wpAny (model prog w) A (newList []) (fun acc s₃ => wpAny (model prog w) A (newFunctionEnv scope env.globals cl [] env.qual none .none (some env)) (fun cenv s₄ =>
      codeAny (model prog w) A (.compStart (.ListComp elt [⟨target, iter, ifs, 0⟩] scope pos) 0 (.ref I) acc { cenv with scope := relabel scope env }) (RR acc cenv.locals) s₄) E s₃) E s₂ := by
  refine wpAny_newObj_type (newCompEnv ?_)
  dsimp only
  generalize hH2 : s₂.heap.push { cls := .type "list", dict := none, data := .seq ([] : List Value).toArray } = H2
  have hC : H2.objs.size = s₂.heap.objs.size + 1 := by rw [← hH2, Heap.size_push]
  have e1 : ({ s₂ with heap := H2 } : Shared).heap.objs.size = H2.objs.size := rfl
  obtain ⟨hca2, hca3⟩ := pushCells_at scope.names (H2.push { cls := .type "dict", data := .dict #[] })
  rw [Heap.size_push] at hca2 hca3
  generalize hcae : cellAddrs (H2.objs.size + 1) scope.names = ca at hca2
  generalize hh1 : pushCells (H2.push { cls := .type "dict", data := .dict #[] }) scope.names = h₁ at hca2 hca3 ⊢
  have old2 : ∀ b o, H2.get? b = some o → h₁.get? b = some o := fun b o e => hh1 ▸ pushCells_keeps _ _ _ _ (Heap.get?_push_of_some _ e)
  have old : ∀ b o, s₂.heap.get? b = some o → h₁.get? b = some o := fun b o e => old2 b o (hH2 ▸ Heap.get?_push_of_some _ e)
  have hacc : h₁.get? s₂.heap.objs.size = some (lst []) := old2 _ _ (hH2 ▸ Heap.get?_push_size _ rfl)
  have hCo : h₁.get? H2.objs.size = some { cls := .type "dict", data := .dict #[] } := hh1 ▸ pushCells_keeps _ _ _ _ (Heap.get?_push_size _ rfl)
  have hns₁ : h₁.Ns H2.objs.size (fun _ => none) := ⟨_, _, _, hCo, rfl, by intro e he; simp at he, fun _ => rfl⟩
  have hDC : s₂.heap.objs.size ≠ H2.objs.size := by rw [hC]; exact Nat.ne_of_lt (Nat.lt_succ_self _)
  have big : ∀ b, b < s₂.heap.objs.size → b ≠ H2.objs.size ∧ b ≠ s₂.heap.objs.size ∧ b ∉ ca := fun b hb => ⟨by rw [hC]; exact Nat.ne_of_lt (Nat.lt_succ_of_lt hb), Nat.ne_of_lt hb, fun hm => by
    have := (hca2 b hm).1
    rw [hC] at this
    exact absurd (Nat.lt_of_lt_of_le hb (Nat.le_trans (Nat.le_add_right _ 2) this)) (Nat.lt_irrefl _)⟩
  have caC : H2.objs.size ∉ ca := fun hm => absurd (hca2 _ hm).1 (Nat.not_succ_le_self _)
  have caD : s₂.heap.objs.size ∉ ca := fun hm => by
    have := (hca2 _ hm).1
    rw [hC] at this
    exact absurd (Nat.le_trans (Nat.le_add_right _ 1) this) (Nat.not_succ_le_self _)
  have fresh₀ : ∀ a, s₂.heap.objs.size ≤ a → h₀.get? a = none := fun a ha => by
    cases e : h₀.get? a with
    | none => rfl
    | some o' => exact absurd (Heap.lt_size (F.keep a o' e)) (Nat.not_lt.mpr ha)
  have hD₀ : h₀.get? s₂.heap.objs.size = none := fresh₀ _ (Nat.le_refl _)
  have hC₀ : h₀.get? H2.objs.size = none := fresh₀ _ (by rw [hC]; exact Nat.le_succ _)
  have hca₀ : ∀ b ∈ ca, h₀.get? b = none := fun b hb => fresh₀ _ (by have := (hca2 b hb).1; rw [hC] at this; exact Nat.le_trans (Nat.le_add_right _ 2) this)
  have hLlt : L < s₂.heap.objs.size := F.ns.lt
  obtain ⟨hCL, hDL, hcaL⟩ : L ≠ H2.objs.size ∧ L ≠ s₂.heap.objs.size ∧ L ∉ ca := big L hLlt
  have hLws : L ∉ ws.map (·.1) := fun hm => (hws L hm).2.2 rfl
  have hbig : ∀ b ∈ fp, b ≠ H2.objs.size ∧ b ≠ s₂.heap.objs.size ∧ b ∉ ca := fun b hb => big b (hfp b hb)
  have hwfp : ∀ b ∈ wr, b ∈ fp := W.sub
  have hst₁ : St 0 h₁ := W.frame _ _ _ hst fun b _ o e => old b o e
  have off₀ : ∀ p ∈ Led c₀, p.1 ∉ ws.map (·.1) ∧ p.1 ≠ H2.objs.size ∧ p.1 ≠ s₂.heap.objs.size ∧ p.1 ∉ ca := fun p hp => ⟨off p hp, big _ (Heap.lt_size (N p hp).1)⟩
  have loop : codeAny (model prog w) A (.compLoop (.ListComp elt [⟨target, iter, ifs, 0⟩] scope pos) 0 (.ref I) (.ref s₂.heap.objs.size) (cenvOf scope cl H2.objs.size env))
        (RR (.ref s₂.heap.objs.size) H2.objs.size) { s₂ with heap := h₁ } := by
    refine blkLoop (N₀ := 0) Led P c₀ (fun Inv turn n s h => compLoop_turns Inv (fun n s hI => turn n s hI) n h) W (by omega) (Nat.le_refl _) hobj hwr hws hfx hsub hst₁ hbig (Ne.symm hDC) caC caD hC₀ hD₀ hca₀ (Ne.symm hCL) (Ne.symm hDL) hcaL (F.keeps old) hns₁
      (fun b hb => let ⟨o, h1, h2⟩ := (hca2 b hb).2.2; ⟨o, _, h1, h2⟩) hacc (N.grown old) off₀ h0 (hcae ▸ turn H2.objs.size s₂.heap.objs.size ⟨rfl, hC⟩) fun h tk m' ys c _ F' hn' hcs' hD' N' off' hP' => ?_
    obtain ⟨oC, heC, hoC⟩ := ns_obj hn'
    refine hRR _ _ h tk m' oC ys c F' (fun p hp => ?_) hoC (Ne.symm hDC) (fun p hp => ⟨(off' p hp).2.1, (off' p hp).2.2.1⟩) (fun p hp => Heap.lt_size (N p hp).1) hP'
    rcases List.mem_cons.mp hp with rfl | hp
    · exact ⟨heC, Ne.symm hCL, hC₀⟩
    rcases List.mem_cons.mp hp with rfl | hp
    · exact ⟨hD', Ne.symm hDL, hD₀⟩
    · exact N' p hp
  exact codeAny_compStart_list loop (hself 0 _ _ _ hst₁ loop)
end
end Mine

namespace Mine
open LCg
section
variable {prog : Program} {w : World} {A : Around} {E : Value → Shared → Prop} {s : Shared} {h₀ : Heap} {L : Addr} {m : Str → Option Value} {env : Env}
/-- a block over its source: all that the rule asks for -/
noncomputable def BlkAt (prog : Program) (w : World) (A : Around) (h₀ : Heap) (L : Addr) (m : Str → Option Value) (env : Env) (cl : List (Str × Addr)) (target elt : Expr) (ifs : List Expr) (scope : Scope) (Fin : Shared → Addr → List (Addr × Obj) → Prop) (it : Value) (s₂ : Shared) : Prop :=
  ∃ (σ : Type) (Led : σ → List (Addr × Obj)) (I : Addr) (fp wr : List Addr) (n : Nat) (Pv Md : Nat → Value → Heap → Prop) (St : Nat → Heap → Prop) (ws : List (Addr × String)) (fx : List (Addr × Obj)) (P : Nat → List Value → σ → Prop) (c₀ : σ),
    it = .ref I ∧ KTurns prog w A target I fp wr n Pv Md St ∧ (∀ i (s : Shared) (Q : Value → Shared → Prop) (E : Value → Shared → Prop), St i s.heap → Q (.ref I) s → wpAny (model prog w) A (pyIter (.ref I)) Q E s) ∧ n ≤ sizeLine ∧
    (∀ i h, St i h → ∃ its, Objs ws its ∧ ∀ p ∈ its, h.get? p.1 = some p.2) ∧
    (∀ b ∈ wr, b ∈ ws.map (·.1)) ∧ (∀ b ∈ ws.map (·.1), b ∈ fp ∧ h₀.get? b = none ∧ b ≠ L) ∧ (∀ b ∈ fp, b ∈ ws.map (·.1) ∨ (∃ o, (b, o) ∈ fx) ∨ ∃ o, h₀.get? b = some o) ∧ (∀ c, ∀ p ∈ fx, p ∈ Led c) ∧
    St 0 s₂.heap ∧ (∀ b ∈ fp, b < s₂.heap.objs.size) ∧ Fr h₀ L s₂.heap m ∧ News h₀ L s₂.heap (Led c₀) ∧ (∀ p ∈ Led c₀, p.1 ∉ ws.map (·.1)) ∧ P 0 [] c₀ ∧
    (∀ C D, (D = s₂.heap.objs.size ∧ C = D + 1) → BTurn Led prog w A h₀ L m (cenvOf scope cl C env) target elt ifs ws (cellAddrs (C + 1) scope.names) C D s₂ n Pv P) ∧
    (∀ D ys c, (∀ p ∈ Led c, p.1 ≠ D) → (∀ p ∈ Led c₀, p.1 < D) → P n ys c → Fin s₂ D ((D, lst ys) :: Led c))

noncomputable def FinEv (h₀ : Heap) (L : Addr) (m : Str → Option Value) (Q : Value → Shared → Prop) (s₂ : Shared) (D : Addr) (led : List (Addr × Obj)) : Prop :=
  ∀ h tk, Fr h₀ L h m → News h₀ L h led → Q (.ref D) { s₂ with heap := h, toks := tk }
noncomputable def FinLo (h₀ : Heap) (L : Addr) (m : Str → Option Value) (y : Str) (Q : Flow → Shared → Prop) (s₂ : Shared) (D : Addr) (led : List (Addr × Obj)) : Prop :=
  ∀ h tk, Fr h₀ L h (fun z => if z = y then some (.ref D) else m z) → News h₀ L h led → Q .next { s₂ with heap := h, toks := tk }
noncomputable def NoCell (l : List (Addr × Obj)) : Prop := ∀ p ∈ l, ∀ v, p.2.data ≠ .cell v
noncomputable def FinCe (h₀ : Heap) (L : Addr) (m : Str → Option Value) (clw : List (Str × Addr)) (y : Str) (Q : Flow → Shared → Prop) (s₂ : Shared) (D : Addr) (led : List (Addr × Obj)) : Prop :=
  ∃ X ce rest cm, led = X ++ (ce ++ rest) ∧ CellsAre cm clw ce ∧ NoCell X ∧ NoCell rest ∧
    ∀ h tk ce', Fr h₀ L h m → CellsAre (fun z => if z = y then some (.ref D) else cm z) clw ce' → News h₀ L h (X ++ (ce' ++ rest)) → Q .next { s₂ with heap := h, toks := tk }

theorem cells_get {cm : Str → Option Value} : ∀ {cl : List (Str × Addr)} {ce : List (Addr × Obj)}, CellsAre cm cl ce → ∀ {y : Str} {c : Addr}, cl.lookup y = some c → ∃ o, (c, o) ∈ ce ∧ o.data = .cell (cm y)
  | _, _, .nil, _, _, h => by simp at h
  | _, _, .cons (n := n) (c := c') (o := o) hd t, y, c, h => by
    rw [List.lookup_cons] at h
    cases hb : y == n with
    | true =>
      rw [hb] at h
      cases h
      rw [beq_iff_eq.mp hb]
      exact ⟨o, .head _, hd⟩
    | false =>
      rw [hb] at h
      obtain ⟨o', h1, h2⟩ := cells_get t h
      exact ⟨o', .tail _ h1, h2⟩
theorem cells_only {cm : Str → Option Value} : ∀ {cl : List (Str × Addr)} {ce : List (Addr × Obj)}, CellsAre cm cl ce → ∀ p ∈ ce, ∃ v, p.2.data = .cell v
  | _, _, .nil, _, h => nomatch h
  | _, _, .cons hd t, p, h => by
    rcases List.mem_cons.mp h with rfl | h
    · exact ⟨_, hd⟩
    · exact cells_only t p h
theorem cells_names {cm : Str → Option Value} : ∀ {cl : List (Str × Addr)} {ce : List (Addr × Obj)}, CellsAre cm cl ce → ce.map (·.1) = cl.map (·.2)
  | _, _, .nil => rfl
  | _, _, .cons _ t => by simp [cells_names t]
theorem ListComp_B {elt target iter : Expr} {ifs : List Expr} {scope : Scope} {cl : List (Str × Addr)} {pos : Pos} {Q : Value → Shared → Prop}
    (hclos : closureFor scope env = pure cl) (hkind : scope.kind = .function) (hnames : ∀ y ∈ scope.names, y.2 = .local → scope.names.lookup y.1 = some .local)
    (h : wpAny (model prog w) A (eval iter env) (fun xv s₁ => wpAny (model prog w) A (pyIter xv) (BlkAt prog w A h₀ L m env cl target elt ifs scope (FinEv h₀ L m Q)) E s₁) E s)
    (hs : ∀ x, foldedSetIterable iter env x = pure x := by intro _; rfl) :
    wpAny (model prog w) A (eval (.ListComp elt [⟨target, iter, ifs, 0⟩] scope pos) env) Q E s := by
  rw [eval_ListComp]
  refine wpAny_comprehension_free (use := none) rfl hs hclos hkind hnames (wpAny_mono h (fun xv s₁ h₁ => wpAny_mono h₁ (fun it s₂ h₂ => ?_) fun _ _ e => e) fun _ _ e => e)
  obtain ⟨σ, Led, I, fp, wr, n, Pv, Md, St, ws, fx, P, c₀, rfl, W, hself, hsz, hobj, hwr, hws, hfx, hsub, hst, hfp, F, N, off, h0, turn, fin⟩ := h₂
  refine blk Led P c₀ W hself hsz hobj hwr hws hfx hsub hst hfp F N off h0 turn fun D C h tk m' oC ys c F' N' hC hCD off' lt' hP => ?_
  have zC := N' _ (.head _)
  refine ⟨m', hC.ns zC.1, fun h'' hs'' => fin D ys c (fun p hp => (off' p hp).2) lt' hP h'' tk (F'.change hs'' zC.2.1 zC.2.2) fun p hp => ⟨hs''.extBut _ _ ?_ (N' p (.tail _ hp)).1, (N' p (.tail _ hp)).2⟩⟩
  rcases List.mem_cons.mp hp with rfl | hp
  · exact Ne.symm hCD
  · exact (off' p hp).1

theorem AssignL_B {elt target iter : Expr} {ifs : List Expr} {y : Str} {py : Pos} {scope : Scope} {cl : List (Str × Addr)} {pos spos : Pos} {Q : Flow → Shared → Prop} (hLe : env.locals = L)
    (hsw : swapsWith (.ListComp elt [⟨target, iter, ifs, 0⟩] scope pos) (some (.Name y py)) spos.line env = pure true)
    (hclos : closureFor scope env = pure cl) (hkind : scope.kind = .function) (hnames : ∀ y ∈ scope.names, y.2 = .local → scope.names.lookup y.1 = some .local)
    (hy : env.kindOf y = some .local) (hp : (env.scope.kind == .class || (env.scope.kind == .module && env.locals != env.globals)) = false)
    (h : wpAny (model prog w) A (eval iter env) (fun xv s₁ => wpAny (model prog w) A (pyIter xv) (BlkAt prog w A h₀ L m env cl target elt ifs scope (FinLo h₀ L m y Q)) E s₁) E s)
    (hs : ∀ x, foldedSetIterable iter env x = pure x := by intro _; rfl) :
    wpAny (model prog w) A (exec (.Assign [.Name y py] (.ListComp elt [⟨target, iter, ifs, 0⟩] scope pos) spos) env) Q E s := by
  subst hLe
  rw [exec_Assign_Name_used _ _ _ _ hsw]
  refine wpAny_bind (wpAny_standAt (wpAny_bind ?_))
  show wpAny _ A (do let _ ← comprehension (.ListComp elt [⟨target, iter, ifs, 0⟩] scope pos) scope env _ (newList []) false (eval iter env) (some (assign (.Name y py) env))) _ _ s
  refine wpAny_bind (wpAny_mono (wpAny_comprehension_free (use := some (assign (.Name y py) env)) (Q := fun _ s' => Q .next s') rfl hs hclos hkind hnames
    (wpAny_mono h (fun xv s₁ h₁ => wpAny_mono h₁ (fun it s₂ h₂ => ?_) fun _ _ e => e) fun _ _ e => e)) (fun _ s' hq => wpAny_pure (wpAny_pure hq)) fun _ _ e => e)
  obtain ⟨σ, Led, I, fp, wr, n, Pv, Md, St, ws, fx, P, c₀, rfl, W, hself, hsz, hobj, hwr, hws, hfx, hsub, hst, hfp, F, N, off, h0, turn, fin⟩ := h₂
  refine blk Led P c₀ W hself hsz hobj hwr hws hfx hsub hst hfp F N off h0 turn fun D C h tk m' oC ys c F' N' hC hCD off' lt' hP => ?_
  have zC := N' _ (.head _)
  show wpAny _ A (assign (.Name y py) env (.ref D)) _ _ _
  refine wpAny_assign_Name (wpAny_storeName_local hy F'.ns (fun h₂ hn₂ hs₂ => ?_) hp)
  have F₂ : Fr h₀ env.locals h₂ (fun z => if z = y then some (.ref D) else m z) := F'.set hn₂ hs₂
  have N₂ := N'.set hs₂
  refine ⟨m', (hC.ns (N₂ _ (.head _)).1), fun h'' hs'' => fin D ys c (fun p hp => (off' p hp).2) lt' hP h'' _ (F₂.change hs'' zC.2.1 zC.2.2) fun p hp => ⟨hs''.extBut _ _ ?_ (N₂ p (.tail _ hp)).1, (N₂ p (.tail _ hp)).2⟩⟩
  rcases List.mem_cons.mp hp with rfl | hp
  · exact Ne.symm hCD
  · exact (off' p hp).1

end
end Mine
end
noncomputable section
open PySem PySem.W PyProof.Rows PySem.Calls PySem.Spec
set_option maxRecDepth 100000
namespace Mine
open LCg
section
variable {prog : Program} {w : World} {A : Around} {E : Value → Shared → Prop} {s : Shared} {h₀ : Heap} {L : Addr} {m : Str → Option Value} {env : Env} {target : Expr}
/-- an iterator that stands at its start -/
noncomputable def SrcOk (prog : Program) (w : World) (A : Around) (target : Expr) (h₀ : Heap) (L : Addr) (fx : List (Addr × Obj)) (ws : List (Addr × String)) (n : Nat) (Pv : Nat → Value → Heap → Prop) (I : Addr) (h : Heap) : Prop :=
  ∃ (fp wr : List Addr) (Md : Nat → Value → Heap → Prop) (St : Nat → Heap → Prop), KTurns prog w A target I fp wr n Pv Md St ∧
    (∀ i (s : Shared) (Q : Value → Shared → Prop) (E : Value → Shared → Prop), St i s.heap → Q (.ref I) s → wpAny (model prog w) A (pyIter (.ref I)) Q E s) ∧
    (∀ i h, St i h → ∃ its, Objs ws its ∧ ∀ p ∈ its, h.get? p.1 = some p.2) ∧
    (∀ b ∈ wr, b ∈ ws.map (·.1)) ∧ (∀ b ∈ ws.map (·.1), b ∈ fp ∧ h₀.get? b = none ∧ b ≠ L) ∧ (∀ b ∈ fp, b ∈ ws.map (·.1) ∨ (∃ o, (b, o) ∈ fx) ∨ ∃ o, h₀.get? b = some o) ∧
    St 0 h ∧ (∀ b ∈ fp, b < h.objs.size) ∧ L ∉ fp

theorem blk_of {elt : Expr} {ifs : List Expr} {scope : Scope} {cl : List (Str × Addr)} {Fin : Shared → Addr → List (Addr × Obj) → Prop} {s₂ : Shared} {fx : List (Addr × Obj)} {ws : List (Addr × String)} {n : Nat} {Pv : Nat → Value → Heap → Prop} {I : Addr}
    (S : SrcOk prog w A target h₀ L fx ws n Pv I s₂.heap) (hsz : n ≤ sizeLine) {σ : Type} (Led : σ → List (Addr × Obj)) (P : Nat → List Value → σ → Prop) (c₀ : σ) (hsub : ∀ c, ∀ p ∈ fx, p ∈ Led c)
    (F : Fr h₀ L s₂.heap m) (N : News h₀ L s₂.heap (Led c₀)) (off : ∀ p ∈ Led c₀, p.1 ∉ ws.map (·.1)) (h0 : P 0 [] c₀)
    (turn : ∀ C D, (D = s₂.heap.objs.size ∧ C = D + 1) → BTurn Led prog w A h₀ L m (cenvOf scope cl C env) target elt ifs ws (cellAddrs (C + 1) scope.names) C D s₂ n Pv P)
    (fin : ∀ D ys c, (∀ p ∈ Led c, p.1 ≠ D) → (∀ p ∈ Led c₀, p.1 < D) → P n ys c → Fin s₂ D ((D, lst ys) :: Led c)) :
    BlkAt prog w A h₀ L m env cl target elt ifs scope Fin (.ref I) s₂ := by
  obtain ⟨fp, wr, Md, St, W, h1, h2, h3, h4, h5, h6, h7, h8⟩ := S
  exact ⟨σ, Led, I, fp, wr, n, Pv, Md, St, ws, fx, P, c₀, rfl, W, h1, hsz, h2, h3, h4, h5, hsub, h6, h7, F, N, off, h0, turn, fin⟩

section
variable {σ : Type} (Led : σ → List (Addr × Obj)) (ps : σ → List (Str × Value)) (stored : List Str)
noncomputable def NamesK (m₀ m : Str → Option Value) (c : σ) : Prop := (∀ p ∈ ps c, m p.1 = some p.2) ∧ (∀ z, (∀ p ∈ ps c, z ≠ p.1) → stored.contains z = false → m z = m₀ z)
noncomputable def TEnd (h₀ : Heap) (L : Addr) (m₀ : Str → Option Value) (P : σ → Prop) (ws : List Addr) (its : List (Addr × Obj)) (s₁ s₂ : Shared) : Prop :=
  ∃ c' h' tk m' news', s₂ = { s₁ with heap := h', toks := tk } ∧ Fr h₀ L h' m' ∧ News h₀ L h' news' ∧ (∀ p ∈ its, p ∈ news') ∧ (∀ p ∈ Led c', p ∈ news') ∧ (∀ p ∈ Led c', p.1 ∉ ws) ∧ NamesK ps stored m₀ m' c' ∧ P c'
noncomputable def TPost (h₀ : Heap) (L : Addr) (m₀ : Str → Option Value) (P : σ → Prop) (ws : List Addr) (its : List (Addr × Obj)) (s₁ : Shared) (Q : Flow → Shared → Prop) (f : Flow) (s₂ : Shared) : Prop :=
  match f with
  | .ret v => Q (.ret v) s₂
  | .brk => Q .next s₂
  | _ => TEnd Led ps stored h₀ L m₀ P ws its s₁ s₂
end

/-- a list -/
theorem it_list {ax : Addr} {lo : Obj} {vs : List Value} {k : Nat} {led : List (Addr × Obj)} {K : Value → Shared → Prop} (hh : A.handled = none) (F : Fr h₀ L s.heap m) (N : News h₀ L s.heap led) (hm : (ax, lo) ∈ led) (hc : lo.cls = .type "list") (hd : lo.data = .seq vs.toArray k)
    (h : ∀ h', SrcOk prog w A target h₀ L [(ax, lo)] [(s.heap.objs.size, "list_iterator")] vs.length (fun i v _ => vs[i]? = some v) s.heap.objs.size h' → Fr h₀ L h' m → News h₀ L h' led → (∀ p ∈ led, p.1 < s.heap.objs.size) → K (.ref s.heap.objs.size) { s with heap := h' }) :
    wpAny (model prog w) A (pyIter (.ref ax)) K E s := by
  have hax := N _ hm
  have hl : s.heap.IsList ax vs.toArray := ⟨lo, hax.1, hc, k, hd⟩
  have hlt : ax < s.heap.objs.size := Heap.lt_size hax.1
  have hne : ax ≠ s.heap.objs.size := Nat.ne_of_lt hlt
  refine wpAny_pyIter_list hl (h _ ?_ (F.push _) (fun p hp => ⟨Heap.get?_push_of_some _ (N p hp).1, (N p hp).2⟩) fun p hp => Heap.lt_size (N p hp).1)
  have W := Walks.list (prog := prog) (w := w) hh s.heap.objs.size ax hne vs.toArray
  have hn : vs.toArray.size = vs.length := by simp
  rw [hn] at W
  have e : (fun i v => vs.toArray[i]? = some v) = fun (i : Nat) (v : Value) => vs[i]? = some v := by funext i v; simp
  rw [e] at W
  refine ⟨_, _, _, _, KTurns.ofWalks W fun i v s Q E st q => letGo_listiter st.1 q, W.self, fun i h st => ?_, fun b hb => by simpa using hb, fun b hb => ?_, fun b hb => ?_, ⟨⟨_, Heap.get?_push_size _ rfl, rfl, rfl⟩, hl.at fun o e => Heap.get?_push_of_some _ e⟩, fun b hb => ?_, fun hI => ?_⟩
  · obtain ⟨it, hit, hic, _⟩ := st.1
    exact ⟨[(s.heap.objs.size, it)], ⟨⟨rfl, hic⟩, trivial⟩, fun p hp => by rw [List.mem_singleton.mp hp]; exact hit⟩
  · have hb' : b = s.heap.objs.size := by simpa using hb
    rw [hb']
    exact ⟨List.mem_cons_self .., next_is_new F, Ne.symm (Nat.ne_of_lt F.ns.lt)⟩
  · have hb' : b = s.heap.objs.size ∨ b = ax := by simpa using hb
    rcases hb' with e | e
    · exact .inl (by simp [e])
    · exact .inr (.inl ⟨lo, by simp [e]⟩)
  · rw [Heap.size_push]
    have hb' : b = s.heap.objs.size ∨ b = ax := by simpa using hb
    rcases hb' with rfl | rfl
    · exact Nat.lt_succ_self _
    · exact Nat.lt_succ_of_lt hlt
  · rcases List.mem_cons.mp hI with e | hI
    · exact absurd F.ns.lt (e ▸ Nat.lt_irrefl _)
    · exact hax.2.1 (List.mem_singleton.mp hI).symm

/-- a tuple -/
theorem it_tuple {ax : Addr} {lo : Obj} {vs : List Value} {k : Nat} {led : List (Addr × Obj)} {K : Value → Shared → Prop} (hh : A.handled = none) (F : Fr h₀ L s.heap m) (N : News h₀ L s.heap led) (hm : (ax, lo) ∈ led) (hc : lo.cls = .type "tuple") (hd : lo.data = .seq vs.toArray k)
    (h : ∀ h', SrcOk prog w A target h₀ L [(ax, lo)] [(s.heap.objs.size, "tuple_iterator")] vs.length (fun i v _ => vs[i]? = some v) s.heap.objs.size h' → Fr h₀ L h' m → News h₀ L h' led → (∀ p ∈ led, p.1 < s.heap.objs.size) → K (.ref s.heap.objs.size) { s with heap := h' }) :
    wpAny (model prog w) A (pyIter (.ref ax)) K E s := by
  have hax := N _ hm
  have hl : s.heap.IsTuple ax vs.toArray := ⟨lo, hax.1, hc, k, hd⟩
  have hlt : ax < s.heap.objs.size := Heap.lt_size hax.1
  have hne : ax ≠ s.heap.objs.size := Nat.ne_of_lt hlt
  refine wpAny_pyIter_tuple hl (h _ ?_ (F.push _) (fun p hp => ⟨Heap.get?_push_of_some _ (N p hp).1, (N p hp).2⟩) fun p hp => Heap.lt_size (N p hp).1)
  have W := Walks.tuple (prog := prog) (w := w) hh s.heap.objs.size ax hne vs.toArray
  have hn : vs.toArray.size = vs.length := by simp
  rw [hn] at W
  have e : (fun i v => vs.toArray[i]? = some v) = fun (i : Nat) (v : Value) => vs[i]? = some v := by funext i v; simp
  rw [e] at W
  refine ⟨_, _, _, _, KTurns.ofWalks W fun i v s Q E st q => letGo_tupleiter st.1 q, W.self, fun i h st => ?_, fun b hb => by simpa using hb, fun b hb => ?_, fun b hb => ?_, ⟨⟨_, Heap.get?_push_size _ rfl, rfl, rfl⟩, hl.at fun o e => Heap.get?_push_of_some _ e⟩, fun b hb => ?_, fun hI => ?_⟩
  · obtain ⟨it, hit, hic, _⟩ := st.1
    exact ⟨[(s.heap.objs.size, it)], ⟨⟨rfl, hic⟩, trivial⟩, fun p hp => by rw [List.mem_singleton.mp hp]; exact hit⟩
  · have hb' : b = s.heap.objs.size := by simpa using hb
    rw [hb']
    exact ⟨List.mem_cons_self .., next_is_new F, Ne.symm (Nat.ne_of_lt F.ns.lt)⟩
  · have hb' : b = s.heap.objs.size ∨ b = ax := by simpa using hb
    rcases hb' with e | e
    · exact .inl (by simp [e])
    · exact .inr (.inl ⟨lo, by simp [e]⟩)
  · rw [Heap.size_push]
    have hb' : b = s.heap.objs.size ∨ b = ax := by simpa using hb
    rcases hb' with rfl | rfl
    · exact Nat.lt_succ_self _
    · exact Nat.lt_succ_of_lt hlt
  · rcases List.mem_cons.mp hI with e | hI
    · exact absurd F.ns.lt (e ▸ Nat.lt_irrefl _)
    · exact hax.2.1 (List.mem_singleton.mp hI).symm

/-- a range by ones, one name for a target -/
theorem it_range {x : Str} {px : Pos} {r : Addr} {a₀ b₀ : Int} {t₀ u₀ v₀ : Tok} {n : Nat} {led : List (Addr × Obj)} {K : Value → Shared → Prop} (hh : A.handled = none) (F : Fr h₀ L s.heap m) (N : News h₀ L s.heap led)
    (hr : IsRange s.heap r a₀ b₀ 1 t₀ u₀ v₀) (hsmall : Builtin.Range.small a₀ b₀ 1 = true) (hn : Builtin.Range.rangeSize a₀ b₀ 1 = (n : Int))
    (h : ∀ h', SrcOk prog w A (.Name x px) h₀ L [] [(s.heap.objs.size, "range_iterator")] n (fun i v _ => i < n ∧ ∃ t, v = .int (a₀ + (i : Int)) t) s.heap.objs.size h' → Fr h₀ L h' m → News h₀ L h' led → (∀ p ∈ led, p.1 < s.heap.objs.size) → K (.ref s.heap.objs.size) { s with heap := h' }) :
    wpAny (model prog w) A (pyIter (.ref r)) K E s := by
  refine wpAny_pyIter_range hr hsmall (h _ ?_ (F.push _) (fun p hp => ⟨Heap.get?_push_of_some _ (N p hp).1, (N p hp).2⟩) fun p hp => Heap.lt_size (N p hp).1)
  have W : Walks prog w A s.heap.objs.size [s.heap.objs.size] [s.heap.objs.size] n (fun i v => i < n ∧ ∃ t, v = .int (a₀ + i * 1) t)
      (fun i h => IsRangeIter h s.heap.objs.size (a₀ + (i : Nat) * 1) ((n : Int) - (i : Nat)) 1) := (Walks.range hh _ a₀ 1 n).bound
  have e : (fun i v => i < n ∧ ∃ t, v = .int (a₀ + i * 1) t) = fun (i : Nat) (v : Value) => i < n ∧ ∃ t, v = Value.int (a₀ + (i : Int)) t := by funext i v; rw [Int.mul_one]
  rw [e] at W
  refine ⟨_, _, _, _, KTurns.ofWalks W fun i v s Q E st q => wpAny_of_eq rfl q, W.self, fun i h st => ?_, fun b hb => by simpa using hb, fun b hb => ?_, fun b hb => ?_, (by show IsRangeIter _ _ _ _ _; rw [hn]; simpa using Heap.get?_push_size _ rfl), fun b hb => ?_, fun hI => ?_⟩
  · have st' : h.get? s.heap.objs.size = some _ := st
    have st2 : ∃ o : Obj, h.get? s.heap.objs.size = some o ∧ o.cls = .type "range_iterator" := ⟨_, st', rfl⟩
    obtain ⟨o, h1, h2⟩ := st2
    exact ⟨[(s.heap.objs.size, o)], ⟨⟨rfl, h2⟩, trivial⟩, fun p hp => by rw [List.mem_singleton.mp hp]; exact h1⟩
  · have hb' : b = s.heap.objs.size := by simpa using hb
    rw [hb']
    exact ⟨List.mem_cons_self .., next_is_new F, Ne.symm (Nat.ne_of_lt F.ns.lt)⟩
  · have hb' : b = s.heap.objs.size := by simpa using hb
    exact .inl (by simp [hb'])
  · rw [Heap.size_push]
    have hb' : b = s.heap.objs.size := by simpa using hb
    rw [hb']; exact Nat.lt_succ_self _
  · exact absurd F.ns.lt ((List.mem_singleton.mp hI) ▸ Nat.lt_irrefl _)

/-- enumerate(a list) -/
theorem it_enum {elts : List Expr} {kk : Nat} {pos : Pos} {l : Addr} {lo : Obj} {vs : List Value} {k : Nat} {led : List (Addr × Obj)} {K : Value → Shared → Prop} (hh : A.handled = none) (F : Fr h₀ L s.heap m) (N : News h₀ L s.heap led) (hm : (l, lo) ∈ led) (hc : lo.cls = .type "list") (hd : lo.data = .seq vs.toArray k)
    (h : ∀ h', SrcOk prog w A (.Tuple elts kk pos) h₀ L [(l, lo)] [(s.heap.objs.size + 1, "enumerate"), (s.heap.objs.size, "list_iterator")] vs.length (fun (i : Nat) v h => ∃ T t x, vs[i]? = some x ∧ v = Value.ref T ∧ IsTup h T #[.int (i : Int) t, x]) (s.heap.objs.size + 1) h' → Fr h₀ L h' m → News h₀ L h' led → (∀ p ∈ led, p.1 < s.heap.objs.size) → K (.ref (s.heap.objs.size + 1)) { s with heap := h' }) :
    wpAny (model prog w) A (call (.type "enumerate") [.ref l]) (fun xv s₁ => wpAny (model prog w) A (pyIter xv) K E s₁) E s := by
  have hax := N _ hm
  have hl : s.heap.IsList l vs.toArray := ⟨lo, hax.1, hc, k, hd⟩
  have hlt : l < s.heap.objs.size := Heap.lt_size hax.1
  have hLs : L < s.heap.objs.size := F.ns.lt
  refine call_enumerate_list hl fun h' hE hI hsz hk => ?_
  refine wpAny_pyIter_enum hE (h _ ?_ (F.keeps hk) (N.grown hk) fun p hp => Heap.lt_size (N p hp).1)
  have W := (WalksT.enumerate (prog := prog) (w := w) hh (s.heap.objs.size + 1) s.heap.objs.size l (Nat.succ_ne_self _) (ktu_ne 1 hlt) (Nat.ne_of_lt hlt) vs.toArray).toU
  have hn : vs.toArray.size = vs.length := by simp
  rw [hn] at W
  have K := KTurns.ofWalksU (elts := elts) (k := kk) (pos := pos) W
  have e : (fun (i : Nat) (v : Value) (h : Heap) => ∃ T vals, v = .ref T ∧ (∃ t x, vs.toArray[i]? = some x ∧ vals = #[.int i t, x]) ∧ h.IsTuple T vals) = fun (i : Nat) v h => ∃ T t x, vs[i]? = some x ∧ v = Value.ref T ∧ IsTup h T #[.int (i : Int) t, x] := by
    funext i v h
    refine propext ⟨?_, ?_⟩
    · rintro ⟨T, vals, rfl, ⟨t, x, hx, rfl⟩, hT⟩
      exact ⟨T, t, x, by simpa using hx, rfl, hT⟩
    · rintro ⟨T, t, x, hx, rfl, hT⟩
      exact ⟨T, _, rfl, ⟨t, x, by simpa using hx, rfl⟩, hT⟩
  rw [e] at K
  refine ⟨_, _, _, _, K, W.self, ?_, fun b hb => by simpa using hb, ?_, ?_, ⟨⟨.none, hE⟩, hI, hl.at fun o e => hk l o e⟩, ?_, ?_⟩
  · rintro i h ⟨⟨old, he⟩, ⟨oi, hoi, hic, _⟩, _⟩
    have he' : ∃ oe : Obj, h.get? (s.heap.objs.size + 1) = some oe ∧ oe.cls = .type "enumerate" := ⟨_, he, rfl⟩
    obtain ⟨oe, h1, h2⟩ := he'
    refine ⟨[(s.heap.objs.size + 1, oe), (s.heap.objs.size, oi)], ⟨⟨rfl, h2⟩, ⟨rfl, hic⟩, trivial⟩, fun p hp => ?_⟩
    rcases List.mem_cons.mp hp with rfl | hp
    · exact h1
    · rw [List.mem_singleton.mp hp]; exact hoi
  · intro b hb
    have hb' : b = s.heap.objs.size + 1 ∨ b = s.heap.objs.size := by simpa using hb
    rcases hb' with rfl | rfl
    · exact ⟨by simp, ktu_new F (Nat.le_add_right _ _), Ne.symm (ktu_ne 1 hLs)⟩
    · exact ⟨by simp, ktu_new F (Nat.le_refl _), Ne.symm (Nat.ne_of_lt hLs)⟩
  · intro b hb
    have hb' : b = s.heap.objs.size + 1 ∨ b = s.heap.objs.size ∨ b = l := by simpa using hb
    rcases hb' with rfl | rfl | rfl
    · exact .inl (by simp)
    · exact .inl (by simp)
    · exact .inr (.inl ⟨lo, by simp⟩)
  · intro b hb
    rw [hsz]
    have hb' : b = s.heap.objs.size + 1 ∨ b = s.heap.objs.size ∨ b = l := by simpa using hb
    rcases hb' with rfl | rfl | rfl
    · exact Nat.lt_succ_self _
    · exact Nat.lt_succ_of_lt (Nat.lt_succ_self _)
    · exact Nat.lt_succ_of_lt (Nat.lt_succ_of_lt hlt)
  · intro hI'
    have hb' : L = s.heap.objs.size + 1 ∨ L = s.heap.objs.size ∨ L = l := by simpa using hI'
    rcases hb' with e | e | e
    · exact ktu_ne 1 hLs e
    · exact Nat.ne_of_lt hLs e
    · exact hax.2.1 e.symm
end
end Mine
end
noncomputable section
open PySem PySem.W PyProof.Rows PySem.Calls PySem.Spec
set_option maxRecDepth 100000
namespace Mine
open LCg
section
variable {prog : Program} {w : World} {A : Around} {E : Value → Shared → Prop} {R : Result → Shared → Prop}
/-- the second clause of two -/
theorem compLoop_in {elt t1 i1 target iter : Expr} {ifs1 ifs : List Expr} {scope : Scope} {pos : Pos} {it acc : Value} {env : Env} (I : Nat → Shared → Prop)
    (turn : ∀ n s, I n s → CTurn prog w A target elt ifs env it acc R I n s)
    (n : Nat) {s : Shared} (h : I n s) : codeAny (model prog w) A (.compLoop (.ListComp elt [⟨t1, i1, ifs1, 0⟩, ⟨target, iter, ifs, 0⟩] scope pos) 1 it acc env) R s := by
  refine codeAny_loop rfl I (fun n s hI => ?_) n h
  show wpAny _ A ((compTurn (.ListComp elt [⟨t1, i1, ifs1, 0⟩, ⟨target, iter, ifs, 0⟩] scope pos) 1 it acc env).onRaise (fun x => do noteFrame x env; theTreesLotGoes x)) _ _ s
  refine wpAny_noted ?_
  have e : compTurn (.ListComp elt [⟨t1, i1, ifs1, 0⟩, ⟨target, iter, ifs, 0⟩] scope pos) 1 it acc env = (do
      standAt iter.pos
      match ← pyNext it with
      | none => pure (.done .next)
      | some v =>
        letOwnedTupleGo target it v
        assign target env v
        let mut ok := true
        for c in ifs do
          if ok then ok ← isTrue c env (eval c env)
        if ok then
          (do let _ ← call (.builtin "list.append") [acc, ← eval elt env])
        again (.compLoop (.ListComp elt [⟨t1, i1, ifs1, 0⟩, ⟨target, iter, ifs, 0⟩] scope pos) 1 it acc env)) := by rfl
  rw [e]
  refine wpAny_bind (wpAny_standAt (wpAny_bind (wpAny_mono (turn n s hI) (fun r s₁ h₁ => ?_) fun _ _ h' => h')))
  cases r with
  | none => exact wpAny_pure h₁
  | some v =>
    refine wpAny_bind (wpAny_mono h₁ (fun _ s₁' h₁' => ?_) fun _ _ h' => h')
    refine wpAny_bind (wpAny_mono h₁' (fun _ s₂ h₂ => wpAny_bind (wpAny_mono h₂ (fun ok s₃ h₃ => ?_) fun _ _ h' => h')) fun _ _ h' => h')
    cases ok with
    | false => exact wpAny_pure ⟨rfl, h₃⟩
    | true =>
      exact wpAny_bind (wpAny_bind (wpAny_mono h₃ (fun x s₄ h₄ => wpAny_bind (wpAny_mono h₄ (fun _ s₅ h₅ => wpAny_pure (wpAny_pure ⟨rfl, h₅⟩)) fun _ _ h' => h')) fun _ _ h' => h'))

theorem compStart_in {elt t1 i1 target iter : Expr} {ifs1 ifs : List Expr} {scope : Scope} {pos : Pos} {it acc : Value} {env : Env} {s : Shared}
    (h0 : codeAny (model prog w) A (.compLoop (.ListComp elt [⟨t1, i1, ifs1, 0⟩, ⟨target, iter, ifs, 0⟩] scope pos) 1 it acc env) R s)
    (h : wpAny (model prog w) A (pyIter it) (fun it' s' => codeAny (model prog w) A (.compLoop (.ListComp elt [⟨t1, i1, ifs1, 0⟩, ⟨target, iter, ifs, 0⟩] scope pos) 1 it' acc env) R s')
      (notedBy (model prog w) A env fun x s' => R (.error x) s') s) :
    codeAny (model prog w) A (.compStart (.ListComp elt [⟨t1, i1, ifs1, 0⟩, ⟨target, iter, ifs, 0⟩] scope pos) 1 it acc env) R s := by
  refine codeAny_of_tree ?_
  show wpAny _ _ ((compStart (.ListComp elt [⟨t1, i1, ifs1, 0⟩, ⟨target, iter, ifs, 0⟩] scope pos) 1 it acc env).onRaise (fun x => do noteFrame x env; standAt theWindowsPlace)) _ _ s
  refine wpAny_notedAt ?_
  unfold compStart
  show wpAny _ _ (ask >>= _) _ _ s
  refine wpAny_bind (wpAny_askSetting (wpAny_ite ?_))
  split
  · first
      | exact wpAny_bind (wpAny_pure (wpAny_pure (And.intro rfl h0)))
      | exact wpAny_pure (And.intro rfl h0)
  · first
      | exact wpAny_bind (wpAny_rule (wpAny_bind (wpAny_standAt (wpAny_bind (wpAny_mono h (fun it' s' h' => wpAny_pure (And.intro rfl h')) fun _ _ x => x)))))
      | (refine wpAny_bind (wpAny_rule ?_); show wpAny _ _ (standAt iter.pos >>= _) _ _ s; exact wpAny_bind (wpAny_standAt (wpAny_bind (wpAny_mono h (fun it' s' h' => wpAny_pure (And.intro rfl h')) fun _ _ x => x))))

/-- the first clause of two -/
theorem compLoop_two {elt t1 i1 target iter : Expr} {ifs : List Expr} {scope : Scope} {pos : Pos} {it acc : Value} {env : Env} (I : Nat → Shared → Prop) (hs : ∀ x, foldedSetIterable iter env x = pure x)
    (turn : ∀ n s, I n s → ∀ E' : Value → Shared → Prop, wpAny (model prog w) A (pyNext it) (fun r s₁ => match r with
      | none => R (.ok .next) s₁
      | some v => wpAny (model prog w) A (letOwnedTupleGo t1 it v) (fun _ s₁' => wpAny (model prog w) A (assign t1 env v) (fun _ s₂ =>
          wpAny (model prog w) A (eval iter env) (fun x s₃ => wpAny (model prog w) A (pyIter x) (fun it2 s₄ =>
            codeAny (model prog w) A (.compStart (.ListComp elt [⟨t1, i1, [], 0⟩, ⟨target, iter, ifs, 0⟩] scope pos) 1 it2 acc env) (fun r s' => match r with | .ok _ => ∃ m, m < n ∧ I m s' | .error _ => False) s₄) E' s₃) E' s₂) E' s₁') E' s₁) E' s)
    (n : Nat) {s : Shared} (h : I n s) : codeAny (model prog w) A (.compLoop (.ListComp elt [⟨t1, i1, [], 0⟩, ⟨target, iter, ifs, 0⟩] scope pos) 0 it acc env) R s := by
  refine codeAny_loop rfl I (fun n s hI => ?_) n h
  show wpAny _ A ((compTurn (.ListComp elt [⟨t1, i1, [], 0⟩, ⟨target, iter, ifs, 0⟩] scope pos) 0 it acc env).onRaise (fun x => do noteFrame x env; theTreesLotGoes x)) _ _ s
  refine wpAny_noted ?_
  have e : compTurn (.ListComp elt [⟨t1, i1, [], 0⟩, ⟨target, iter, ifs, 0⟩] scope pos) 0 it acc env = (do
      standAt i1.pos
      match ← pyNext it with
      | none => pure (.done .next)
      | some v =>
        letOwnedTupleGo t1 it v
        assign t1 env v
        let x ← eval iter env
        standAt iter.pos
        let x ← foldedSetIterable iter env x
        let _ ← runOwn (.compStart (.ListComp elt [⟨t1, i1, [], 0⟩, ⟨target, iter, ifs, 0⟩] scope pos) 1 (← holding [x] (pyIter x)) acc env) env
        again (.compLoop (.ListComp elt [⟨t1, i1, [], 0⟩, ⟨target, iter, ifs, 0⟩] scope pos) 0 it acc env)) := by rfl
  rw [e]
  refine wpAny_bind (wpAny_standAt (wpAny_bind (wpAny_mono (turn n s hI _) (fun r s₁ h₁ => ?_) fun _ _ h' => h')))
  cases r with
  | none => exact wpAny_pure h₁
  | some v =>
    refine wpAny_bind (wpAny_mono h₁ (fun _ s₁' h₁' => ?_) fun _ _ h' => h')
    refine wpAny_bind (wpAny_mono h₁' (fun _ s₂ h₂ => wpAny_bind (wpAny_mono h₂ (fun x s₃ h₃ => ?_) fun _ _ h' => h')) fun _ _ h' => h')
    refine wpAny_bind (wpAny_standAt (wpAny_bind (wpAny_of_eq (hs x) (wpAny_bind (wpAny_holding (wpAny_mono h₃ (fun it2 s₄ h₄ => ?_) fun _ _ h' => h'))))))
    refine wpAny_bind (wpAny_runOwn (codeAny_mono (Around.mark_none A ▸ h₄) fun r s' hr => ?_))
    cases r with
    | ok f => exact wpAny_pure ⟨rfl, hr⟩
    | error x => exact hr.elim
end

section
variable {prog : Program} {w : World} {A : Around} {E : Value → Shared → Prop} {s : Shared} {h₀ : Heap} {L : Addr} {m : Str → Option Value} {env : Env}
  {σ : Type} (Led : σ → List (Addr × Obj))
/-- what an outer turn leaves: the list has grown -/
noncomputable def OEnd (h₀ : Heap) (L : Addr) (m : Str → Option Value) (ws ca : List Addr) (C D : Addr) (its : List (Addr × Obj)) (P : List Value → σ → Prop) (s₁ s₂ : Shared) : Prop :=
  ∃ c' h' tk ys, s₂ = { s₁ with heap := h', toks := tk } ∧ Fr h₀ L h' m ∧ (∀ p ∈ its, h'.get? p.1 = some p.2) ∧ (∃ m', h'.Ns C m') ∧ (∀ b ∈ ca, ∃ o v, h'.get? b = some o ∧ o.data = .cell v) ∧
    h'.get? D = some (lst ys) ∧ News h₀ L h' (Led c') ∧ (∀ p ∈ Led c', p.1 ∉ ws ∧ p.1 ≠ C ∧ p.1 ≠ D ∧ p.1 ∉ ca) ∧ P ys c'
noncomputable def OTurn (prog : Program) (w : World) (A : Around) (h₀ : Heap) (L : Addr) (m : Str → Option Value) (cenv : Env) (t1 iter : Expr) (cd : Value → Code) (ws : List (Addr × String)) (ca : List Addr) (C D : Addr) (s : Shared) (n : Nat)
    (Pv : Nat → Value → Heap → Prop) (P : Nat → List Value → σ → Prop) : Prop :=
  ∀ (c : σ) (i : Nat) (ys : List Value) (v : Value) (oC : Obj) (m₂ : Str → Option Value) (h : Heap) (tk : Nat) (E' : Value → Shared → Prop), i < n → Pv i v h → P i ys c → NsObj oC m₂ → Fr h₀ L h m →
    (∀ p ∈ Led c, p.1 ∉ ws.map (·.1) ∧ p.1 ≠ C ∧ p.1 ≠ D ∧ p.1 ∉ ca) → AllObj ws (fun its => AllCell ca (fun ce => News h₀ L h (its ++ ((C, oC) :: (ce ++ ((D, lst ys) :: Led c)))) →
      wpAny (model prog w) A (assign t1 cenv v) (fun _ s₂ => wpAny (model prog w) A (eval iter cenv) (fun x s₃ => wpAny (model prog w) A (pyIter x) (fun it2 s₄ =>
        codeAny (model prog w) A (cd it2) (fun r s' => match r with | .ok _ => OEnd Led h₀ L m (ws.map (·.1)) ca C D its (P (i + 1)) { s with heap := h, toks := tk } s' | .error _ => False) s₄) E' s₃) E' s₂) E' { s with heap := h, toks := tk }))

end
end Mine
end
noncomputable section
open PySem PySem.W PyProof.Rows PySem.Calls
set_option maxRecDepth 100000
set_option maxHeartbeats 8000000
set_option linter.unusedVariables false
namespace Mine
/-- what the written part of the heap says -/
theorem gf_Whitespace : PySem.Challenge.rw_tc0103_01 = PySem.Challenge.rw_tc0103_01 → ∀ w : World, nsIn (hd.heap_39 w.params) mainGlobals (Str.ofString "Whitespace") = some (some (.ref 117)) ∧ keepIn (hd.heap_39 w.params) (.ref 117) = true := by
  k_fill
  intro _ w
  exact ⟨by k_is, by k_is⟩
theorem gf_formatwitnesses : PySem.Challenge.rw_tc0103_01 = PySem.Challenge.rw_tc0103_01 → ∀ w : World, nsIn (hd.heap_39 w.params) mainGlobals (Str.ofString "format_witnesses") = some (some (.ref 128)) ∧ keepIn (hd.heap_39 w.params) (.ref 128) = true := by
  k_fill
  intro _ w
  exact ⟨by k_is, by k_is⟩
theorem gf_lawcolumn : PySem.Challenge.rw_tc0103_01 = PySem.Challenge.rw_tc0103_01 → ∀ w : World, nsIn (hd.heap_39 w.params) mainGlobals (Str.ofString "_law_column") = some (some (.ref 135)) ∧ keepIn (hd.heap_39 w.params) (.ref 135) = true := by
  k_fill
  intro _ w
  exact ⟨by k_is, by k_is⟩
theorem gf_lawsigned : PySem.Challenge.rw_tc0103_01 = PySem.Challenge.rw_tc0103_01 → ∀ w : World, nsIn (hd.heap_39 w.params) mainGlobals (Str.ofString "_law_signed") = some (some (.ref 140)) ∧ keepIn (hd.heap_39 w.params) (.ref 140) = true := by
  k_fill
  intro _ w
  exact ⟨by k_is, by k_is⟩
theorem gf_lawcorners : PySem.Challenge.rw_tc0103_01 = PySem.Challenge.rw_tc0103_01 → ∀ w : World, nsIn (hd.heap_39 w.params) mainGlobals (Str.ofString "_law_corners") = some (some (.ref 147)) ∧ keepIn (hd.heap_39 w.params) (.ref 147) = true := by
  k_fill
  intro _ w
  exact ⟨by k_is, by k_is⟩
theorem gf_lawproducts : PySem.Challenge.rw_tc0103_01 = PySem.Challenge.rw_tc0103_01 → ∀ w : World, nsIn (hd.heap_39 w.params) mainGlobals (Str.ofString "_law_products") = some (some (.ref 154)) ∧ keepIn (hd.heap_39 w.params) (.ref 154) = true := by
  k_fill
  intro _ w
  exact ⟨by k_is, by k_is⟩
theorem gf_lawchains : PySem.Challenge.rw_tc0103_01 = PySem.Challenge.rw_tc0103_01 → ∀ w : World, nsIn (hd.heap_39 w.params) mainGlobals (Str.ofString "_law_chains") = some (some (.ref 161)) ∧ keepIn (hd.heap_39 w.params) (.ref 161) = true := by
  k_fill
  intro _ w
  exact ⟨by k_is, by k_is⟩
theorem gf_lawnag : PySem.Challenge.rw_tc0103_01 = PySem.Challenge.rw_tc0103_01 → ∀ w : World, nsIn (hd.heap_39 w.params) mainGlobals (Str.ofString "_law_nag") = some (some (.ref 168)) ∧ keepIn (hd.heap_39 w.params) (.ref 168) = true := by
  k_fill
  intro _ w
  exact ⟨by k_is, by k_is⟩
theorem bf_sum : PySem.Challenge.rw_tc0103_01 = PySem.Challenge.rw_tc0103_01 → ∀ w : World, nsIn (hd.heap_39 w.params) mainGlobals (Str.ofString "sum") = some none ∧ bootBuiltins (Str.ofString "sum") = some (.builtin "sum") := by
  k_fill
  intro _ w
  exact ⟨by k_is, by boot_by_name⟩
theorem bf_len : PySem.Challenge.rw_tc0103_01 = PySem.Challenge.rw_tc0103_01 → ∀ w : World, nsIn (hd.heap_39 w.params) mainGlobals (Str.ofString "len") = some none ∧ bootBuiltins (Str.ofString "len") = some (.builtin "len") := by
  k_fill
  intro _ w
  exact ⟨by k_is, by boot_by_name⟩
theorem bf_max : PySem.Challenge.rw_tc0103_01 = PySem.Challenge.rw_tc0103_01 → ∀ w : World, nsIn (hd.heap_39 w.params) mainGlobals (Str.ofString "max") = some none ∧ bootBuiltins (Str.ofString "max") = some (.builtin "max") := by
  k_fill
  intro _ w
  exact ⟨by k_is, by boot_by_name⟩
theorem bf_min : PySem.Challenge.rw_tc0103_01 = PySem.Challenge.rw_tc0103_01 → ∀ w : World, nsIn (hd.heap_39 w.params) mainGlobals (Str.ofString "min") = some none ∧ bootBuiltins (Str.ofString "min") = some (.builtin "min") := by
  k_fill
  intro _ w
  exact ⟨by k_is, by boot_by_name⟩
theorem bf_range : PySem.Challenge.rw_tc0103_01 = PySem.Challenge.rw_tc0103_01 → ∀ w : World, nsIn (hd.heap_39 w.params) mainGlobals (Str.ofString "range") = some none ∧ bootBuiltins (Str.ofString "range") = some (.type "range") := by
  k_fill
  intro _ w
  exact ⟨by k_is, by boot_by_name⟩
theorem bf_enumerate : PySem.Challenge.rw_tc0103_01 = PySem.Challenge.rw_tc0103_01 → ∀ w : World, nsIn (hd.heap_39 w.params) mainGlobals (Str.ofString "enumerate") = some none ∧ bootBuiltins (Str.ofString "enumerate") = some (.type "enumerate") := by
  k_fill
  intro _ w
  exact ⟨by k_is, by boot_by_name⟩
theorem bf_zip : PySem.Challenge.rw_tc0103_01 = PySem.Challenge.rw_tc0103_01 → ∀ w : World, nsIn (hd.heap_39 w.params) mainGlobals (Str.ofString "zip") = some none ∧ bootBuiltins (Str.ofString "zip") = some (.type "zip") := by
  k_fill
  intro _ w
  exact ⟨by k_is, by boot_by_name⟩
theorem bf_str : PySem.Challenge.rw_tc0103_01 = PySem.Challenge.rw_tc0103_01 → ∀ w : World, nsIn (hd.heap_39 w.params) mainGlobals (Str.ofString "str") = some none ∧ bootBuiltins (Str.ofString "str") = some (.type "str") := by
  k_fill
  intro _ w
  exact ⟨by k_is, by boot_by_name⟩
theorem mf_longestrunofspaces : PySem.Challenge.rw_tc0103_01 = PySem.Challenge.rw_tc0103_01 → ∀ w : World, plainGet (hd.heap_39 w.params) 117 (Str.ofString "longest_run_of_spaces") = true ∧ findIn (hd.heap_39 w.params) (.ref 117) (Str.ofString "longest_run_of_spaces") = some (some (.ref 79)) ∧ isFn (hd.heap_39 w.params) (.ref 79) = true ∧ keepIn (hd.heap_39 w.params) (.ref 79) = true := by
  k_fill
  intro _ w
  exact ⟨by k_is, by k_is, by k_is, by k_is⟩
theorem mf_indentlevel : PySem.Challenge.rw_tc0103_01 = PySem.Challenge.rw_tc0103_01 → ∀ w : World, plainGet (hd.heap_39 w.params) 117 (Str.ofString "indent_level") = true ∧ findIn (hd.heap_39 w.params) (.ref 117) (Str.ofString "indent_level") = some (some (.ref 86)) ∧ isFn (hd.heap_39 w.params) (.ref 86) = true ∧ keepIn (hd.heap_39 w.params) (.ref 86) = true := by
  k_fill
  intro _ w
  exact ⟨by k_is, by k_is, by k_is, by k_is⟩
theorem mf_equal : PySem.Challenge.rw_tc0103_01 = PySem.Challenge.rw_tc0103_01 → ∀ w : World, plainGet (hd.heap_39 w.params) 117 (Str.ofString "equal") = true ∧ findIn (hd.heap_39 w.params) (.ref 117) (Str.ofString "equal") = some (some (.ref 93)) ∧ isFn (hd.heap_39 w.params) (.ref 93) = true ∧ keepIn (hd.heap_39 w.params) (.ref 93) = true := by
  k_fill
  intro _ w
  exact ⟨by k_is, by k_is, by k_is, by k_is⟩
theorem mf_notequalwitness : PySem.Challenge.rw_tc0103_01 = PySem.Challenge.rw_tc0103_01 → ∀ w : World, plainGet (hd.heap_39 w.params) 117 (Str.ofString "not_equal_witness") = true ∧ findIn (hd.heap_39 w.params) (.ref 117) (Str.ofString "not_equal_witness") = some (some (.ref 100)) ∧ isFn (hd.heap_39 w.params) (.ref 100) = true ∧ keepIn (hd.heap_39 w.params) (.ref 100) = true := by
  k_fill
  intro _ w
  exact ⟨by k_is, by k_is, by k_is, by k_is⟩
theorem mf_less : PySem.Challenge.rw_tc0103_01 = PySem.Challenge.rw_tc0103_01 → ∀ w : World, plainGet (hd.heap_39 w.params) 117 (Str.ofString "less") = true ∧ findIn (hd.heap_39 w.params) (.ref 117) (Str.ofString "less") = some (some (.ref 107)) ∧ isFn (hd.heap_39 w.params) (.ref 107) = true ∧ keepIn (hd.heap_39 w.params) (.ref 107) = true := by
  k_fill
  intro _ w
  exact ⟨by k_is, by k_is, by k_is, by k_is⟩
theorem mf_notlesswitness : PySem.Challenge.rw_tc0103_01 = PySem.Challenge.rw_tc0103_01 → ∀ w : World, plainGet (hd.heap_39 w.params) 117 (Str.ofString "not_less_witness") = true ∧ findIn (hd.heap_39 w.params) (.ref 117) (Str.ofString "not_less_witness") = some (some (.ref 114)) ∧ isFn (hd.heap_39 w.params) (.ref 114) = true ∧ keepIn (hd.heap_39 w.params) (.ref 114) = true := by
  k_fill
  intro _ w
  exact ⟨by k_is, by k_is, by k_is, by k_is⟩
theorem inst_ws {h₀ h : Heap} {L : Addr} {P : Params} {a : WsA} {st : WSt} (N : News h₀ L h (wsLed P a st)) : PySem.W.InstAt h a.x (instObj 117 a.dx) 117 (some (wsDict P a st)) := by
  k_inst
end Mine
end
noncomputable section
open PySem PySem.W PyProof.Rows PySem.Calls PySem.Spec
set_option maxRecDepth 100000
set_option linter.unusedVariables false
namespace Mine
noncomputable abbrev tupO (its : Array Value) (n : Nat) : Obj := { cls := .type "tuple", data := .seq its n }
noncomputable abbrev Lg := List (Addr × Obj)
noncomputable abbrev Rp := Lg → Value → Prop
noncomputable def Sub (l l' : Lg) : Prop := ∀ p ∈ l, p ∈ l'
theorem Sub.rfl {l : Lg} : Sub l l := fun _ h => h
theorem Sub.trans {a b c : Lg} (x : Sub a b) (y : Sub b c) : Sub a c := fun p h => y p (x p h)
theorem Sub.add {l t : Lg} : Sub l (t ++ l) := fun _ h => List.mem_append_right _ h
theorem Sub.cons {l : Lg} {p : Addr × Obj} : Sub l (p :: l) := fun _ h => .tail _ h
noncomputable def Up {α : Type} (R : Lg → α → Prop) : Prop := ∀ l l' v, Sub l l' → R l v → R l' v

/-- the state of a walk: the frame, the entries that turn over (Y) and those that stay (led) -/
structure At (h₀ : Heap) (L : Addr) (m : Str → Option Value) (Y led : Lg) (h : Heap) : Prop where
  fr : Fr h₀ L h m
  ne : News h₀ L h (Y ++ led)
  nd : (Y.map (·.1)).Nodup
  off : ∀ p ∈ led, p.1 ∉ Y.map (·.1)

section
variable (M : Model) (A : Around) (h₀ : Heap) (L : Addr) (m : Str → Option Value) (Y : Lg)
structure Ws {α : Type} (t : Sem α) (led : Lg) (R : Lg → α → Prop) : Prop where
  go : ∀ (s : Shared) (Q : α → Shared → Prop) (E : Value → Shared → Prop), At h₀ L m Y led s.heap →
    (∀ v h' tk' led', At h₀ L m Y led' h' → Sub led led' → R led' v → Q v { s with heap := h', toks := tk' }) → wpAny M A t Q E s
noncomputable def Ev (env : Env) (e : Expr) (led : Lg) (R : Rp) : Prop := ∀ led', Sub led led' → Ws M A h₀ L m Y (eval e env) led' R
noncomputable def Te (env : Env) (e : Expr) (led : Lg) (b : Bool) : Prop := ∀ led', Sub led led' → Ws M A h₀ L m Y (PySem.isTrue e env (eval e env)) led' fun _ c => c = b
end

noncomputable def IntR (i : Int) : Rp := fun _ v => ∃ t, v = .int i t
noncomputable def StrR (x : Str) : Rp := fun _ v => ∃ t, v = .str x t
noncomputable def BoolR (b : Bool) : Rp := fun _ v => v = .bool b
noncomputable def EqR (x : Value) : Rp := fun _ v => v = x
inductive All2 {α β : Type} (R : α → β → Prop) : List α → List β → Prop
  | nil : All2 R [] []
  | cons {a b as bs} : R a b → All2 R as bs → All2 R (a :: as) (b :: bs)
noncomputable def ListR {α : Type} (R : α → Rp) (xs : List α) : Rp := fun led v => ∃ a vs n, v = .ref a ∧ (a, W.listOf vs.toArray n) ∈ led ∧ All2 (fun x v => R x led v) xs vs
noncomputable def TupR (Rs : List Rp) : Rp := fun led v => ∃ a vs n, v = .ref a ∧ (a, tupO vs.toArray n) ∈ led ∧ All2 (fun R v => R led v) Rs vs
section
variable {α β γ : Type}
theorem All2.length {R : α → β → Prop} : ∀ {as : List α} {bs : List β}, All2 R as bs → as.length = bs.length
  | _, _, .nil => rfl
  | _, _, .cons _ t => congrArg (· + 1) t.length
theorem All2.get {R : α → β → Prop} : ∀ {as : List α} {bs : List β}, All2 R as bs → ∀ {i : Nat} {a : α}, as[i]? = some a → ∃ b, bs[i]? = some b ∧ R a b
  | _, _, .nil, i, a, h => by simp at h
  | _, _, .cons x t, 0, a, h => by simp at h; subst h; exact ⟨_, by simp, x⟩
  | _, _, .cons x t, i + 1, a, h => by simpa using t.get (i := i) (a := a) (by simpa using h)
theorem All2.get' {R : α → β → Prop} : ∀ {as : List α} {bs : List β}, All2 R as bs → ∀ {i : Nat} {b : β}, bs[i]? = some b → ∃ a, as[i]? = some a ∧ R a b
  | _, _, .nil, i, a, h => by simp at h
  | _, _, .cons x t, 0, a, h => by simp at h; subst h; exact ⟨_, by simp, x⟩
  | _, _, .cons x t, i + 1, a, h => by simpa using t.get' (i := i) (b := a) (by simpa using h)
theorem All2.mono {R S : α → β → Prop} (f : ∀ a b, R a b → S a b) : ∀ {as : List α} {bs : List β}, All2 R as bs → All2 S as bs
  | _, _, .nil => .nil
  | _, _, .cons x t => .cons (f _ _ x) (t.mono f)
theorem All2.app {R : α → β → Prop} : ∀ {as as' : List α} {bs bs' : List β}, All2 R as bs → All2 R as' bs' → All2 R (as ++ as') (bs ++ bs')
  | _, _, _, _, .nil, h => h
  | _, _, _, _, .cons x t, h => .cons x (t.app h)
theorem All2.take {R : α → β → Prop} : ∀ {as : List α} {bs : List β} (n : Nat), All2 R as bs → All2 R (as.take n) (bs.take n)
  | _, _, n, .nil => by simp; exact .nil
  | _, _, 0, .cons _ _ => .nil
  | _, _, n + 1, .cons x t => .cons x (t.take n)
theorem All2.drop {R : α → β → Prop} : ∀ {as : List α} {bs : List β} (n : Nat), All2 R as bs → All2 R (as.drop n) (bs.drop n)
  | _, _, n, .nil => by simp; exact .nil
  | _, _, 0, .cons x t => .cons x t
  | _, _, n + 1, .cons x t => t.drop n
end
theorem IntR.up {i : Int} : Up (IntR i) := fun _ _ _ _ h => h
theorem StrR.up {i : Str} : Up (StrR i) := fun _ _ _ _ h => h
theorem BoolR.up {i : Bool} : Up (BoolR i) := fun _ _ _ _ h => h
theorem EqR.up {i : Value} : Up (EqR i) := fun _ _ _ _ h => h
theorem ListR.up {α : Type} {R : α → Rp} {xs : List α} (u : ∀ x, Up (R x)) : Up (ListR R xs) := fun _ _ _ s ⟨a, vs, n, e, hm, h⟩ => ⟨a, vs, n, e, s _ hm, h.mono fun x v => u x _ _ v s⟩
theorem All2.upR {l l' : Lg} (s : Sub l l') : ∀ {Rs : List Rp} {vs : List Value}, (∀ R ∈ Rs, Up R) → All2 (fun R v => R l v) Rs vs → All2 (fun R v => R l' v) Rs vs
  | _, _, _, .nil => .nil
  | _, _, u, .cons x t => .cons (u _ (.head _) _ _ _ s x) (t.upR s fun R h => u R (.tail _ h))
/-- members one by one -/
theorem ups_nil : ∀ R ∈ ([] : List Rp), Up R := fun _ h => nomatch h
theorem ups_cons {R : Rp} {Rs : List Rp} (x : Up R) (y : ∀ R ∈ Rs, Up R) : ∀ S ∈ R :: Rs, Up S := fun S h => by
  rcases List.mem_cons.mp h with rfl | h
  · exact x
  · exact y S h
theorem TupR.up {Rs : List Rp} (u : ∀ R ∈ Rs, Up R) : Up (TupR Rs) := fun _ _ _ s ⟨a, vs, n, e, hm, h⟩ => ⟨a, vs, n, e, s _ hm, h.upR s u⟩

section
variable {h₀ : Heap} {L : Addr} {m : Str → Option Value} {Y led : Lg} {h : Heap}
theorem At.stay (x : At h₀ L m Y led h) : News h₀ L h led := fun p hp => x.ne p (List.mem_append_right _ hp)
theorem At.y (x : At h₀ L m Y led h) : News h₀ L h Y := fun p hp => x.ne p (List.mem_append_left _ hp)
theorem At.list (x : At h₀ L m Y led h) {a : Addr} {vs : Array Value} {n : Nat} (hm : (a, W.listOf vs n) ∈ led) : h.IsList a vs := ⟨_, (x.stay _ hm).1, rfl, n, rfl⟩
theorem At.tup (x : At h₀ L m Y led h) {a : Addr} {vs : Array Value} {n : Nat} (hm : (a, tupO vs n) ∈ led) : h.IsTuple a vs := ⟨_, (x.stay _ hm).1, rfl, n, rfl⟩
/-- a ledger that grows by new objects -/
theorem At.grow {h' : Heap} {tl : Lg} (x : At h₀ L m Y led h) (F : Fr h₀ L h' m) (N : News h₀ L h' (tl ++ (Y ++ led))) (o : ∀ p ∈ tl, p.1 ∉ Y.map (·.1)) : At h₀ L m Y (tl ++ led) h' :=
  ⟨F, fun p hp => N p (by
    rcases List.mem_append.mp hp with h1 | h1
    · simp [h1]
    · rcases List.mem_append.mp h1 with h1 | h1 <;> simp [h1]), x.nd, fun p hp => by
    rcases List.mem_append.mp hp with hp | hp
    · exact o p hp
    · exact x.off p hp⟩
theorem At.lt (x : At h₀ L m Y led h) : ∀ p ∈ Y ++ led, p.1 < h.objs.size := fun p hp => Heap.lt_size (x.ne p hp).1
end

section
variable {M : Model} {A : Around} {h₀ : Heap} {L : Addr} {m : Str → Option Value} {Y led : Lg} {env : Env} {α β : Type}
theorem Ev.imp {e : Expr} {R R' : Rp} (x : Ev M A h₀ L m Y env e led R) (f : ∀ l v, Sub led l → R l v → R' l v) : Ev M A h₀ L m Y env e led R' := fun l hl => Ws.mk fun s Q E a k =>
  (x l hl).go s Q E a fun v h' tk' led' a' s' r => k v h' tk' led' a' s' (f _ _ (hl.trans s') r)
theorem Ws.imp {t : Sem α} {R R' : Lg → α → Prop} (x : Ws M A h₀ L m Y t led R) (f : ∀ l v, Sub led l → R l v → R' l v) : Ws M A h₀ L m Y t led R' := Ws.mk fun s Q E a k =>
  (x).go s Q E a fun v h' tk' led' a' s' r => k v h' tk' led' a' s' (f _ _ s' r)
theorem ev_bin {l r : Expr} {op : Operator} {pos : Pos} {R1 R2 R3 : Rp} (hl : Ev M A h₀ L m Y env l led R1) (hr : Ev M A h₀ L m Y env r led R2) (U1 : Up R1)
    (h : ∀ led' a b, Sub led led' → R1 led' a → R2 led' b → Ws M A h₀ L m Y (binaryOp op a b) led' R3) : Ev M A h₀ L m Y env (.BinOp l op r pos) led R3 := fun l' hs => Ws.mk fun s Q E at0 k =>
  wpAny_BinOp ((hl l' hs).go s _ _ at0 fun a _ _ l1 at1 s1 r1 => (hr l1 (hs.trans s1)).go _ _ _ at1 fun b _ _ l2 at2 s2 r2 =>
    (h l2 a b (hs.trans (s1.trans s2)) (U1 _ _ _ s2 r1) r2).go _ _ _ at2 fun v h3 t3 l3 at3 s3 r3 => k v h3 t3 l3 at3 (s1.trans (s2.trans s3)) r3)
theorem ev_cmp {l r : Expr} {op : CmpOp} {pos : Pos} {R1 R2 R3 : Rp} (hl : Ev M A h₀ L m Y env l led R1) (hr : Ev M A h₀ L m Y env r led R2) (U1 : Up R1)
    (h : ∀ led' a b, Sub led led' → R1 led' a → R2 led' b → Ws M A h₀ L m Y (compareOp op a b) led' R3) (hb : behindInMarks op r = false := by rfl) : Ev M A h₀ L m Y env (.Compare l [op] [r] pos) led R3 := fun l' hs => Ws.mk fun s Q E at0 k =>
  wpAny_Compare1 ((hl l' hs).go s _ _ at0 fun a _ _ l1 at1 s1 r1 => (hr l1 (hs.trans s1)).go _ _ _ at1 fun b _ _ l2 at2 s2 r2 =>
    (h l2 a b (hs.trans (s1.trans s2)) (U1 _ _ _ s2 r1) r2).go _ _ _ at2 fun v h3 t3 l3 at3 s3 r3 => k v h3 t3 l3 at3 (s1.trans (s2.trans s3)) r3) hb
theorem te_cmp {l r : Expr} {op : CmpOp} {pos : Pos} {R1 R2 : Rp} {b : Bool} (hl : Ev M A h₀ L m Y env l led R1) (hr : Ev M A h₀ L m Y env r led R2) (U1 : Up R1)
    (h : ∀ led' a b', Sub led led' → R1 led' a → R2 led' b' → Ws M A h₀ L m Y (compareOp op a b') led' (BoolR b)) (hb : behindInMarks op r = false := by rfl) : Te M A h₀ L m Y env (.Compare l [op] [r] pos) led b := fun l' hs => Ws.mk fun s Q E at0 k =>
  wpAny_isTrue_Compare1 ((hl l' hs).go s _ _ at0 fun a _ _ l1 at1 s1 r1 => (hr l1 (hs.trans s1)).go _ _ _ at1 fun b _ _ l2 at2 s2 r2 =>
    (h l2 a b (hs.trans (s1.trans s2)) (U1 _ _ _ s2 r1) r2).go _ _ _ at2 fun v h3 t3 l3 at3 s3 r3 => by
      cases r3
      exact wpAny_truthy_bool (k _ h3 t3 l3 at3 (s1.trans (s2.trans s3)) rfl)) hb
theorem ev_sub {l r : Expr} {pos : Pos} {R1 R2 R3 : Rp} (hl : Ev M A h₀ L m Y env l led R1) (hr : Ev M A h₀ L m Y env r led R2) (U1 : Up R1)
    (h : ∀ led' a b, Sub led led' → R1 led' a → R2 led' b → Ws M A h₀ L m Y (subscriptTail l r a b) led' R3) : Ev M A h₀ L m Y env (.Subscript l r pos) led R3 := fun l' hs => Ws.mk fun s Q E at0 k =>
  Subscript_ ((hl l' hs).go s _ _ at0 fun a _ _ l1 at1 s1 r1 => (hr l1 (hs.trans s1)).go _ _ _ at1 fun b _ _ l2 at2 s2 r2 =>
    (h l2 a b (hs.trans (s1.trans s2)) (U1 _ _ _ s2 r1) r2).go _ _ _ at2 fun v h3 t3 l3 at3 s3 r3 => k v h3 t3 l3 at3 (s1.trans (s2.trans s3)) r3)
theorem ev_int {i : Int} {k : Nat} {pos : Pos} : Ev M A h₀ L m Y env (.Constant (.int i) k pos) led (IntR i) := fun _ _ => Ws.mk fun _ _ _ at0 k => wpAny_Constant_int (k _ _ _ _ at0 .rfl ⟨_, rfl⟩)
theorem ev_str {i : Str} {k : Nat} {pos : Pos} : Ev M A h₀ L m Y env (.Constant (.str i) k pos) led (StrR i) := fun _ _ => Ws.mk fun _ _ _ at0 k => Calls.Constant_str (k _ _ _ _ at0 .rfl ⟨_, rfl⟩)
theorem ev_if {t b o : Expr} {pos : Pos} {c : Bool} {R : Rp} (ht : Te M A h₀ L m Y env t led c) (hb : c = true → Ev M A h₀ L m Y env b led R) (ho : c = false → Ev M A h₀ L m Y env o led R) : Ev M A h₀ L m Y env (.IfExp t b o pos) led R := fun l' hs => Ws.mk fun s Q E at0 k =>
  IfExp_ ((ht l' hs).go s _ _ at0 fun c' _ _ l1 at1 s1 r1 => by
    subst r1
    cases c' with
    | true => exact (hb rfl l1 (hs.trans s1)).go _ _ _ at1 fun v h3 t3 l3 at3 s3 r3 => k v h3 t3 l3 at3 (s1.trans s3) r3
    | false => exact (ho rfl l1 (hs.trans s1)).go _ _ _ at1 fun v h3 t3 l3 at3 s3 r3 => k v h3 t3 l3 at3 (s1.trans s3) r3)
/-- the members of a display -/
noncomputable def Sp (M : Model) (A : Around) (h₀ : Heap) (L : Addr) (m : Str → Option Value) (Y : Lg) (env : Env) (pos : Pos) (es : List Expr) (led : Lg) (Rs : List Rp) : Prop :=
  ∀ led', Sub led led' → Ws M A h₀ L m Y (spliced (backTo pos (starEach es env))) led' fun l vs => All2 (fun R v => R l v) Rs vs
theorem sp_nil {pos : Pos} : Sp M A h₀ L m Y env pos [] led [] := fun _ _ => Ws.mk fun _ _ _ at0 k => spliced_none (k _ _ _ _ at0 .rfl .nil)
theorem sp_cons {pos : Pos} {e : Expr} {es : List Expr} {R : Rp} {Rs : List Rp} (x : Ev M A h₀ L m Y env e led R) (y : Sp M A h₀ L m Y env pos es led Rs) (u : Up R)
    (he : starEach (e :: es) env = (false, eval e env) :: starEach es env := by rfl) : Sp M A h₀ L m Y env pos (e :: es) led (R :: Rs) := fun l' hs => Ws.mk fun s Q E at0 k =>
  spliced_more ((x l' hs).go s _ _ at0 fun v _ _ l1 at1 s1 r1 => (y l1 (hs.trans s1)).go _ _ _ at1 fun vs _ _ l2 at2 s2 r2 => k _ _ _ _ at2 (s1.trans s2) (.cons (u _ _ _ s2 r1) r2)) he
theorem ev_tup {pos : Pos} {es : List Expr} {n : Nat} {Rs : List Rp} (x : Sp M A h₀ L m Y env pos es led Rs) (u : ∀ R ∈ Rs, Up R) (hn : Rs.length ≤ sizeLine := by exact Nat.le_of_ble_eq_true rfl) : Ev M A h₀ L m Y env (.Tuple es n pos) led (TupR Rs) := fun l' hs => Ws.mk fun s Q E at0 k =>
  Tuple_ ((x l' hs).go s _ _ at0 fun vs h1 t1 l1 at1 s1 r1 => kup_newTuple at1.fr at1.ne (fun D h' F N hlt => k _ _ _ _ (at1.grow (tl := [(D, tupO vs.toArray 0)]) F N fun p hp hm => by
    obtain rfl := List.mem_singleton.mp hp
    obtain ⟨q, hq, e⟩ := List.mem_map.mp hm
    exact absurd (hlt q (List.mem_append_left _ hq)) (by rw [e]; exact Nat.lt_irrefl _)) (s1.trans .add) ⟨D, vs, 0, rfl, .head _, r1.upR .add u⟩) (r1.length ▸ hn))
/-- a display of members of one kind -/
theorem all2_each {R : α → Rp} {l : Lg} : ∀ {xs : List α} {vs : List Value}, All2 (fun R v => R l v) (xs.map R) vs → All2 (fun x v => R x l v) xs vs
  | [], _, .nil => .nil
  | _ :: _, _, .cons x t => .cons x (all2_each t)
theorem ev_list {pos : Pos} {es : List Expr} {R : α → Rp} {xs : List α} (x : Sp M A h₀ L m Y env pos es led (xs.map R)) (u : ∀ x, Up (R x)) (hn : xs.length ≤ sizeLine := by exact Nat.le_of_ble_eq_true rfl) : Ev M A h₀ L m Y env (.List es pos) led (ListR R xs) := fun l' hs => Ws.mk fun s Q E at0 k =>
  List_ ((x l' hs).go s _ _ at0 fun vs h1 t1 l1 at1 s1 r1 => newList_K at1.fr at1.ne (fun D h' F N hlt => k _ _ _ _ (at1.grow (tl := [(D, W.listOf vs.toArray 0)]) F N fun p hp hm => by
    obtain rfl := List.mem_singleton.mp hp
    obtain ⟨q, hq, e⟩ := List.mem_map.mp hm
    exact absurd (hlt q (List.mem_append_left _ hq)) (by rw [e]; exact Nat.lt_irrefl _)) (s1.trans .add) ⟨D, vs, 0, rfl, .head _, (all2_each r1).mono fun x v h => u x _ _ _ .add h⟩) (by have := r1.length; rw [List.length_map] at this; omega))
end
end Mine
end
noncomputable section
open PySem PySem.W PyProof.Rows PySem.Calls PySem.Spec
set_option maxRecDepth 100000
set_option linter.unusedVariables false
namespace Mine
open LCg
theorem allObj_intro : ∀ {ws : List (Addr × String)} {k : Lg → Prop}, (∀ its, Objs ws its → k its) → AllObj ws k
  | [], _, h => AllObj.nil (h [] trivial)
  | w :: r, k, h => AllObj.cons fun o ho => allObj_intro fun its hi => h _ ⟨⟨rfl, ho⟩, hi⟩
theorem allCell_intro : ∀ {ca : List Addr} {k : Lg → Prop}, (∀ ce, ce.map (·.1) = ca → (∀ p ∈ ce, ∃ v, p.2.data = .cell v) → k ce) → AllCell ca k
  | [], _, h => h [] rfl fun _ hp => nomatch hp
  | a :: r, k, h => fun o v hd => allCell_intro fun ce h1 h2 => h _ (by simp [h1]) fun p hp => by
    rcases List.mem_cons.mp hp with rfl | hp
    · exact ⟨v, hd⟩
    · exact h2 p hp
theorem cellAddrs_nd : ∀ (names : List (Str × NameKind)) (n : Nat), (cellAddrs n names).Nodup ∧ ∀ b ∈ cellAddrs n names, n ≤ b
  | [], n => ⟨List.nodup_nil, fun _ h => nomatch h⟩
  | (x, k) :: r, n => by
    unfold cellAddrs
    split
    · obtain ⟨h1, h2⟩ := cellAddrs_nd r (n + 1)
      refine ⟨List.nodup_cons.mpr ⟨fun h => absurd (h2 _ h) (Nat.not_succ_le_self n), h1⟩, fun b hb => ?_⟩
      rcases List.mem_cons.mp hb with rfl | hb
      · exact Nat.le_refl _
      · exact Nat.le_of_succ_le (h2 b hb)
    · exact cellAddrs_nd r n

section
variable {h₀ h h' : Heap} {L : Addr} {m : Str → Option Value} {Y led Y1 Y2 : Lg} {a : Addr} {o o' : Obj}
/-- one of the entries that turn over is written -/
theorem At.set (x : At h₀ L m (Y1 ++ ((a, o) :: Y2)) led h) (hs : Heap.SameBut a h h') (ho : h'.get? a = some o') : At h₀ L m (Y1 ++ ((a, o') :: Y2)) led h' := by
  have za := x.ne (a, o) (by simp)
  have hmap : (Y1 ++ ((a, o') :: Y2)).map (·.1) = (Y1 ++ ((a, o) :: Y2)).map (·.1) := by simp
  have nd := x.nd
  rw [List.map_append, List.map_cons, List.nodup_append] at nd
  obtain ⟨_, n2, n3⟩ := nd
  refine ⟨x.fr.change hs za.2.1 za.2.2, fun p hp => ?_, hmap ▸ x.nd, hmap ▸ x.off⟩
  have keep : p ∈ (Y1 ++ ((a, o) :: Y2)) ++ led → p.1 ≠ a → h'.get? p.1 = some p.2 ∧ p.1 ≠ L ∧ h₀.get? p.1 = none := fun hm hn => ⟨hs.extBut _ _ hn (x.ne p hm).1, (x.ne p hm).2⟩
  rcases List.mem_append.mp hp with hp | hp
  · rcases List.mem_append.mp hp with hp | hp
    · exact keep (by simp [hp]) fun e => n3 p.1 (List.mem_map.mpr ⟨p, hp, rfl⟩) a (.head _) e
    · rcases List.mem_cons.mp hp with rfl | hp
      · exact ⟨ho, za.2⟩
      · exact keep (by simp [hp]) fun e => (List.nodup_cons.mp n2).1 (e ▸ List.mem_map.mpr ⟨p, hp, rfl⟩)
  · exact keep (by simp [hp]) fun e => x.off p hp (by simp [e])
theorem At.frame {x : Str} {v : Value} (q : At h₀ L m Y led h) (hn : h'.Ns L (fun y => if y = x then some v else m y)) (hs : Heap.SameBut L h h') : At h₀ L (fun y => if y = x then some v else m y) Y led h' :=
  ⟨q.fr.set hn hs, q.ne.set hs, q.nd, q.off⟩
end

section
variable {prog : Program} {w : World} {A : Around} {h₀ : Heap} {L : Addr} {m : Str → Option Value} {Y led : Lg} {env : Env} {α β : Type}
/-- the rule for a target inside a comprehension -/
structure TgtOk (prog : Program) (w : World) (A : Around) (h₀ : Heap) (L : Addr) (m : Str → Option Value) (target : Expr) (cenv : Env) (C : Addr) (ca : List Addr) (IR : α → Heap → Lg → Value → Prop) (Own : Lg → Lg → α → Prop) : Prop where
  go : ∀ (x : α) (Y1 Y2 ce led : Lg) (oC : Obj) (m₂ : Str → Option Value) (v : Value) (s : Shared) (Q : Unit → Shared → Prop) (E : Value → Shared → Prop),
    NsObj oC m₂ → ce.map (·.1) = ca → (∀ p ∈ ce, ∃ v, p.2.data = .cell v) → At h₀ L m (Y1 ++ ((C, oC) :: (ce ++ Y2))) led s.heap → IR x s.heap led v →
    (∀ h' tk' oC' m' ce', NsObj oC' m' → ce'.map (·.1) = ca → (∀ p ∈ ce', ∃ v, p.2.data = .cell v) → At h₀ L m (Y1 ++ ((C, oC') :: (ce' ++ Y2))) led h' → Own (Y1 ++ ((C, oC') :: (ce' ++ Y2))) led x → Q () { s with heap := h', toks := tk' }) →
    wpAny (model prog w) A (assign target cenv v) Q E s
/-- tests of a clause -/
noncomputable def IfsOk (M : Model) (A : Around) (h₀ : Heap) (L : Addr) (m : Str → Option Value) (Y : Lg) (cenv : Env) (ifs : List Expr) (led : Lg) (b : Bool) : Prop :=
  Ws M A h₀ L m Y (forIn ifs true fun c r => if r = true then do let ok ← isTrue c cenv (eval c cenv); pure (ForInStep.yield ok) else pure (ForInStep.yield r)) led fun _ c => c = b
noncomputable def Body (M : Model) (A : Around) (h₀ : Heap) (L : Addr) (m : Str → Option Value) (Y : Lg) (cenv : Env) (ifs : List Expr) (elt : Expr) (led : Lg) (g : Option β) (Rb : β → Rp) : Prop :=
  match g with
  | none => IfsOk M A h₀ L m Y cenv ifs led false
  | some y => IfsOk M A h₀ L m Y cenv ifs led true ∧ Ev M A h₀ L m Y cenv elt led (Rb y)

theorem ifs_none {M : Model} {cenv : Env} : IfsOk M A h₀ L m Y cenv [] led true := Ws.mk fun s Q E at0 k => by
  rw [List.forIn_nil]
  exact wpAny_pure (k _ _ _ _ at0 .rfl rfl)
theorem ifs_one {M : Model} {cenv : Env} {t : Expr} {b : Bool} (h : Te M A h₀ L m Y cenv t led b) : IfsOk M A h₀ L m Y cenv [t] led b := Ws.mk fun s Q E at0 k => by
  rw [List.forIn_cons]
  simp only [if_true]
  refine wpAny_bind (wpAny_bind ((h led .rfl).go s _ _ at0 fun v h' tk' l' at' s' r => ?_))
  refine wpAny_pure ?_
  dsimp only
  rw [List.forIn_nil]
  exact wpAny_pure (k _ _ _ _ at' s' r)

theorem filterMap_snoc (g : α → Option β) {xs : List α} {i : Nat} {x : α} (h : xs[i]? = some x) : (xs.take (i + 1)).filterMap g = (xs.take i).filterMap g ++ (g x).toList := by
  rw [List.take_add_one, h, List.filterMap_append]
  cases hg : g x <;> simp [hg]

noncomputable def NoSeq (T : String) : Prop := T ≠ "list" ∧ T ≠ "tuple"
noncomputable def NoTup (o : Obj) : Prop := ∀ vs n, o ≠ tupO vs n
theorem noTup_ns {o : Obj} {m : Str → Option Value} (x : NsObj o m) : NoTup o := fun vs n e => by
  obtain ⟨es, ep, hd, _⟩ := x
  rw [e] at hd
  cases hd
theorem noTup_cell {o : Obj} {v : Option Value} (x : o.data = .cell v) : NoTup o := fun vs n e => by
  rw [e] at x
  cases x
theorem noTup_lst {ys : List Value} : NoTup (lst ys) := fun vs n e => absurd (Value.type.inj (congrArg Obj.cls e)) (by decide)
theorem noTup_cls {o : Obj} {T : String} (x : o.cls = .type T) (h : NoSeq T) : NoTup o := fun vs n e => by
  rw [e] at x
  exact h.2 (Value.type.inj x).symm
theorem objs_cls0 : ∀ {ws : List (Addr × String)} {its : Lg}, Objs ws its → ∀ p ∈ its, ∃ b ∈ ws, p.2.cls = .type b.2
  | [], [], _, p, hp => nomatch hp
  | [], _ :: _, h, _, _ => (show False from h).elim
  | _ :: _, [], h, _, _ => (show False from h).elim
  | w :: ws, q :: its, h, p, hp => by
    rcases List.mem_cons.mp hp with rfl | hp
    · exact ⟨w, .head _, h.1.2⟩
    · obtain ⟨b, hb, e⟩ := objs_cls0 h.2 p hp
      exact ⟨b, .tail _ hb, e⟩
theorem noTup3 {ws : List (Addr × String)} {Y Y' : Lg} (hcl : ∀ b ∈ ws, NoSeq b.2) (h : ∀ q ∈ Y', q ∈ Y ∨ NoTup q.2 ∨ ∃ b ∈ ws, q.2.cls = .type b.2) : ∀ q ∈ Y', q ∈ Y ∨ NoTup q.2 := fun q hq => by
  rcases h q hq with h | h | ⟨b, hb, e⟩
  · exact .inl h
  · exact .inr h
  · exact .inr (noTup_cls e (hcl b hb))
theorem objs_cls : ∀ {ws : List (Addr × String)} {its : Lg}, (∀ b ∈ ws, NoSeq b.2) → Objs ws its → ∀ p ∈ its, ∃ T, p.2.cls = .type T ∧ NoSeq T
  | [], [], _, _, p, hp => nomatch hp
  | [], _ :: _, _, h, _, _ => (show False from h).elim
  | _ :: _, [], _, h, _, _ => (show False from h).elim
  | w :: ws, q :: its, hc, h, p, hp => by
    rcases List.mem_cons.mp hp with rfl | hp
    · exact ⟨w.2, h.1.2, hc _ (.head _)⟩
    · exact objs_cls (fun b hb => hc b (.tail _ hb)) h.2 p hp
/-- a block over a source: the turns judged -/
theorem blk_ev {elt target : Expr} {ifs : List Expr} {scope : Scope} {cl : List (Str × Addr)} {Fin : Shared → Addr → List (Addr × Obj) → Prop} {s₂ : Shared} {fx : List (Addr × Obj)} {ws : List (Addr × String)} {Pv : Nat → Value → Heap → Prop} {I : Addr}
    {IR : α → Heap → Lg → Value → Prop} {Own : Addr → Lg → Lg → α → Prop} {g : α → Option β} {Rb : β → Rp} {xs : List α}
    (at0 : At h₀ L m Y led s₂.heap) (S : SrcOk prog w A target h₀ L fx ws xs.length Pv I s₂.heap) (hsz : xs.length ≤ sizeLine) (hfx : ∀ p ∈ fx, p ∈ Y ++ led) (hoff : ∀ p ∈ Y ++ led, p.1 ∉ ws.map (·.1)) (hnd : (ws.map (·.1)).Nodup)
    (hitem : ∀ i v h led', Sub led led' → News h₀ L h led' → Pv i v h → ∃ x, xs[i]? = some x ∧ IR x h led' v)
    (tgt : ∀ C, TgtOk prog w A h₀ L m target (cenvOf scope cl C env) C (cellAddrs (C + 1) scope.names) IR (Own C))
    (body : ∀ C Y' led' x, x ∈ xs → Sub Y Y' → (∀ q ∈ Y', q ∈ Y ∨ NoTup q.2 ∨ ∃ b ∈ ws, q.2.cls = .type b.2) → Sub led led' → Own C Y' led' x → Body (model prog w) A h₀ L m Y' (cenvOf scope cl C env) ifs elt led' (g x) Rb)
    (ub : ∀ y, Up (Rb y))
    (fin : ∀ D ys c, Sub led c → (∀ p ∈ c, p.1 ∉ Y.map (·.1)) → (∀ p ∈ Y ++ c, p.1 ≠ D) → All2 (fun b v => Rb b c v) (xs.filterMap g) ys → Fin s₂ D ((D, lst ys) :: (Y ++ c))) :
    BlkAt prog w A h₀ L m env cl target elt ifs scope Fin (.ref I) s₂ := by
  have hws : (∀ b ∈ ws.map (·.1), b < s₂.heap.objs.size) := by
    obtain ⟨fp, wr, Md, St, W, h1, h2, h3, h4, h5, h6, h7, h8⟩ := S
    exact fun b hb => h7 b (h4 b hb).1
  refine blk_of (elt := elt) (ifs := ifs) (scope := scope) (cl := cl) (Fin := Fin) S hsz (σ := { c : Lg // Sub led c }) (fun c => Y ++ c.1) (fun i ys c => (∀ p ∈ c.1, p.1 ∉ Y.map (·.1)) ∧ All2 (fun b v => Rb b c.1 v) ((xs.take i).filterMap g) ys) ⟨led, .rfl⟩ ?_ at0.fr at0.ne hoff ⟨at0.off, .nil⟩ ?_ ?_
  · intro c p hp
    rcases List.mem_append.mp (hfx p hp) with h | h
    · exact List.mem_append_left _ h
    · exact List.mem_append_right _ (c.2 p h)
  · rintro C D ⟨hD, hC⟩ ⟨c, hP1⟩ i ys v oC m₂ h tk E' hi hPv ⟨hP2, hP3⟩ hoC F off
    refine allObj_intro fun its hits => allCell_intro fun ce hce hcd N => ?_
    have him := hits.map
    have e1 : its ++ ((C, oC) :: (ce ++ ((D, lst ys) :: (Y ++ c)))) = (its ++ ((C, oC) :: (ce ++ ((D, lst ys) :: Y)))) ++ c := by simp
    rw [e1] at N
    obtain ⟨cn1, cn2⟩ := cellAddrs_nd scope.names (C + 1)
    have hwl : ∀ b ∈ ws.map (·.1), b < D := fun b hb => hD ▸ hws b hb
    have hCD : D < C := hC ▸ Nat.lt_succ_self _
    have at1 : At h₀ L m (its ++ ((C, oC) :: (ce ++ ((D, lst ys) :: Y)))) c h := by
      refine ⟨F, N, ?_, fun p hp hm => ?_⟩
      · simp only [List.map_append, List.map_cons, him, hce]
        refine List.nodup_append.mpr ⟨hnd, List.nodup_cons.mpr ⟨fun hm => ?_, List.nodup_append.mpr ⟨cn1, List.nodup_cons.mpr ⟨fun hm => ?_, at0.nd⟩, fun a ha b hb e => ?_⟩⟩, fun a ha b hb e => ?_⟩
        · rcases List.mem_append.mp hm with hm | hm
          · exact absurd (cn2 _ hm) (Nat.not_succ_le_self _)
          · rcases List.mem_cons.mp hm with e | hm
            · exact absurd hCD (e ▸ Nat.lt_irrefl _)
            · obtain ⟨q, hq, e⟩ := List.mem_map.mp hm
              exact (off q (List.mem_append_left _ hq)).2.1 e
        · obtain ⟨q, hq, e⟩ := List.mem_map.mp hm
          exact (off q (List.mem_append_left _ hq)).2.2.1 e
        · subst e
          rcases List.mem_cons.mp hb with e | hm
          · have := cn2 _ ha
            rw [e] at this
            exact absurd (Nat.lt_trans hCD this) (Nat.lt_irrefl _)
          · obtain ⟨q, hq, e⟩ := List.mem_map.mp hm
            exact (off q (List.mem_append_left _ hq)).2.2.2 (e ▸ ha)
        · subst e
          have hlt := hwl _ ha
          rcases List.mem_cons.mp hb with e | hb
          · exact absurd (Nat.lt_trans hlt hCD) (e ▸ Nat.lt_irrefl _)
          · rcases List.mem_append.mp hb with hm | hb
            · have := cn2 _ hm
              exact absurd (Nat.lt_trans (Nat.lt_trans hlt hCD) this) (Nat.lt_irrefl _)
            · rcases List.mem_cons.mp hb with e | hm
              · exact absurd hlt (e ▸ Nat.lt_irrefl _)
              · obtain ⟨q, hq, e⟩ := List.mem_map.mp hm
                exact (off q (List.mem_append_left _ hq)).1 (e ▸ ha)
      · have h3 := off p (List.mem_append_right _ hp)
        simp only [List.map_append, List.map_cons, him, hce] at hm
        rcases List.mem_append.mp hm with hm | hm
        · exact h3.1 hm
        rcases List.mem_cons.mp hm with hm | hm
        · exact h3.2.1 hm
        rcases List.mem_append.mp hm with hm | hm
        · exact h3.2.2.2 hm
        rcases List.mem_cons.mp hm with hm | hm
        · exact h3.2.2.1 hm
        · exact hP2 p hp hm
    obtain ⟨x, hx, hIR⟩ := hitem i v h c hP1 at1.stay hPv
    have hxm : x ∈ xs := List.mem_of_getElem? hx
    have hsnoc := filterMap_snoc g hx
    refine (tgt C).go x its ((D, lst ys) :: Y) ce c oC m₂ v { s₂ with heap := h, toks := tk } _ _ hoC hce hcd at1 hIR fun h2 tk2 oC' m' ce' hoC' hce' hcd' at2 hown => ?_
    have hb := body C _ c x hxm (fun p hp => by simp [hp]) (fun q hq => by
      rcases List.mem_append.mp hq with hq | hq
      · exact .inr (.inr (objs_cls0 hits q hq))
      rcases List.mem_cons.mp hq with rfl | hq
      · exact .inr (.inl (noTup_ns hoC'))
      rcases List.mem_append.mp hq with hq | hq
      · obtain ⟨v, hv⟩ := hcd' q hq
        exact .inr (.inl (noTup_cell hv))
      rcases List.mem_cons.mp hq with rfl | hq
      · exact .inr (.inl noTup_lst)
      · exact .inl hq) hP1 hown
    have fin : ∀ (P' : { c : Lg // Sub led c } → Prop) (h3 : Heap) (tk3 : Nat) (l3 : Lg) (s3 : Sub led l3), At h₀ L m (its ++ ((C, oC') :: (ce' ++ ((D, lst ys) :: Y)))) l3 h3 → P' ⟨l3, s3⟩ →
        BEnd (fun c : { c : Lg // Sub led c } => Y ++ c.1) h₀ L m (ws.map (·.1)) (cellAddrs (C + 1) scope.names) C D its ys P' { s₂ with heap := h, toks := tk } { s₂ with heap := h3, toks := tk3 } := by
      intro P' h3 tk3 l3 s3 at3 hp3
      refine ⟨⟨l3, s3⟩, h3, tk3, _, rfl, at3.fr, at3.ne, fun p hp => by simp [hp], ⟨oC', m', by simp, hoC'⟩, fun b hb => ?_, by simp, fun p hp => ?_, fun p hp => ?_, hp3⟩
      · rw [← hce'] at hb
        obtain ⟨q, hq, rfl⟩ := List.mem_map.mp hb
        obtain ⟨v, hv⟩ := hcd' q hq
        exact ⟨q.2, v, by simp [hq], hv⟩
      · rcases List.mem_append.mp hp with hp | hp <;> simp [hp]
      · rcases List.mem_append.mp hp with hp | hp
        · exact off p (List.mem_append_left _ hp)
        · have h4 := at3.off p hp
          simp only [List.map_append, List.map_cons, him, hce', List.mem_append, List.mem_cons, not_or] at h4
          exact ⟨h4.1, h4.2.1, h4.2.2.2.1, h4.2.2.1⟩
    have offY : ∀ {h3 l3}, At h₀ L m (its ++ ((C, oC') :: (ce' ++ ((D, lst ys) :: Y)))) l3 h3 → ∀ p ∈ l3, p.1 ∉ Y.map (·.1) := fun at3 p hp hm => at3.off p hp (by
      simp only [List.map_append, List.map_cons, List.mem_append, List.mem_cons]
      exact .inr (.inr (.inr (.inr hm))))
    unfold Body at hb
    cases hg : g x with
    | none =>
      rw [hg] at hb hsnoc
      simp only [Option.toList_none, List.append_nil] at hsnoc
      refine (hb).go _ _ _ at2 fun ok h3 tk3 l3 at3 s3 r3 => ?_
      subst r3
      simp only [Bool.false_eq_true, if_false]
      refine fin _ h3 tk3 l3 (hP1.trans s3) at3 ⟨offY at3, ?_⟩
      rw [hsnoc]
      exact hP3.mono fun b v h => ub b _ _ _ s3 h
    | some y =>
      rw [hg] at hb hsnoc
      simp only [Option.toList_some] at hsnoc
      refine (hb.1).go _ _ _ at2 fun ok h3 tk3 l3 at3 s3 r3 => ?_
      subst r3
      simp only [if_true]
      refine (hb.2 l3 s3).go _ _ _ at3 fun yv h4 tk4 l4 at4 s4 r4 => ?_
      refine fin _ h4 tk4 l4 (hP1.trans (s3.trans s4)) at4 ⟨offY at4, ?_⟩
      rw [hsnoc]
      exact (hP3.mono fun b v h => ub b _ _ _ (s3.trans s4) h).app (.cons r4 .nil)
  · rintro D ys ⟨c, hP1⟩ hD _ ⟨hP2, hP3⟩
    rw [List.take_of_length_le (Nat.le_refl _)] at hP3
    exact fin D ys c hP1 hP2 hD hP3
end
end Mine
end
noncomputable section
open PySem PySem.W PyProof.Rows PySem.Calls PySem.Spec
set_option maxRecDepth 100000
set_option linter.unusedVariables false
namespace Mine
open LCg
section
variable {prog : Program} {w : World} {A : Around} {h₀ : Heap} {L : Addr} {m : Str → Option Value} {Y led : Lg} {env : Env} {α β : Type}
/-- what a clause runs over -/
structure ItA (prog : Program) (w : World) (A : Around) (h₀ : Heap) (L : Addr) (m : Str → Option Value) (Y : Lg) (env : Env) (iter target : Expr) (led' : Lg) (xs : List α) (IR : α → Heap → Lg → Value → Prop) : Prop where
  go : ∀ (s : Shared) (Q E : Value → Shared → Prop), At h₀ L m Y led' s.heap →
    (∀ I h' tk' l1 fx ws Pv, At h₀ L m Y l1 h' → Sub led' l1 → SrcOk prog w A target h₀ L fx ws xs.length Pv I h' → (∀ p ∈ fx, p ∈ l1) → (∀ p ∈ Y ++ l1, p.1 ∉ ws.map (·.1)) → (ws.map (·.1)).Nodup →
      (∀ i v h l2, Sub l1 l2 → News h₀ L h l2 → Pv i v h → ∃ x, xs[i]? = some x ∧ IR x h l2 v) → (∀ b ∈ ws, NoSeq b.2) → Q (.ref I) { s with heap := h', toks := tk' }) →
    wpAny (model prog w) A (eval iter env) (fun xv s₁ => wpAny (model prog w) A (pyIter xv) Q E s₁) E s
noncomputable def It (prog : Program) (w : World) (A : Around) (h₀ : Heap) (L : Addr) (m : Str → Option Value) (Y : Lg) (env : Env) (iter target : Expr) (led : Lg) (xs : List α) (IR : α → Heap → Lg → Value → Prop) : Prop :=
  ∀ led', Sub led led' → ItA prog w A h₀ L m Y env iter target led' xs IR

noncomputable def NameIR (R : α → Rp) : α → Heap → Lg → Value → Prop := fun x _ l v => R x l v
noncomputable def PairIR {γ : Type} (R1 : α → Rp) (R2 : γ → Rp) : α × γ → Heap → Lg → Value → Prop := fun x h l v => ∃ T a b, v = .ref T ∧ IsTup h T #[a, b] ∧ R1 x.1 l a ∧ R2 x.2 l b
noncomputable def PairR {γ : Type} (R1 : α → Rp) (R2 : γ → Rp) : α × γ → Rp := fun x => TupR [R1 x.1, R2 x.2]
theorem PairR.up {γ : Type} {R1 : α → Rp} {R2 : γ → Rp} (u1 : ∀ x, Up (R1 x)) (u2 : ∀ x, Up (R2 x)) (x : α × γ) : Up (PairR R1 R2 x) := TupR.up (ups_cons (u1 _) (ups_cons (u2 _) ups_nil))
theorem PairR.ir {γ : Type} {R1 : α → Rp} {R2 : γ → Rp} {x : α × γ} {h : Heap} {l : Lg} {v : Value} (N : News h₀ L h l) (r : PairR R1 R2 x l v) : PairIR R1 R2 x h l v := by
  obtain ⟨a, vs, n, rfl, hm, r⟩ := r
  cases r with | cons r1 r => cases r with | cons r2 r => cases r with | nil => exact ⟨a, _, _, rfl, ⟨_, (N _ hm).1, rfl, n, rfl⟩, r1, r2⟩

theorem it_ofList {iter target : Expr} {R : α → Rp} {xs : List α} (hh : A.handled = none) (x : Ev (model prog w) A h₀ L m Y env iter led (ListR R xs)) (u : ∀ x, Up (R x)) : It prog w A h₀ L m Y env iter target led xs (NameIR R) := by
  refine fun l' hs => ItA.mk fun s Q E at0 k => ?_
  refine (x l' hs).go s _ _ at0 fun v h1 t1 l1 at1 s1 r1 => ?_
  obtain ⟨a, vs, n, rfl, hm, r⟩ := r1
  refine it_list (target := target) hh at1.fr at1.ne (List.mem_append_right _ hm) rfl rfl fun h' S F N hlt => ?_
  rw [← r.length] at S
  refine k _ _ _ l1 _ _ _ ⟨F, N, at1.nd, at1.off⟩ s1 S (fun p hp => by rw [List.mem_singleton.mp hp]; exact hm) (fun p hp hq => ?_) (by simp) (fun i v h l2 s2 _ hv => ?_) (fun b hb => by rw [List.mem_singleton.mp hb]; exact (⟨by decide, by decide⟩ : NoSeq "list_iterator"))
  · have := List.mem_singleton.mp hq
    exact absurd (hlt p hp) (by rw [this]; exact Nat.lt_irrefl _)
  · obtain ⟨x, hx, r⟩ := r.get' hv
    exact ⟨x, hx, u x _ _ _ s2 r⟩
theorem it_pairs {γ : Type} {iter target : Expr} {R1 : α → Rp} {R2 : γ → Rp} {xs : List (α × γ)} (x : It prog w A h₀ L m Y env iter target led xs (NameIR (PairR R1 R2))) : It prog w A h₀ L m Y env iter target led xs (PairIR R1 R2) := fun l' hs => ItA.mk fun s Q E at0 k =>
  (x l' hs).go s Q E at0 fun I h' tk' l1 fx ws Pv at1 s1 S h1 h2 h3 h4 h5 => k I h' tk' l1 fx ws Pv at1 s1 S h1 h2 h3 (fun i v h l2 s2 N hv => by
    obtain ⟨x, hx, r⟩ := h4 i v h l2 s2 N hv
    exact ⟨x, hx, PairR.ir N r⟩) h5
theorem it_ofTup {iter target : Expr} {R : α → Rp} {xs : List α} (hh : A.handled = none) (x : Ev (model prog w) A h₀ L m Y env iter led (TupR (xs.map R))) (u : ∀ x, Up (R x)) : It prog w A h₀ L m Y env iter target led xs (NameIR R) := by
  refine fun l' hs => ItA.mk fun s Q E at0 k => ?_
  refine (x l' hs).go s _ _ at0 fun v h1 t1 l1 at1 s1 r1 => ?_
  obtain ⟨a, vs, n, rfl, hm, r⟩ := r1
  have r := all2_each r
  refine it_tuple (target := target) hh at1.fr at1.ne (List.mem_append_right _ hm) rfl rfl fun h' S F N hlt => ?_
  rw [← r.length] at S
  refine k _ _ _ l1 _ _ _ ⟨F, N, at1.nd, at1.off⟩ s1 S (fun p hp => by rw [List.mem_singleton.mp hp]; exact hm) (fun p hp hq => ?_) (by simp) (fun i v h l2 s2 _ hv => ?_) (fun b hb => by rw [List.mem_singleton.mp hb]; exact (⟨by decide, by decide⟩ : NoSeq "tuple_iterator"))
  · have := List.mem_singleton.mp hq
    exact absurd (hlt p hp) (by rw [this]; exact Nat.lt_irrefl _)
  · obtain ⟨x, hx, r⟩ := r.get' hv
    exact ⟨x, hx, u x _ _ _ s2 r⟩
/-- a range -/
noncomputable def RangeR (a b : Int) : Rp := fun l v => ∃ r t u w, v = .ref r ∧ (r, ({ cls := .type "range", dict := none, data := .fields #[.int a t, .int b u, .int 1 w], slots := #[] } : Obj)) ∈ l
theorem it_ofRange {iter : Expr} {x : Str} {px : Pos} {a b : Int} {n : Nat} (hh : A.handled = none) (z : Ev (model prog w) A h₀ L m Y env iter led (RangeR a b)) (hsmall : Builtin.Range.small a b 1 = true) (hn : Builtin.Range.rangeSize a b 1 = (n : Int)) :
    It prog w A h₀ L m Y env iter (.Name x px) led ((List.range n).map fun i : Nat => a + (i : Int)) (NameIR IntR) := by
  refine fun l' hs => ItA.mk fun s Q E at0 k => ?_
  refine (z l' hs).go s _ _ at0 fun v h1 t1 l1 at1 s1 r1 => ?_
  obtain ⟨r, t, u, w, rfl, hm⟩ := r1
  refine it_range (x := x) (px := px) hh at1.fr at1.ne (at1.stay _ hm).1 hsmall hn fun h' S F N hlt => ?_
  have e : n = ((List.range n).map fun i : Nat => a + (i : Int)).length := by simp
  rw [e] at S
  refine k _ _ _ l1 _ _ _ ⟨F, N, at1.nd, at1.off⟩ s1 S (fun p hp => nomatch hp) (fun p hp hq => ?_) (by simp) (fun i v h l2 s2 _ hv => ?_) (fun b hb => by rw [List.mem_singleton.mp hb]; exact (⟨by decide, by decide⟩ : NoSeq "range_iterator"))
  · have := List.mem_singleton.mp hq
    exact absurd (hlt p hp) (by rw [this]; exact Nat.lt_irrefl _)
  · obtain ⟨hi, t, rfl⟩ := hv
    rw [← e] at hi
    exact ⟨a + (i : Int), by simp [hi], t, rfl⟩

/-- a comprehension of one clause -/
theorem ev_comp {elt target iter : Expr} {ifs : List Expr} {scope : Scope} {cl : List (Str × Addr)} {pos : Pos} {IR : α → Heap → Lg → Value → Prop} {Own : Addr → Lg → Lg → α → Prop} {g : α → Option β} {Rb : β → Rp} {xs : List α}
    (hclos : closureFor scope env = pure cl) (hkind : scope.kind = .function) (hnames : ∀ y ∈ scope.names, y.2 = .local → scope.names.lookup y.1 = some .local)
    (hit : It prog w A h₀ L m Y env iter target led xs IR) (hsz : xs.length ≤ sizeLine)
    (tgt : ∀ C, TgtOk prog w A h₀ L m target (cenvOf scope cl C env) C (cellAddrs (C + 1) scope.names) IR (Own C))
    (body : ∀ C Y' led' x, x ∈ xs → Sub Y Y' → (∀ q ∈ Y', q ∈ Y ∨ NoTup q.2) → Sub led led' → Own C Y' led' x → Body (model prog w) A h₀ L m Y' (cenvOf scope cl C env) ifs elt led' (g x) Rb)
    (ub : ∀ y, Up (Rb y)) (hs : ∀ x, foldedSetIterable iter env x = pure x := by intro _; rfl) :
    Ev (model prog w) A h₀ L m Y env (.ListComp elt [⟨target, iter, ifs, 0⟩] scope pos) led (ListR Rb (xs.filterMap g)) := by
  refine fun l' hsub => Ws.mk fun s Q E at0 k => ?_
  refine ListComp_B (h₀ := h₀) (L := L) (m := m) hclos hkind hnames ?_ hs
  refine (hit l' hsub).go s _ _ at0 fun I h' tk' l1 fx ws Pv at1 s1 S hfx hoff hnd hitem hcl => ?_
  refine blk_ev (IR := IR) (Own := Own) (g := g) (Rb := Rb) at1 S hsz (fun p hp => List.mem_append_right _ (hfx p hp)) hoff hnd hitem tgt (fun C Y' led' x hx hy hn hl ho => body C Y' led' x hx hy (noTup3 hcl hn) (hsub.trans (s1.trans hl)) ho) ub fun D ys c hc ho hD r => ?_
  intro h tk F N
  refine k _ _ _ ((D, lst ys) :: c) ⟨F, fun p hp => N p ?_, at1.nd, fun p hp hm => ?_⟩ (s1.trans (hc.trans .cons)) ⟨D, ys, _, rfl, .head _, r.mono fun b v h => ub b _ _ _ .cons h⟩
  · rcases List.mem_append.mp hp with hp | hp
    · simp [hp]
    · rcases List.mem_cons.mp hp with rfl | hp <;> simp [*]
  · rcases List.mem_cons.mp hp with rfl | hp
    · obtain ⟨q, hq, e⟩ := List.mem_map.mp hm
      exact hD q (List.mem_append_left _ hq) e
    · exact ho p hp hm

/-- targets -/
theorem tgt_name {x : Str} {px : Pos} {scope : Scope} {cl : List (Str × Addr)} {C : Addr} {ca : List Addr} {R : α → Rp} (u : ∀ a, Up (R a)) (hk : (cenvOf scope cl C env).scope.kind = .function) (hx : (cenvOf scope cl C env).kindOf x = some .local)
    (hdb : (x == ("__debug__" : Str)) = false) : TgtOk prog w A h₀ L m (.Name x px) (cenvOf scope cl C env) C ca (NameIR R) (fun Y' l a => ∀ pos, Ev (model prog w) A h₀ L m Y' (cenvOf scope cl C env) (.Name x pos) l (R a)) := by
  refine TgtOk.mk fun a Y1 Y2 ce led oC m₂ v s Q E hoC hce hcd at0 hr k => ?_
  have z := at0.ne (C, oC) (by simp)
  refine wpAny_assign_Name (wpAny_storeName_local hx (hoC.ns z.1) (fun h' hn hs => ?_) (by rw [hk]; rfl))
  obtain ⟨oC', heC', hoC'⟩ := ns_obj hn
  refine k _ _ oC' _ ce hoC' hce hcd (at0.set hs heC') fun pos l hl => Ws.mk fun s₁ Q₁ E₁ at1 k₁ => ?_
  exact LCgL.ld_own at1.ne (C := C) (oC := oC') (by simp) hoC' (if_pos rfl) (k₁ _ _ _ l at1 .rfl (u a _ _ _ hl hr)) hk hx hdb
theorem tgt_pair {γ : Type} {x y : Str} {px py pos : Pos} {kk : Nat} {scope : Scope} {cl : List (Str × Addr)} {C : Addr} {ca : List Addr} {R1 : α → Rp} {R2 : γ → Rp} (hh : A.handled = none) (u1 : ∀ a, Up (R1 a)) (u2 : ∀ a, Up (R2 a))
    (hk : (cenvOf scope cl C env).scope.kind = .function) (hx : (cenvOf scope cl C env).kindOf x = some .local) (hy : (cenvOf scope cl C env).kindOf y = some .local) (hxy : x ≠ y)
    (hdx : (x == ("__debug__" : Str)) = false) (hdy : (y == ("__debug__" : Str)) = false) : TgtOk prog w A h₀ L m (.Tuple [.Name x px, .Name y py] kk pos) (cenvOf scope cl C env) C ca (PairIR R1 R2)
      (fun Y' l a => (∀ pos, Ev (model prog w) A h₀ L m Y' (cenvOf scope cl C env) (.Name x pos) l (R1 a.1)) ∧ (∀ pos, Ev (model prog w) A h₀ L m Y' (cenvOf scope cl C env) (.Name y pos) l (R2 a.2))) := by
  refine TgtOk.mk fun a Y1 Y2 ce led oC m₂ v s Q E hoC hce hcd at0 hr k => ?_
  obtain ⟨T, v1, v2, rfl, hT, r1, r2⟩ := hr
  have hlt := at0.lt
  refine assign_Tuple_tuple hh hT rfl rfl fun h1 hx1 => ?_
  have at1 : At h₀ L m (Y1 ++ ((C, oC) :: (ce ++ Y2))) led h1 := ⟨(at0.fr.keeps fun b o e => hx1 b o (Nat.ne_of_lt (Heap.lt_size e)) e), fun p hp => ⟨hx1 _ _ (Nat.ne_of_lt (hlt p hp)) (at0.ne p hp).1, (at0.ne p hp).2⟩, at0.nd, at0.off⟩
  have z := at1.ne (C, oC) (by simp)
  refine assignInOrder_cons ?_
  show wpAny _ A (assign (.Name x px) (cenvOf scope cl C env) v1) _ _ _
  refine wpAny_assign_Name (wpAny_storeName_local hx (hoC.ns z.1) (fun h2 hn hs => ?_) (by rw [hk]; rfl))
  obtain ⟨oC', heC', hoC'⟩ := ns_obj hn
  have at2 := at1.set hs heC'
  have z2 := at2.ne (C, oC') (by simp)
  refine assignInOrder_cons ?_
  show wpAny _ A (assign (.Name y py) (cenvOf scope cl C env) v2) _ _ _
  refine wpAny_assign_Name (wpAny_storeName_local hy (hoC'.ns z2.1) (fun h3 hn3 hs3 => ?_) (by rw [hk]; rfl))
  obtain ⟨oC3, heC3, hoC3⟩ := ns_obj hn3
  refine assignInOrder_nil ?_
  refine k _ _ oC3 _ ce hoC3 hce hcd (at2.set hs3 heC3) ⟨fun pos l hl => Ws.mk fun s₁ Q₁ E₁ at3 k₁ => ?_, fun pos l hl => Ws.mk fun s₁ Q₁ E₁ at3 k₁ => ?_⟩
  · exact LCgL.ld_own at3.ne (C := C) (oC := oC3) (by simp) hoC3 ((if_neg hxy).trans (if_pos rfl)) (k₁ _ _ _ l at3 .rfl (u1 _ _ _ _ hl r1)) hk hx hdx
  · exact LCgL.ld_own at3.ne (C := C) (oC := oC3) (by simp) hoC3 (if_pos rfl) (k₁ _ _ _ l at3 .rfl (u2 _ _ _ _ hl r2)) hk hy hdy
theorem map_one {ce : Lg} {c : Addr} (h : ce.map (·.1) = [c]) : ∃ o, ce = [(c, o)] := by
  cases ce with
  | nil => cases h
  | cons p t =>
    have h2 : t.map (·.1) = [] := (List.cons.inj h).2
    have h1 : p.1 = c := (List.cons.inj h).1
    rw [List.map_eq_nil_iff.mp h2, ← h1]
    exact ⟨p.2, rfl⟩
/-- a cell of the ledger -/
noncomputable def CellV (Y : Lg) (c : Addr) (v : Value) : Prop := ∃ o, (c, o) ∈ Y ∧ o.data = .cell (some v)
theorem CellV.sub {Y Y' : Lg} {c : Addr} {v : Value} (x : CellV Y c v) (s : Sub Y Y') : CellV Y' c v := let ⟨o, h1, h2⟩ := x; ⟨o, s _ h1, h2⟩
theorem tgt_cell {x : Str} {px : Pos} {scope : Scope} {cl : List (Str × Addr)} {C : Addr} {R : α → Rp} (hk : (cenvOf scope cl C env).scope.kind = .function) (hx : (cenvOf scope cl C env).kindOf x = some .cell)
    (hl : (cellsFrom (C + 1) scope.names cl).lookup x = some (C + 1)) : TgtOk prog w A h₀ L m (.Name x px) (cenvOf scope cl C env) C [C + 1] (NameIR R) (fun Y' l a => ∃ v, CellV Y' (C + 1) v ∧ R a l v) := by
  refine TgtOk.mk fun a Y1 Y2 ce led oC m₂ v s Q E hoC hce hcd at0 hr k => ?_
  obtain ⟨o, rfl⟩ := map_one hce
  obtain ⟨v0, hv0⟩ := hcd _ (.head _)
  have z := at0.ne (C + 1, o) (by simp)
  refine wpAny_assign_Name (wpAny_storeName_cell hk hx hl ⟨o, z.1, hv0⟩ fun h' hv hs => ?_)
  obtain ⟨o', ho', hd'⟩ := hv
  have e : Y1 ++ ((C, oC) :: ([(C + 1, o)] ++ Y2)) = (Y1 ++ [(C, oC)]) ++ ((C + 1, o) :: Y2) := by simp
  rw [e] at at0
  have at1 := at0.set hs ho'
  have e' : (Y1 ++ [(C, oC)]) ++ ((C + 1, o') :: Y2) = Y1 ++ ((C, oC) :: ([(C + 1, o')] ++ Y2)) := by simp
  rw [e'] at at1
  exact k h' s.toks oC m₂ [(C + 1, o')] hoC rfl (fun p hp => by rw [List.mem_singleton.mp hp]; exact ⟨_, hd'⟩) at1 ⟨v, ⟨o', by simp, hd'⟩, hr⟩
end
end Mine
end
noncomputable section
open PySem PySem.W PyProof.Rows PySem.Calls PySem.Spec
set_option maxRecDepth 100000
set_option linter.unusedVariables false
namespace Mine
open LCg
/-- the ground of a walk: what stands below the frame -/
structure Cx (w : World) (mean : ExcName → Option Value) (mg mb : Str → Option Value) (A : Around) (h₀ : Heap) (L : Addr) (kd ku : Nat) : Prop where
  hh : A.handled = none
  top : ∃ p loose, Top p loose mean mg mb h₀
  frag : (hd.heap_39 w.params).In h₀
  frames : ∃ cn cs a ccd cl outer A₀ base, A.frames = some (envX cn cs L a ccd cl :: outer) ∧ Below A₀ base outer h₀ ∧ cs.kind = .function
  depth : A.depth + kd < recursionLimit
  units : A.units + ku < cLine
section
variable {prog : Program} {w : World} {mean : ExcName → Option Value} {mg mb : Str → Option Value} {A : Around} {h₀ : Heap} {L : Addr} {m : Str → Option Value} {Y led : Lg} {env : Env} {kd ku : Nat} {R : Rp} {x : Str} {pos : Pos} {v : Value} {c : Addr}
theorem nm_loc {M : Model} (u : Up R) (hv : m x = some v) (hr : R led v) (hL : env.locals = L := by rfl) (hk : env.scope.kind = .function := by rfl) (hx : env.kindOf x = some .local := by rfl) (hdb : (x == ("__debug__" : Str)) = false := by decide) : Ev M A h₀ L m Y env (.Name x pos) led R := fun l hl => Ws.mk fun s Q E at0 k =>
  wpAny_Name (wpAny_loadName_local hk hx (hL ▸ at0.fr.ns) hv (k _ _ _ l at0 .rfl (u _ _ _ hl hr))) hdb
theorem nm_cell {M : Model} (u : Up R) (hv : CellV Y c v) (hr : R led v) (hc : env.cells.lookup x = some c := by rfl) (hk : env.scope.kind = .function := by rfl) (hx : env.kindOf x = some .cell := by rfl) (hdb : (x == ("__debug__" : Str)) = false := by decide) : Ev M A h₀ L m Y env (.Name x pos) led R := fun l hl => Ws.mk fun s Q E at0 k =>
  let ⟨o, h1, h2⟩ := hv
  wpAny_Name (wpAny_loadName_cell hk hx hc ⟨o, (at0.y _ h1).1, h2⟩ (k _ _ _ l at0 .rfl (u _ _ _ hl hr))) hdb
theorem nm_free {M : Model} (u : Up R) (hv : CellV Y c v) (hr : R led v) (hc : env.cells.lookup x = some c := by rfl) (hk : env.scope.kind = .function := by rfl) (hx : env.kindOf x = some .free := by rfl) (hdb : (x == ("__debug__" : Str)) = false := by decide)
    (hn : (x == ("__classdict__" : Str)) = false := by decide) : Ev M A h₀ L m Y env (.Name x pos) led R := fun l hl => Ws.mk fun s Q E at0 k =>
  let ⟨o, h1, h2⟩ := hv
  wpAny_Name (wpAny_loadName_free hk hx hc ⟨o, (at0.y _ h1).1, h2⟩ (k _ _ _ l at0 .rfl (u _ _ _ hl hr)) hn) hdb
/-- a name of an enclosing def -/
theorem nm_cl {M : Model} (u : Up R) (hv : CellV Y c v) (hr : R led v) (hc : env.cells.lookup x = some c := by rfl) (hk : env.scope.kind = .function := by rfl) (hx : env.kindOf x = some .cell ∨ env.kindOf x = some .free := by first | exact .inl rfl | exact .inr rfl) (hdb : (x == ("__debug__" : Str)) = false := by decide)
    (hn : (x == ("__classdict__" : Str)) = false := by decide) : Ev M A h₀ L m Y env (.Name x pos) led R := by
  rcases hx with hx | hx
  · exact nm_cell u hv hr hc hk hx hdb
  · exact nm_free u hv hr hc hk hx hdb hn
theorem nm_glob {M : Model} (c : Cx w mean mg mb A h₀ L kd ku) (e : nsIn (hd.heap_39 w.params) mainGlobals x = some (some v)) (hg : env.globals = mainGlobals := by rfl) (hk : env.scope.kind = .function := by rfl) (hx : env.kindOf x = some .globalImplicit := by rfl)
    (hdb : (x == ("__debug__" : Str)) = false := by decide) : Ev M A h₀ L m Y env (.Name x pos) led (EqR v) := fun l hl => Ws.mk fun s Q E at0 k =>
  let ⟨p, loose, T⟩ := c.top
  nameG_K at0.fr c.frag (topRead_of T) e (k _ _ _ l at0 .rfl rfl) hg hk hx hdb
theorem nm_built {M : Model} (c : Cx w mean mg mb A h₀ L kd ku) (e : nsIn (hd.heap_39 w.params) mainGlobals x = some none) (hv : bootBuiltins x = some v) (hn : x ≠ "__name__" := by decide) (hg : env.globals = mainGlobals := by rfl) (hb : env.builtins = builtinsNs := by rfl) (hk : env.scope.kind = .function := by rfl)
    (hx : env.kindOf x = some .globalImplicit := by rfl) (hdb : (x == ("__debug__" : Str)) = false := by decide) : Ev M A h₀ L m Y env (.Name x pos) led (EqR v) := fun l hl => Ws.mk fun s Q E at0 k =>
  let ⟨p, loose, T⟩ := c.top
  Name_function_global hk hx (loadGlobal_builtin (env := env) (show s.heap.Ns env.globals mg from hg ▸ (T.keeps at0.fr.keep).g) (mg_none_of c.frag T.g e) (show s.heap.Ns env.builtins mb from hb ▸ (T.keeps at0.fr.keep).b) ((T.builtins x hn).trans hv) (k _ _ _ l at0 .rfl rfl)) hdb

/-- calls -/
theorem ev_callB {M : Model} {f e : Expr} {es : List Expr} {Rs : List Rp} {id : String} (hf : Ev M A h₀ L m Y env f led (EqR (.builtin id))) (hs : Sp M A h₀ L m Y env pos (e :: es) led Rs)
    (h : ∀ led' vs, Sub led led' → All2 (fun R v => R led' v) Rs vs → Ws M A h₀ L m Y (call (.builtin id) vs) led' R)
    (hc : eval (.Call f (e :: es) [] pos) env = (do callWith pos (← eval f env) [] (backTo pos (starEach (e :: es) env)) (backToKw pos (keywordEach [] env))) := by rfl)
    (he : starEach (e :: es) env = (false, eval e env) :: starEach es env := by rfl) (hp : (backTo pos (starEach es env)).any (·.1) = false := by rfl) : Ev M A h₀ L m Y env (.Call f (e :: es) [] pos) led R := fun l hl => Ws.mk fun s Q E at0 k =>
  Call_ ((hf l hl).go s _ _ at0 fun fv h1 t1 l1 at1 s1 r1 => by
    cases r1
    exact callWith_builtin1 ((hs l1 (hl.trans s1)).go _ _ _ at1 fun vs h2 t2 l2 at2 s2 r2 => (h l2 vs (hl.trans (s1.trans s2)) r2).go _ _ _ at2 fun v h3 t3 l3 at3 s3 r3 => k v h3 t3 l3 at3 (s1.trans (s2.trans s3)) r3) he hp) hc
theorem ev_callT {M : Model} {f e : Expr} {es : List Expr} {Rs : List Rp} {T : String} (hf : Ev M A h₀ L m Y env f led (EqR (.type T))) (hs : Sp M A h₀ L m Y env pos (e :: es) led Rs)
    (h : ∀ led' vs, Sub led led' → All2 (fun R v => R led' v) Rs vs → Ws M A h₀ L m Y (call (.type T) vs) led' R)
    (hc : eval (.Call f (e :: es) [] pos) env = (do callWith pos (← eval f env) [] (backTo pos (starEach (e :: es) env)) (backToKw pos (keywordEach [] env))) := by rfl)
    (he : starEach (e :: es) env = (false, eval e env) :: starEach es env := by rfl) (hp : (backTo pos (starEach es env)).any (·.1) = false := by rfl) : Ev M A h₀ L m Y env (.Call f (e :: es) [] pos) led R := fun l hl => Ws.mk fun s Q E at0 k =>
  Call_ ((hf l hl).go s _ _ at0 fun fv h1 t1 l1 at1 s1 r1 => by
    cases r1
    exact callWith_type1 ((hs l1 (hl.trans s1)).go _ _ _ at1 fun vs h2 t2 l2 at2 s2 r2 => (h l2 vs (hl.trans (s1.trans s2)) r2).go _ _ _ at2 fun v h3 t3 l3 at3 s3 r3 => k v h3 t3 l3 at3 (s1.trans (s2.trans s3)) r3) he hp) hc
theorem ev_callF {M : Model} {f e : Expr} {es : List Expr} {Rs : List Rp} {fv : Value} (c : Cx w mean mg mb A h₀ L kd ku) (hkp : keepIn (hd.heap_39 w.params) fv = true) (hf : Ev M A h₀ L m Y env f led (EqR fv)) (hs : Sp M A h₀ L m Y env pos (e :: es) led Rs)
    (h : ∀ led' vs, Sub led led' → All2 (fun R v => R led' v) Rs vs → Ws M A h₀ L m Y (call fv vs) led' R)
    (hc : eval (.Call f (e :: es) [] pos) env = (do callWith pos (← eval f env) [] (backTo pos (starEach (e :: es) env)) (backToKw pos (keywordEach [] env))) := by rfl)
    (he : starEach (e :: es) env = (false, eval e env) :: starEach es env := by rfl) (hp : (backTo pos (starEach es env)).any (·.1) = false := by rfl) : Ev M A h₀ L m Y env (.Call f (e :: es) [] pos) led R := fun l hl => Ws.mk fun s Q E at0 k =>
  Call_ ((hf l hl).go s _ _ at0 fun fv h1 t1 l1 at1 s1 r1 => by
    cases r1
    exact callWith_K c.frag hkp ((hs l1 (hl.trans s1)).go _ _ _ at1 fun vs h2 t2 l2 at2 s2 r2 => ⟨c.frag.keeps at2.fr.keep, (h l2 vs (hl.trans (s1.trans s2)) r2).go _ _ _ at2 fun v h3 t3 l3 at3 s3 r3 => k v h3 t3 l3 at3 (s1.trans (s2.trans s3)) r3⟩) he hp) hc
theorem ev_callF0 {M : Model} {f : Expr} {fv : Value} (c : Cx w mean mg mb A h₀ L kd ku) (hkp : keepIn (hd.heap_39 w.params) fv = true) (hf : Ev M A h₀ L m Y env f led (EqR fv))
    (h : ∀ led', Sub led led' → Ws M A h₀ L m Y (call fv []) led' R)
    (hc : eval (.Call f [] [] pos) env = (do callWith pos (← eval f env) [] (backTo pos (starEach [] env)) (backToKw pos (keywordEach [] env))) := by rfl) : Ev M A h₀ L m Y env (.Call f [] [] pos) led R := fun l hl => Ws.mk fun s Q E at0 k =>
  Call_ ((hf l hl).go s _ _ at0 fun fv h1 t1 l1 at1 s1 r1 => by
    cases r1
    exact callWith_K0 (c.frag.keeps at1.fr.keep) hkp ((h l1 (hl.trans s1)).go _ _ _ at1 fun v h3 t3 l3 at3 s3 r3 => k v h3 t3 l3 at3 (s1.trans s3) r3)) hc

/-- a contract in use -/
theorem ws_spec {f : Addr} {need : Lg} {vs : List Value} {Out : Lg → Value → Lg → Prop} {d u : Nat} (c : Cx w mean mg mb A h₀ L kd ku) (hd : d ≤ kd) (hu : u ≤ ku) (S : ∀ news, SpecN d u w mean mg mb f (need ++ news) vs (Out news)) (hn : ∀ p ∈ need, p ∈ led)
    (ret : ∀ r tl h', News h₀ L h' (tl ++ (Y ++ led)) → Out (Y ++ led) r tl → (∀ p ∈ tl, p.1 ∉ Y.map (·.1)) ∧ R (tl ++ led) r) : Ws (model PySem.Challenge.rw_tc0103_01.prog w) A h₀ L m Y (call (.ref f) vs) led R := Ws.mk fun s Q E at0 k => by
  obtain ⟨p, loose, T⟩ := c.top
  obtain ⟨cn, cs, a, ccd, cl, outer, A₀, base, hA, B, hk⟩ := c.frames
  have h1 := c.depth
  have h2 := c.units
  refine SpecN.use (S (Y ++ led)) c.hh hA B at0.fr c.frag at0.ne T hk (by omega) (by omega) (fun p hp => List.mem_append_right _ (hn p hp)) fun r tl h' tk' F N o => ?_
  obtain ⟨o1, o2⟩ := ret r tl h' N o
  exact k r h' tk' (tl ++ led) (at0.grow F N o1) .add o2
end
end Mine
end
noncomputable section
open PySem PySem.W PyProof.Rows PySem.Calls PySem.Spec
set_option maxRecDepth 100000
set_option linter.unusedVariables false
namespace Mine
open LCg
section
variable {prog : Program} {w : World} {A : Around} {h₀ : Heap} {L : Addr} {m : Str → Option Value} {Y led : Lg} {env : Env} {pos : Pos} {l r e : Expr} {a b : Int} {α β : Type}
theorem ev_add (x : Ev (model prog w) A h₀ L m Y env l led (IntR a)) (y : Ev (model prog w) A h₀ L m Y env r led (IntR b)) : Ev (model prog w) A h₀ L m Y env (.BinOp l .Add r pos) led (IntR (a + b)) :=
  ev_bin x y IntR.up fun _ _ _ _ ⟨_, e⟩ ⟨_, e'⟩ => by subst e e'; exact Ws.mk fun s Q E at0 k => add_int (k _ _ _ _ at0 .rfl ⟨_, rfl⟩)
theorem ev_minus (x : Ev (model prog w) A h₀ L m Y env l led (IntR a)) (y : Ev (model prog w) A h₀ L m Y env r led (IntR b)) : Ev (model prog w) A h₀ L m Y env (.BinOp l .Sub r pos) led (IntR (a - b)) :=
  ev_bin x y IntR.up fun _ _ _ _ ⟨_, e⟩ ⟨_, e'⟩ => by subst e e'; exact Ws.mk fun s Q E at0 k => sub_int (k _ _ _ _ at0 .rfl ⟨_, rfl⟩)
theorem ev_mul (x : Ev (model prog w) A h₀ L m Y env l led (IntR a)) (y : Ev (model prog w) A h₀ L m Y env r led (IntR b)) (h : IntMulOk a b) : Ev (model prog w) A h₀ L m Y env (.BinOp l .Mult r pos) led (IntR (a * b)) :=
  ev_bin x y IntR.up fun _ _ _ _ ⟨_, e⟩ ⟨_, e'⟩ => by subst e e'; exact Ws.mk fun s Q E at0 k => mul_int (k _ _ _ _ at0 .rfl ⟨_, rfl⟩) h
theorem ev_div (x : Ev (model prog w) A h₀ L m Y env l led (IntR a)) (y : Ev (model prog w) A h₀ L m Y env r led (IntR b)) (h0 : 0 < b) (hb : b < 1073741824) : Ev (model prog w) A h₀ L m Y env (.BinOp l .FloorDiv r pos) led (IntR (a / b)) :=
  ev_bin x y IntR.up fun _ _ _ _ ⟨_, e⟩ ⟨_, e'⟩ => by
    subst e e'
    exact Ws.mk fun s Q E at0 k => floordiv_int (by omega) (by rw [Int.fdiv_eq_ediv_of_nonneg _ (by omega)]; exact k _ _ _ _ at0 .rfl ⟨_, rfl⟩) (.inl (PyProof.noPylong_small (by omega)))
theorem ev_mod (x : Ev (model prog w) A h₀ L m Y env l led (IntR a)) (y : Ev (model prog w) A h₀ L m Y env r led (IntR b)) (h0 : 0 < b) : Ev (model prog w) A h₀ L m Y env (.BinOp l .Mod r pos) led (IntR (a % b)) :=
  ev_bin x y IntR.up fun _ _ _ _ ⟨_, e⟩ ⟨_, e'⟩ => by
    subst e e'
    exact Ws.mk fun s Q E at0 k => mod_int' (by omega) (by rw [Int.fmod_eq_emod_of_nonneg _ (by omega)]; exact k _ _ _ _ at0 .rfl ⟨_, rfl⟩)
theorem ev_pow (x : Ev (model prog w) A h₀ L m Y env l led (IntR a)) (y : Ev (model prog w) A h₀ L m Y env r led (IntR b)) (h0 : 0 ≤ b) (h1 : b ≤ 1000000) (h2 : a.natAbs < 2 ^ 64) : Ev (model prog w) A h₀ L m Y env (.BinOp l .Pow r pos) led (IntR (a ^ b.toNat)) :=
  ev_bin x y IntR.up fun _ _ _ _ ⟨_, e⟩ ⟨_, e'⟩ => by subst e e'; exact Ws.mk fun s Q E at0 k => pow_int_small h0 h1 h2 (k _ _ _ _ at0 .rfl ⟨_, rfl⟩)
theorem ev_neg (x : Ev (model prog w) A h₀ L m Y env l led (IntR a)) : Ev (model prog w) A h₀ L m Y env (.UnaryOp .USub l pos) led (IntR (-a)) := fun l' hs => Ws.mk fun s Q E at0 k =>
  UnaryOp_ ((x l' hs).go s _ _ at0 fun _ _ _ l1 at1 s1 ⟨_, e⟩ => by subst e; exact neg_int (k _ _ _ _ at1 s1 ⟨_, rfl⟩))
theorem ev_cat {x y : Str} (p : Ev (model prog w) A h₀ L m Y env l led (StrR x)) (q : Ev (model prog w) A h₀ L m Y env r led (StrR y)) (h : x.length + y.length ≤ sizeLine) : Ev (model prog w) A h₀ L m Y env (.BinOp l .Add r pos) led (StrR (x ++ y)) :=
  ev_bin p q StrR.up fun _ _ _ _ ⟨_, e⟩ ⟨_, e'⟩ => by subst e e'; exact Ws.mk fun s Q E at0 k => add_str (fun t' tk => k _ _ _ _ at0 .rfl ⟨_, rfl⟩) h
/-- a new list -/
theorem At.newList {h h' : Heap} (x : At h₀ L m Y led h) {D : Addr} {o : Obj} (F : Fr h₀ L h' m) (N : News h₀ L h' ((D, o) :: (Y ++ led))) (hD : ∀ p ∈ Y ++ led, p.1 < D) : At h₀ L m Y ((D, o) :: led) h' :=
  x.grow (tl := [(D, o)]) F N fun p hp hm => by
    obtain rfl := List.mem_singleton.mp hp
    obtain ⟨q, hq, e⟩ := List.mem_map.mp hm
    exact absurd (hD q (List.mem_append_left _ hq)) (by rw [e]; exact Nat.lt_irrefl _)
theorem ev_join {R : α → Rp} {xs ys : List α} (u : ∀ x, Up (R x)) (x : Ev (model prog w) A h₀ L m Y env l led (ListR R xs)) (y : Ev (model prog w) A h₀ L m Y env r led (ListR R ys)) (h : xs.length + ys.length ≤ sizeLine) : Ev (model prog w) A h₀ L m Y env (.BinOp l .Add r pos) led (ListR R (xs ++ ys)) :=
  ev_bin x y (ListR.up u) fun l1 _ _ _ ⟨d, vs, n, e, hm, r⟩ ⟨d', vs', n', e', hm', r'⟩ => by
    subst e e'
    refine Ws.mk fun s Q E at0 k => ?_
    have h1 := r.length
    have h2 := r'.length
    refine add_arrays at0.fr at0.ne (at0.list hm) (at0.list hm') (fun h' F N => ?_) (by rw [List.size_toArray, List.size_toArray]; omega)
    refine k _ _ _ _ (at0.newList F N fun p hp => at0.lt p hp) .cons ⟨_, vs ++ vs', 0, rfl, by simp, (r.app r').mono fun x v h => u x _ _ _ .cons h⟩
/-- an item -/
theorem ev_item {R : α → Rp} {xs : List α} {x : α} (u : ∀ x, Up (R x)) (p : Ev (model prog w) A h₀ L m Y env l led (ListR R xs)) (q : Ev (model prog w) A h₀ L m Y env r led (IntR a)) (h0 : 0 ≤ a) (hx : xs[a.toNat]? = some x) (hz : a < 2 ^ 63)
    (hs : ∀ o i, subscripted r false o i = operate [o, i] (getItem o i) := by intro _ _; rfl) : Ev (model prog w) A h₀ L m Y env (.Subscript l r pos) led (R x) :=
  ev_sub p q (ListR.up u) fun l1 _ _ _ ⟨d, vs, n, e, hm, rr⟩ ⟨t, e'⟩ => by
    subst e e'
    refine Ws.mk fun s Q E at0 k => ?_
    obtain ⟨v, hv, rv⟩ := rr.get hx
    exact tail_any (at0.list hm).typeIs slot_list_getitem.lookup (wpAny_getItem_list (at0.list hm) h0 hz (by simpa using hv) (k v _ _ _ at0 .rfl rv)) (hs _ _)
theorem ev_itemT {Rs : List Rp} {R : Rp} (u : ∀ R ∈ Rs, Up R) (p : Ev (model prog w) A h₀ L m Y env l led (TupR Rs)) (q : Ev (model prog w) A h₀ L m Y env r led (IntR a)) (h0 : 0 ≤ a) (hx : Rs[a.toNat]? = some R) (hn : Rs.length ≤ sizeLine := by exact Nat.le_of_ble_eq_true rfl)
    (hs : ∀ o i, subscripted r false o i = operate [o, i] (getItem o i) := by intro _ _; rfl) : Ev (model prog w) A h₀ L m Y env (.Subscript l r pos) led R :=
  ev_sub p q (TupR.up u) fun l1 _ _ _ ⟨d, vs, n, e, hm, rr⟩ ⟨t, e'⟩ => by
    subst e e'
    refine Ws.mk fun s Q E at0 k => ?_
    obtain ⟨v, hv, rv⟩ := rr.get hx
    have hlt : a.toNat < vs.length := (List.getElem?_eq_some_iff.mp hv).1
    have hl := rr.length
    have hsz : sizeLine < 2 ^ 63 := by decide
    refine item_tupleT (j := a.toNat) (at0.tup hm) (by omega) (by omega) ?_ hv (k v _ _ _ at0 .rfl rv) (hs _ _)
    have : seqIndex? a vs.length = some a.toNat := by
      unfold seqIndex?
      have h1 : (if a < 0 then a + (vs.length : Int) else a) = a := if_neg (by omega)
      dsimp only
      rw [h1, if_pos (by simp only [Bool.and_eq_true, decide_eq_true_eq]; omega)]
    exact this
theorem ev_itemS {x : Str} (p : Ev (model prog w) A h₀ L m Y env l led (StrR x)) (q : Ev (model prog w) A h₀ L m Y env r led (IntR a)) (h0 : 0 ≤ a) (h1 : a < x.length) (h2 : x.length ≤ 16777216)
    (hs : ∀ o i, subscripted r false o i = operate [o, i] (getItem o i) := by intro _ _; rfl) : Ev (model prog w) A h₀ L m Y env (.Subscript l r pos) led (StrR (Txt.item x a)) :=
  ev_sub p q StrR.up fun l1 _ _ _ ⟨t, e⟩ ⟨t', e'⟩ => by
    subst e e'
    exact Ws.mk fun s Q E at0 k => kba_turn (value' := .Name "x" default) (fun _ => rfl) (KXi.item rfl (by omega) h1 h2 (fun _ => k _ _ _ _ at0 .rfl ⟨_, rfl⟩) (hs _ _) (fun _ => rfl))
/-- built-in functions -/
theorem all2_ints {lg : Lg} : ∀ {ns : List Int} {vs : List Value}, All2 (fun i v => IntR i lg v) ns vs → IntsAre vs ns
  | _, _, .nil => .nil
  | _, _, .cons ⟨t, e⟩ r => by subst e; exact .cons _ _ (all2_ints r)
theorem all2_one {R : Rp} {lg : Lg} {vs : List Value} (h : All2 (fun R v => R lg v) [R] vs) : ∃ v, vs = [v] ∧ R lg v := by
  cases h with | cons x t => cases t; exact ⟨_, rfl, x⟩
theorem all2_two {R R' : Rp} {lg : Lg} {vs : List Value} (h : All2 (fun R v => R lg v) [R, R'] vs) : ∃ v v', vs = [v, v'] ∧ R lg v ∧ R' lg v' := by
  cases h with | cons x t => cases t with | cons y t => cases t; exact ⟨_, _, rfl, x, y⟩
theorem ws_sum {ns : List Int} {v : Value} (hh : A.handled = none) (r : ListR IntR ns led v) : Ws (model prog w) A h₀ L m Y (call (.builtin "sum") [v]) led (IntR ns.sum) := by
  obtain ⟨d, vs, n, rfl, hm, r⟩ := r
  exact Ws.mk fun s Q E at0 k => sumK hh at0.fr at0.ne (at0.list hm) (all2_ints r) fun h' tk t' F N => k _ _ _ _ ⟨F, N, at0.nd, at0.off⟩ .rfl ⟨_, rfl⟩
theorem ws_max2 {v v' : Value} (hh : A.handled = none) (x : IntR a led v) (y : IntR b led v') : Ws (model prog w) A h₀ L m Y (call (.builtin "max") [v, v']) led (IntR (max a b)) := by
  obtain ⟨t, rfl⟩ := x
  obtain ⟨u, rfl⟩ := y
  exact Ws.mk fun s Q E at0 k => max_two_N hh at0.fr at0.ne fun h' tk F N => by
    have e : (if b > a then b else a) = max a b := by split <;> omega
    rw [e]
    exact k _ _ _ _ ⟨F, N, at0.nd, at0.off⟩ .rfl ⟨_, rfl⟩
theorem ws_min2 {v v' : Value} (hh : A.handled = none) (x : IntR a led v) (y : IntR b led v') : Ws (model prog w) A h₀ L m Y (call (.builtin "min") [v, v']) led (IntR (min a b)) := by
  obtain ⟨t, rfl⟩ := x
  obtain ⟨u, rfl⟩ := y
  exact Ws.mk fun s Q E at0 k => min_two_N hh at0.fr at0.ne fun h' tk F N => by
    have e : (if b < a then b else a) = min a b := by split <;> omega
    rw [e]
    exact k _ _ _ _ ⟨F, N, at0.nd, at0.off⟩ .rfl ⟨_, rfl⟩
theorem ws_len {R : α → Rp} {xs : List α} {v : Value} (h : xs.length ≤ sizeLine) (r : ListR R xs led v) : Ws (model prog w) A h₀ L m Y (call (.builtin "len") [v]) led (IntR (xs.length : Int)) := by
  obtain ⟨d, vs, n, rfl, hm, r⟩ := r
  have hsz : (sizeLine : Int) < 2 ^ 63 := by decide
  have e : (vs.toArray.size : Int) = (xs.length : Int) := by rw [List.size_toArray, r.length]
  exact Ws.mk fun s Q E at0 k => len_list (at0.list hm) (by omega) (by rw [e]; exact k _ _ _ _ at0 .rfl ⟨_, rfl⟩)
theorem ws_lenS {x : Str} {v : Value} (h : x.length ≤ sizeLine) (r : StrR x led v) : Ws (model prog w) A h₀ L m Y (call (.builtin "len") [v]) led (IntR (x.length : Int)) := by
  obtain ⟨t, rfl⟩ := r
  have hsz : (sizeLine : Int) < 2 ^ 63 := by decide
  exact Ws.mk fun s Q E at0 k => SBL.len (by omega) (k _ _ _ _ at0 .rfl ⟨_, rfl⟩)
theorem ws_str {v : Value} (r : IntR a led v) (h1 : -2 ^ 1920 < a) (h2 : a < 2 ^ 1920) : Ws (model prog w) A h₀ L m Y (call (.type "str") [v]) led (StrR (Str.ofString (toString a))) := by
  obtain ⟨t, rfl⟩ := r
  exact Ws.mk fun s Q E at0 k => P.str_of_int (shown h1 h2 (Int.le_refl _)) (k _ _ _ _ at0 .rfl ⟨_, rfl⟩)
theorem ws_range1 {v : Value} (r : IntR a led v) : Ws (model prog w) A h₀ L m Y (call (.type "range") [v]) led (RangeR 0 a) := by
  obtain ⟨t, rfl⟩ := r
  exact Ws.mk fun s Q E at0 k => call_range_1 (k _ _ _ _ (at0.newList (at0.fr.push _) (at0.ne.push at0.fr _) fun p hp => at0.lt p hp) .cons ⟨_, _, _, _, rfl, .head _⟩)
theorem ws_range2 {v v' : Value} (r : IntR a led v) (r' : IntR b led v') : Ws (model prog w) A h₀ L m Y (call (.type "range") [v, v']) led (RangeR a b) := by
  obtain ⟨t, rfl⟩ := r
  obtain ⟨u, rfl⟩ := r'
  exact Ws.mk fun s Q E at0 k => call_range_2 (k _ _ _ _ (at0.newList (at0.fr.push _) (at0.ne.push at0.fr _) fun p hp => at0.lt p hp) .cons ⟨_, _, _, _, rfl, .head _⟩)
theorem ws_neI {v v' : Value} (x : IntR a led v) (y : IntR b led v') : Ws (model prog w) A h₀ L m Y (compareOp .NotEq v v') led (BoolR (a != b)) := by
  obtain ⟨t, rfl⟩ := x; obtain ⟨u, rfl⟩ := y
  exact Ws.mk fun s Q E at0 k => ne_int (k _ _ _ _ at0 .rfl rfl)
theorem ws_leI {v v' : Value} (x : IntR a led v) (y : IntR b led v') : Ws (model prog w) A h₀ L m Y (compareOp .LtE v v') led (BoolR (decide (a ≤ b))) := by
  obtain ⟨t, rfl⟩ := x; obtain ⟨u, rfl⟩ := y
  exact Ws.mk fun s Q E at0 k => le_int (k _ _ _ _ at0 .rfl rfl)
theorem ws_gtI {v v' : Value} (x : IntR a led v) (y : IntR b led v') : Ws (model prog w) A h₀ L m Y (compareOp .Gt v v') led (BoolR (decide (a > b))) := by
  obtain ⟨t, rfl⟩ := x; obtain ⟨u, rfl⟩ := y
  exact Ws.mk fun s Q E at0 k => gt_int (k _ _ _ _ at0 .rfl rfl)
theorem ws_neS {x y : Str} {v v' : Value} (p : StrR x led v) (q : StrR y led v') : Ws (model prog w) A h₀ L m Y (compareOp .NotEq v v') led (BoolR (x != y)) := by
  obtain ⟨t, rfl⟩ := p; obtain ⟨u, rfl⟩ := q
  exact Ws.mk fun s Q E at0 k => ne_str (k _ _ _ _ at0 .rfl rfl)
theorem ws_in {ns : List Int} {v v' : Value} (x : IntR a led v) (y : ListR IntR ns led v') : Ws (model prog w) A h₀ L m Y (compareOp .In v v') led (BoolR (ns.any fun x => x == a)) := by
  obtain ⟨t, rfl⟩ := x; obtain ⟨d, vs, n, rfl, hm, r⟩ := y
  exact Ws.mk fun s Q E at0 k => in_list_ints (at0.list hm) (all2_ints r) (k _ _ _ _ at0 .rfl rfl)
theorem ws_isNot {x y : Bool} {v v' : Value} (p : BoolR x led v) (q : BoolR y led v') : Ws (model prog w) A h₀ L m Y (compareOp .IsNot v v') led (BoolR (x != y)) := by
  cases p; cases q
  refine Ws.mk fun s Q E at0 k => wpAny_isNot_plain (by cases x <;> cases y <;> rfl) (k _ _ _ _ at0 .rfl ?_)
  cases x <;> cases y <;> rfl
end
end Mine
end
noncomputable section
open PySem PySem.W PyProof.Rows PySem.Calls PySem.Spec
set_option maxRecDepth 100000
set_option linter.unusedVariables false
namespace Mine
open LCg
section
variable {prog : Program} {w : World} {A : Around} {h₀ : Heap} {L : Addr} {m : Str → Option Value} {Y led : Lg} {env : Env} {pos : Pos} {l r e : Expr} {a b : Int} {α β : Type}
/-- the parts of a slice -/
noncomputable def Pt (M : Model) (A : Around) (h₀ : Heap) (L : Addr) (m : Str → Option Value) (Y : Lg) (env : Env) (x : Option Expr) (led : Lg) (a : Option Int) : Prop :=
  ∀ led', Sub led led' → Ws M A h₀ L m Y (evalPart x env) led' fun _ v => IsPart v a
theorem pt_none {M : Model} : Pt M A h₀ L m Y env none led none := fun _ _ => Ws.mk fun s Q E at0 k => by
  rw [evalPart_none]
  exact wpAny_pure (k _ _ _ _ at0 .rfl .none)
theorem pt_some {M : Model} (x : Ev M A h₀ L m Y env e led (IntR a)) : Pt M A h₀ L m Y env (some e) led (some a) := fun l' hs => Ws.mk fun s Q E at0 k => by
  rw [evalPart_some]
  exact (x l' hs).go s Q E at0 fun v h' t' l1 at1 s1 ⟨t, e⟩ => k v h' t' l1 at1 s1 (e ▸ .int _ _)
theorem ev_slice {R R' : Rp} {lo hi st : Option Expr} {x y z : Option Int} {p : Pos} (h : Ev (model prog w) A h₀ L m Y env l led R) (u : Up R) (p1 : Pt (model prog w) A h₀ L m Y env lo led x) (p2 : Pt (model prog w) A h₀ L m Y env hi led y) (p3 : Pt (model prog w) A h₀ L m Y env st led z) (hz : z ≠ some 0)
    (hl : ∀ l1 v H, Sub led l1 → At h₀ L m Y l1 H → R l1 v → ∃ d items, v = .ref d ∧ H.IsList d items ∧ items.size ≤ sizeLine ∧ ∀ D l2, Sub ((D, W.listOf (slicePick items x y z) 0) :: l1) l2 → R' l2 (.ref D))
    (hs : ∀ o i, subscripted (.Slice lo hi st p) false o i = operate [o, i] (getItem o i) ∨ subscripted (.Slice lo hi st p) false o i = operate [i, o] (getItem o i)) : Ev (model prog w) A h₀ L m Y env (.Subscript l (.Slice lo hi st p) pos) led R' := by
  refine fun l' hsub => Ws.mk fun s Q E at0 k => ?_
  refine Subscript_ ((h l' hsub).go s _ _ at0 fun v h1 t1 l1 at1 s1 r1 => ?_)
  refine wpAny_Slice ((p1 l1 (hsub.trans s1)).go _ _ _ at1 fun v1 h2 t2 l2 at2 s2 q1 => (p2 l2 (hsub.trans (s1.trans s2))).go _ _ _ at2 fun v2 h3 t3 l3 at3 s3 q2 => (p3 l3 (hsub.trans (s1.trans (s2.trans s3)))).go _ _ _ at3 fun v3 h4 t4 l4 at4 s4 q3 => ?_)
  obtain ⟨d, items, rfl, hi, hsz, res⟩ := hl l4 v h4 (hsub.trans (s1.trans (s2.trans (s3.trans s4)))) at4 (u _ _ _ (s2.trans (s3.trans s4)) r1)
  have fin : ∀ h', Fr h₀ L h' m → News h₀ L h' ((h4.objs.size + 1, W.listOf (slicePick items x y z) 0) :: (Y ++ l4)) → Q (.ref (h4.objs.size + 1)) { s with heap := h', toks := t4 } := fun h' F N =>
    k _ _ _ _ (at4.newList F N fun p hp => Nat.lt_succ_of_lt (at4.lt p hp)) (s1.trans (s2.trans (s3.trans (s4.trans .cons)))) (res _ _ .rfl)
  rcases hs (.ref d) (.ref h4.objs.size) with e | e
  · exact kba_turn (value' := .Name "x" default) (fun _ => rfl) (slice_list3 (s := { s with heap := h4, toks := t4 }) at4.fr at4.ne hi q1 q2 q3 hz fin e (fun _ => rfl) hsz)
  · exact kba_turn (value' := .Name "x" default) (fun _ => rfl) (slice_list3 (s := { s with heap := h4, toks := t4 }) at4.fr at4.ne hi q1 q2 q3 hz fin e (fun _ => rfl) hsz)
theorem ev_take {R : α → Rp} {xs : List α} {p : Pos} (u : ∀ x, Up (R x)) (h : Ev (model prog w) A h₀ L m Y env l led (ListR R xs)) (q : Ev (model prog w) A h₀ L m Y env e led (IntR a)) (h0 : 0 ≤ a) (hsz : xs.length ≤ sizeLine)
    (hs : ∀ o i, subscripted (.Slice none (some e) none p) false o i = operate [o, i] (getItem o i) ∨ subscripted (.Slice none (some e) none p) false o i = operate [i, o] (getItem o i) := by first | (intro _ _; exact .inl rfl) | (intro _ _; exact .inr rfl)) : Ev (model prog w) A h₀ L m Y env (.Subscript l (.Slice none (some e) none p) pos) led (ListR R (xs.take a.toNat)) :=
  ev_slice h (ListR.up u) pt_none (pt_some q) pt_none (by simp) (fun l1 v H s1 at1 ⟨d, vs, n, e, hm, r⟩ => ⟨d, vs.toArray, e, at1.list hm, by rw [List.size_toArray, ← r.length]; exact hsz, fun D l2 s2 => by
    obtain ⟨k, rfl⟩ : ∃ k : Nat, a = k := ⟨a.toNat, by omega⟩
    rw [slicePick_upto'] at s2
    exact ⟨D, vs.take k, 0, rfl, s2 _ (.head _), by simpa using (r.mono fun x v h => u x _ _ _ (Sub.cons.trans s2) h).take k⟩⟩) hs
theorem ev_drop {R : α → Rp} {xs : List α} {p : Pos} (u : ∀ x, Up (R x)) (h : Ev (model prog w) A h₀ L m Y env l led (ListR R xs)) (q : Ev (model prog w) A h₀ L m Y env e led (IntR a)) (h0 : 0 ≤ a) (hsz : xs.length ≤ sizeLine)
    (hs : ∀ o i, subscripted (.Slice (some e) none none p) false o i = operate [o, i] (getItem o i) ∨ subscripted (.Slice (some e) none none p) false o i = operate [i, o] (getItem o i) := by first | (intro _ _; exact .inl rfl) | (intro _ _; exact .inr rfl)) : Ev (model prog w) A h₀ L m Y env (.Subscript l (.Slice (some e) none none p) pos) led (ListR R (xs.drop a.toNat)) :=
  ev_slice h (ListR.up u) (pt_some q) pt_none pt_none (by simp) (fun l1 v H s1 at1 ⟨d, vs, n, e, hm, r⟩ => ⟨d, vs.toArray, e, at1.list hm, by rw [List.size_toArray, ← r.length]; exact hsz, fun D l2 s2 => by
    obtain ⟨k, rfl⟩ : ∃ k : Nat, a = k := ⟨a.toNat, by omega⟩
    rw [slicePick_from'] at s2
    exact ⟨D, vs.drop k, 0, rfl, s2 _ (.head _), by simpa using (r.mono fun x v h => u x _ _ _ (Sub.cons.trans s2) h).drop k⟩⟩) hs
/-- some ints, few -/
noncomputable def Some60 : Rp := fun led v => ∃ ns : List Int, ns.length ≤ 60 ∧ ListR IntR ns led v
theorem Some60.up : Up Some60 := fun _ _ _ s ⟨ns, h, r⟩ => ⟨ns, h, ListR.up (fun _ => IntR.up) _ _ _ s r⟩
theorem ints_all2 {lg : Lg} : ∀ {vs : List Value} {ns : List Int}, IntsAre vs ns → All2 (fun i v => IntR i lg v) ns vs
  | _, _, .nil => .nil
  | _, _, .cons i t r => .cons ⟨t, rfl⟩ (ints_all2 r)
/-- the first sixty of the argument -/
theorem ev_first60 {d : Addr} {vs : List Value} {ns : List Int} {p p' : Pos} {kk : Nat} (hd : h₀.IsList d vs.toArray) (hi : IntsAre vs ns) (hsz : ns.length ≤ sizeLine) (h : Ev (model prog w) A h₀ L m Y env l led (EqR (.ref d)))
    (hs : ∀ o i, subscripted (.Slice none (some (.Constant (.int 60) kk p')) none p) false o i = operate [o, i] (getItem o i) ∨ subscripted (.Slice none (some (.Constant (.int 60) kk p')) none p) false o i = operate [i, o] (getItem o i) := by first | (intro _ _; exact .inl rfl) | (intro _ _; exact .inr rfl)) : Ev (model prog w) A h₀ L m Y env (.Subscript l (.Slice none (some (.Constant (.int 60) kk p')) none p) pos) led Some60 :=
  ev_slice h EqR.up pt_none (pt_some ev_int) pt_none (by simp) (fun l1 v H s1 at1 e => ⟨d, vs.toArray, e, hd.at fun o e => at1.fr.keep _ _ e, by rw [List.size_toArray, hi.length]; exact hsz, fun D l2 s2 => by
    rw [show (60 : Int) = ((60 : Nat) : Int) from rfl, slicePick_upto'] at s2
    refine ⟨ns.take 60, by simp; omega, D, vs.take 60, 0, rfl, s2 _ (.head _), ?_⟩
    have := (ints_all2 (lg := l2) hi).take 60
    exact this⟩) hs
theorem ev_some60 {lo st : Option Expr} {x z : Option Int} {p : Pos} (h : Ev (model prog w) A h₀ L m Y env l led Some60) (p1 : Pt (model prog w) A h₀ L m Y env lo led x) (p3 : Pt (model prog w) A h₀ L m Y env st led z) (hz : z ≠ some 0)
    (hs : ∀ o i, subscripted (.Slice lo none st p) false o i = operate [o, i] (getItem o i) ∨ subscripted (.Slice lo none st p) false o i = operate [i, o] (getItem o i) := by first | (intro _ _; exact .inl rfl) | (intro _ _; exact .inr rfl)) : Ev (model prog w) A h₀ L m Y env (.Subscript l (.Slice lo none st p) pos) led Some60 :=
  ev_slice h Some60.up p1 pt_none p3 hz (fun l1 v H s1 at1 ⟨ns, hn, d, vs, n, e, hm, r⟩ => ⟨d, vs.toArray, e, at1.list hm, by
    have h60 : 60 ≤ sizeLine := by decide
    rw [List.size_toArray, ← r.length]; omega, fun D l2 s2 => by
    have := IntsAre.pick (all2_ints r) x none z
    refine ⟨pickNums ns x none z, ?_, D, (slicePick vs.toArray x none z).toList, 0, rfl, s2 _ (by simp), ints_all2 this⟩
    have h1 := this.length
    have h2 := slicePick_size_le vs.toArray x none z
    have h3 := r.length
    have h4 : vs.toArray.size = vs.length := by simp
    have : (slicePick vs.toArray x none z).toList.length = (slicePick vs.toArray x none z).size := Array.length_toList
    omega⟩) hs
end
end Mine
end
noncomputable section
open PySem PySem.W PyProof.Rows PySem.Calls PySem.Spec
set_option maxRecDepth 100000
set_option linter.unusedVariables false
namespace Mine
open LCg
/-- a walk; closed, lest the elaborator run it -/
structure Wp {α : Type} (M : Model) (A : Around) (t : Sem α) (Q : α → Shared → Prop) (E : Value → Shared → Prop) (s : Shared) : Prop where
  h : wpAny M A t Q E s
noncomputable def HasCell (Y : Lg) (c : Addr) : Prop := ∃ o v, (c, o) ∈ Y ∧ o.data = .cell v
/-- a cell is written -/
noncomputable def SetC (c : Addr) (v : Value) (Y Y' : Lg) : Prop := ∃ Y1 o Y2 o', Y = Y1 ++ ((c, o) :: Y2) ∧ Y' = Y1 ++ ((c, o') :: Y2) ∧ o'.data = .cell (some v)
theorem SetC.new {c : Addr} {v : Value} {Y Y' : Lg} (x : SetC c v Y Y') : CellV Y' c v := let ⟨_, _, _, o', _, h, hd⟩ := x; ⟨o', by simp [h], hd⟩
theorem SetC.map {c : Addr} {v : Value} {Y Y' : Lg} (x : SetC c v Y Y') : Y'.map (·.1) = Y.map (·.1) := by
  obtain ⟨Y1, o, Y2, o', rfl, rfl, _⟩ := x
  simp
theorem SetC.mem {c : Addr} {v : Value} {Y Y' : Lg} (x : SetC c v Y Y') {p : Addr × Obj} (hp : p ∈ Y) (hn : p.1 ≠ c) : p ∈ Y' := by
  obtain ⟨Y1, o, Y2, o', rfl, rfl, _⟩ := x
  rcases List.mem_append.mp hp with h | h
  · simp [h]
  · rcases List.mem_cons.mp h with rfl | h
    · exact absurd rfl hn
    · simp [h]
theorem SetC.old {c d : Addr} {v u : Value} {Y Y' : Lg} (x : SetC c v Y Y') (h : CellV Y d u) (hn : @Ne Nat d c) : CellV Y' d u := let ⟨o, h1, h2⟩ := h; ⟨o, x.mem h1 hn, h2⟩
theorem SetC.has {c d : Addr} {v : Value} {Y Y' : Lg} (x : SetC c v Y Y') (h : HasCell Y d) : HasCell Y' d := by
  by_cases e : d = c
  · subst e
    obtain ⟨o, h1, h2⟩ := x.new
    exact ⟨o, _, h1, h2⟩
  · obtain ⟨o, u, h1, h2⟩ := h
    exact ⟨o, u, x.mem h1 e, h2⟩
theorem mem_split {p : Addr × Obj} : ∀ {Y : Lg}, p ∈ Y → ∃ Y1 Y2, Y = Y1 ++ (p :: Y2)
  | q :: Y, h => by
    rcases List.mem_cons.mp h with rfl | h
    · exact ⟨[], Y, rfl⟩
    · obtain ⟨Y1, Y2, rfl⟩ := mem_split h
      exact ⟨q :: Y1, Y2, rfl⟩
section
variable {h₀ h h' : Heap} {L d : Addr} {m : Str → Option Value} {Y led : Lg}
theorem At.same (x : At h₀ L m Y led h) (hs : Heap.SameBut d h h') (hd : ∀ p ∈ Y ++ led, p.1 ≠ d) (hL : d ≠ L) (hn : h₀.get? d = none) : At h₀ L m Y led h' :=
  ⟨x.fr.change hs hL hn, fun p hp => ⟨hs.extBut _ _ (hd p hp) (x.ne p hp).1, (x.ne p hp).2⟩, x.nd, x.off⟩
end
section
variable {M : Model} {A : Around} {E : Value → Shared → Prop} {s : Shared} {h₀ : Heap} {L : Addr} {m : Str → Option Value} {Y led : Lg} {env : Env} {R : Rp} {c : Addr}
theorem store_loc {x : Str} {v : Value} {Q : Unit → Shared → Prop} (at0 : At h₀ L m Y led s.heap) (hL : env.locals = L) (hx : env.kindOf x = some .local) (hp : (env.scope.kind == .class || (env.scope.kind == .module && env.locals != env.globals)) = false)
    (k : ∀ h', At h₀ L (fun z => if z = x then some v else m z) Y led h' → Q () { s with heap := h', toks := s.toks + 1 }) : wpAny M A (storeName env x v) Q E s := by
  subst hL
  exact wpAny_storeName_local hx at0.fr.ns (fun h' hn hs => k h' (at0.frame hn hs)) hp
theorem store_cl {x : Str} {v : Value} {Q : Unit → Shared → Prop} (at0 : At h₀ L m Y led s.heap) (hc : env.cells.lookup x = some c) (hh : HasCell Y c) (hk : env.scope.kind = .function) (hx : env.kindOf x = some .cell)
    (k : ∀ h' Y', SetC c v Y Y' → At h₀ L m Y' led h' → Q () { s with heap := h' }) : wpAny M A (storeName env x v) Q E s := by
  obtain ⟨o, u, hm, hd⟩ := hh
  refine wpAny_storeName_cell hk hx hc ⟨o, (at0.y _ hm).1, hd⟩ fun h' hv hs => ?_
  obtain ⟨o', ho', hd'⟩ := hv
  obtain ⟨Y1, Y2, rfl⟩ := mem_split hm
  exact k h' _ ⟨Y1, o, Y2, o', rfl, rfl, hd'⟩ (at0.set hs ho')
/-- assignments -/
theorem ex_loc {x : Str} {px pos : Pos} {e : Expr} {Q : Flow → Shared → Prop} (at0 : At h₀ L m Y led s.heap) (x0 : Ev M A h₀ L m Y env e led R)
    (k : ∀ v h' tk' led', At h₀ L (fun z => if z = x then some v else m z) Y led' h' → Sub led led' → R led' v → Q .next { s with heap := h', toks := tk' })
    (hL : env.locals = L := by rfl) (hx : env.kindOf x = some .local := by rfl) (hp : (env.scope.kind == .class || (env.scope.kind == .module && env.locals != env.globals)) = false := by rfl)
    (hsw : swapsWith e (some (.Name x px)) pos.line env = pure false := by rfl) : Wp M A (exec (.Assign [.Name x px] e pos) env) Q E s := Wp.mk <|
  wpAny_Assign_Name ((x0 led .rfl).go _ _ _ at0 fun v h1 t1 l1 at1 s1 r1 => store_loc at1 hL hx hp fun h2 at2 => k v h2 _ l1 at2 s1 r1) hsw
theorem ex_cell {x : Str} {px pos : Pos} {e : Expr} {Q : Flow → Shared → Prop} (at0 : At h₀ L m Y led s.heap) (x0 : Ev M A h₀ L m Y env e led R) (hh : HasCell Y c)
    (k : ∀ v h' tk' led' Y', SetC c v Y Y' → At h₀ L m Y' led' h' → Sub led led' → R led' v → Q .next { s with heap := h', toks := tk' })
    (hc : env.cells.lookup x = some c := by rfl) (hk : env.scope.kind = .function := by rfl) (hx : env.kindOf x = some .cell := by rfl)
    (hsw : swapsWith e (some (.Name x px)) pos.line env = pure false := by rfl) : Wp M A (exec (.Assign [.Name x px] e pos) env) Q E s := Wp.mk <|
  wpAny_Assign_Name ((x0 led .rfl).go _ _ _ at0 fun v h1 t1 l1 at1 s1 r1 => store_cl at1 hc hh hk hx fun h2 Y' hy at2 => k v h2 _ l1 Y' hy at2 s1 r1) hsw
theorem ex_if {t : Expr} {b o : List Stmt} {pos : Pos} {c : Bool} {Q : Flow → Shared → Prop} (at0 : At h₀ L m Y led s.heap) (x : Te M A h₀ L m Y env t led c)
    (k : ∀ h' tk' led', At h₀ L m Y led' h' → Sub led led' → if c = true then Wp M A (execs b env) Q E { s with heap := h', toks := tk' } else Wp M A (execs o env) Q E { s with heap := h', toks := tk' }) : Wp M A (exec (.If t b o pos) env) Q E s := Wp.mk <|
  wpAny_If ((x led .rfl).go _ _ _ at0 fun v h1 t1 l1 at1 s1 r1 => by
    subst r1
    have := k h1 t1 l1 at1 s1
    cases v with
    | true => exact this.h
    | false => exact this.h)
theorem ex_cons {st : Stmt} {rest : List Stmt} {Q : Flow → Shared → Prop} (h : Wp M A (exec st env) (fun f s' => match f with | .next => Wp M A (execs rest env) Q E s' | f => Q f s') E s) : Wp M A (execs (st :: rest) env) Q E s := Wp.mk <| wpAny_execs_cons (wpAny_mono h.h (fun f s' x => by
    cases f with
    | next => exact x.h
    | _ => exact x) fun _ _ e => e)
theorem ex_nil {Q : Flow → Shared → Prop} (h : Q .next s) : Wp M A (execs [] env) Q E s := Wp.mk <| wpAny_execs_nil h
end
section
variable {prog : Program} {w : World} {A : Around} {E : Value → Shared → Prop} {s : Shared} {h₀ : Heap} {L : Addr} {m : Str → Option Value} {Y led : Lg} {env : Env} {c : Addr} {α β : Type}
/-- a comprehension into a local -/
theorem ex_compL {elt target iter : Expr} {ifs : List Expr} {y : Str} {py : Pos} {scope : Scope} {cl : List (Str × Addr)} {pos spos : Pos} {IR : α → Heap → Lg → Value → Prop} {Own : Addr → Lg → Lg → α → Prop} {g : α → Option β} {Rb : β → Rp} {xs : List α} {Q : Flow → Shared → Prop}
    (at0 : At h₀ L m Y led s.heap) (hit : It prog w A h₀ L m Y env iter target led xs IR) (hsz : xs.length ≤ sizeLine)
    (tgt : ∀ C, TgtOk prog w A h₀ L m target (cenvOf scope cl C env) C (cellAddrs (C + 1) scope.names) IR (Own C))
    (body : ∀ C Y' led' x, x ∈ xs → Sub Y Y' → (∀ q ∈ Y', q ∈ Y ∨ NoTup q.2) → Sub led led' → Own C Y' led' x → Body (model prog w) A h₀ L m Y' (cenvOf scope cl C env) ifs elt led' (g x) Rb)
    (ub : ∀ y, Up (Rb y))
    (k : ∀ v h' tk' led', At h₀ L (fun z => if z = y then some v else m z) Y led' h' → Sub led led' → ListR Rb (xs.filterMap g) led' v → Q .next { s with heap := h', toks := tk' })
    (hclos : closureFor scope env = pure cl := by rfl) (hkind : scope.kind = .function := by rfl) (hnames : ∀ y ∈ scope.names, y.2 = .local → scope.names.lookup y.1 = some .local := by decide)
    (hL : env.locals = L := by rfl) (hy : env.kindOf y = some .local := by rfl) (hp : (env.scope.kind == .class || (env.scope.kind == .module && env.locals != env.globals)) = false := by rfl)
    (hsw : swapsWith (.ListComp elt [⟨target, iter, ifs, 0⟩] scope pos) (some (.Name y py)) spos.line env = pure true := by rfl)
    (hs : ∀ x, foldedSetIterable iter env x = pure x := by intro _; rfl) :
    Wp (model prog w) A (exec (.Assign [.Name y py] (.ListComp elt [⟨target, iter, ifs, 0⟩] scope pos) spos) env) Q E s := Wp.mk <| by
  refine AssignL_B (h₀ := h₀) (L := L) (m := m) hL hsw hclos hkind hnames hy hp ?_ hs
  refine (hit led .rfl).go s _ _ at0 fun I h' tk' l1 fx ws Pv at1 s1 S hfx hoff hnd hitem hcl => ?_
  refine blk_ev (IR := IR) (Own := Own) (g := g) (Rb := Rb) at1 S hsz (fun p hp => List.mem_append_right _ (hfx p hp)) hoff hnd hitem tgt (fun C Y' led' x hx hy hn hl ho => body C Y' led' x hx hy (noTup3 hcl hn) (s1.trans hl) ho) ub fun D ys c hc ho hD r => ?_
  intro h tk F N
  refine k _ _ _ ((D, lst ys) :: c) ⟨F, fun p hp => N p ?_, at1.nd, fun p hp hm => ?_⟩ (s1.trans (hc.trans .cons)) ⟨D, ys, _, rfl, .head _, r.mono fun b v h => ub b _ _ _ .cons h⟩
  · rcases List.mem_append.mp hp with hp | hp
    · simp [hp]
    · rcases List.mem_cons.mp hp with rfl | hp <;> simp [*]
  · rcases List.mem_cons.mp hp with rfl | hp
    · obtain ⟨q, hq, e⟩ := List.mem_map.mp hm
      exact hD q (List.mem_append_left _ hq) e
    · exact ho p hp hm

noncomputable def FinC (h₀ : Heap) (L : Addr) (m : Str → Option Value) (Y : Lg) (cc : Addr) (Q : Flow → Shared → Prop) (s₂ : Shared) (D : Addr) (led : Lg) : Prop :=
  ∃ o c, led = (D, o) :: (Y ++ c) ∧ (Y.map (·.1)).Nodup ∧ (∀ p ∈ (D, o) :: c, p.1 ∉ Y.map (·.1)) ∧ ∀ h tk Y', SetC cc (.ref D) Y Y' → At h₀ L m Y' ((D, o) :: c) h → Q .next { s₂ with heap := h, toks := tk }
end
end Mine
end
noncomputable section
open PySem PySem.W PyProof.Rows PySem.Calls PySem.Spec
set_option maxRecDepth 100000
set_option linter.unusedVariables false
namespace Mine
open LCg
/-- states alike but for the heap -/
noncomputable def Kin (s s' : Shared) : Prop := s'.os = s.os ∧ s'.drawn = s.drawn ∧ (AllBare s.gens → AllBare s'.gens)
theorem Kin.rfl {s : Shared} : Kin s s := ⟨_root_.rfl, _root_.rfl, id⟩
theorem Kin.trans {a b c : Shared} (x : Kin a b) (y : Kin b c) : Kin a c := ⟨y.1.trans x.1, y.2.1.trans x.2.1, y.2.2 ∘ x.2.2⟩
noncomputable def KinE (s s' : Shared) : Prop := s'.os = s.os ∧ s'.drawn = s.drawn ∧ s'.gens = s.gens
theorem KinE.eq {s s' : Shared} (x : KinE s s') : s' = { s with heap := s'.heap, toks := s'.toks } := by
  obtain ⟨h1, h2, h3⟩ := x
  cases s'
  dsimp only at h1 h2 h3
  subst h1 h2 h3
  rfl
theorem Kin.step {s : Shared} {h : Heap} {tk : Nat} : Kin s { s with heap := h, toks := tk } := ⟨_root_.rfl, _root_.rfl, id⟩
/-- the rest's post and the state get names: what follows is then short -/
theorem hideT {α : Type} {M : Model} {A : Around} {t : Sem α} {Q : α → Shared → Prop} {E : Value → Shared → Prop} {s : Shared} {g h : Heap} {L : Addr} {m : Str → Option Value} {Y led : Lg} {tk : Nat} (at0 : At g L m Y led h)
    (k : ∀ Q' s', At g L m Y led s'.heap → KinE s s' → (∀ f u, Q f u → Q' f u) → Wp M A t Q' E s') : Wp M A t Q E { s with heap := h, toks := tk } := k Q _ at0 ⟨rfl, rfl, rfl⟩ fun _ _ x => x
theorem hideK {α : Type} {M : Model} {A : Around} {t : Sem α} {Q : α → Shared → Prop} {E : Value → Shared → Prop} {s : Shared} {g h : Heap} {L : Addr} {m : Str → Option Value} {Y led : Lg} {tk : Nat} (at0 : At g L m Y led h)
    (k : ∀ Q' s', At g L m Y led s'.heap → Kin s s' → (∀ f u, Q f u → Q' f u) → Wp M A t Q' E s') : Wp M A t Q E { s with heap := h, toks := tk } := k Q _ at0 .step fun _ _ x => x
section
variable {h₀ h h' : Heap} {L d : Addr} {m : Str → Option Value} {Y X led : Lg}
theorem At.drop (x : At h₀ L m (X ++ Y) led h) : At h₀ L m Y led h := by
  have nd := x.nd
  rw [List.map_append, List.nodup_append] at nd
  exact ⟨x.fr, fun p hp => x.ne p (by
    rcases List.mem_append.mp hp with hp | hp <;> simp [hp]), nd.2.1, fun p hp hm => x.off p hp (by rw [List.map_append]; exact List.mem_append_right _ hm)⟩
end
section
variable {prog : Program} {w : World} {A : Around} {E : Value → Shared → Prop} {s : Shared} {h₀ : Heap} {L : Addr} {m : Str → Option Value} {Y led : Lg} {env : Env} {α β : Type}
/-- a loop: an invariant of the names, the entries that turn over and the ledger -/
theorem ex_forK (K : Shared → Shared → Prop) (hK0 : K s s) (hK : ∀ s' h tk, K s s' → K s { s' with heap := h, toks := tk }) {target iter : Expr} {body : List Stmt} {pos : Pos} {IR : α → Heap → Lg → Value → Prop} {xs : List α} {Q : Flow → Shared → Prop}
    (at0 : At h₀ L m Y led s.heap) (hit : It prog w A h₀ L m Y env iter target led xs IR)
    (inv : Nat → (Str → Option Value) → Lg → Lg → Prop) (h0 : ∀ led', Sub led led' → inv 0 m Y led')
    (turn : ∀ i x its m₁ Y₁ led₁ v s₁, xs[i]? = some x → K s s₁ → Sub led led₁ → Y₁.map (·.1) = Y.map (·.1) → inv i m₁ Y₁ led₁ → (∀ p ∈ its, ∃ T, p.2.cls = .type T ∧ NoSeq T) → At h₀ L m₁ (its ++ Y₁) led₁ s₁.heap → IR x s₁.heap led₁ v →
      Wp (model prog w) A (assign target env v) (fun _ s₂ => Wp (model prog w) A (execs body env) (fun f s₃ => match f with
        | .ret v => Q (.ret v) s₃
        | .brk => Q .next s₃
        | _ => ∃ m' Y' led', K s s₃ ∧ At h₀ L m' (its ++ Y') led' s₃.heap ∧ Sub led₁ led' ∧ Y'.map (·.1) = Y.map (·.1) ∧ inv (i + 1) m' Y' led') E s₂) E s₁)
    (done : ∀ m' Y' led' s₁, K s s₁ → Sub led led' → Y'.map (·.1) = Y.map (·.1) → inv xs.length m' Y' led' → At h₀ L m' Y' led' s₁.heap → Q .next s₁)
    (hs : ∀ x, foldedSetIterable iter env x = pure x := by intro _; rfl) (hE : PassesOwn (model prog w) A env E := by passes_own) :
    Wp (model prog w) A (exec (.For target iter body [] pos) env) Q E s := Wp.mk <| by
  refine wpAny_For ((hit led .rfl).go s _ _ at0 fun I h' tk' l1 fx ws Pv at1 s1 S hfx hoff hnd hitem hcl => ?_) hs
  obtain ⟨fp, wr, Md, St, W, hself, hobj, hwr, hws, hfp, hst, hlt0, hLf⟩ := S
  refine codeAny_forLoop_any (R := fun r s' => match r with | .ok f => Q f s' | .error e => cameBackBy (model prog w) A env E e s')
    (fun k s' => ∃ m' Y' led' i, K s s' ∧ St i s'.heap ∧ At h₀ L m' Y' led' s'.heap ∧ Sub l1 led' ∧ Y'.map (·.1) = Y.map (·.1) ∧ (∀ p ∈ Y' ++ led', p.1 ∉ ws.map (·.1)) ∧ inv i m' Y' led' ∧ i ≤ xs.length ∧ k = xs.length + 1 - i) ?_ (xs.length + 1)
    ⟨m, Y, l1, 0, (hK s _ _ hK0), hst, at1, .rfl, rfl, hoff, h0 _ s1, Nat.zero_le _, rfl⟩
  rintro k s' ⟨m', Y', led', i, hk, hst', at', hl, hmap, hoff', hinv, hi, rfl⟩
  have hLw : L ∉ ws.map (·.1) := fun hm => (hws L hm).2.2 rfl
  have next : ∀ h₁ : Heap, (∀ b o, b ∉ wr → s'.heap.get? b = some o → h₁.get? b = some o) → At h₀ L m' Y' led' h₁ := fun h₁ hk₁ =>
    ⟨⟨at'.fr.ns.at' fun o e => hk₁ _ o (fun hm => hLw (hwr _ hm)) e, fun b o e => hk₁ b o (fun hb => by rw [(hws b (hwr b hb)).2.1] at e; cases e) (at'.fr.keep b o e), at'.fr.above⟩,
      fun p hp => ⟨hk₁ _ _ (fun hm => hoff' p hp (hwr _ hm)) (at'.ne p hp).1, (at'.ne p hp).2⟩, at'.nd, at'.off⟩
  by_cases hlt : i < xs.length
  · refine W.item i _ _ _ hlt hst' fun v h₁ tk₁ hMd hk₁ => ?_
    refine W.go i v _ _ _ hMd fun h₂ hP hst₂ hk₂ => ?_
    have at2 := next h₂ fun b o hb x => hk₂ b o hb (hk₁ b o hb x)
    obtain ⟨its, hits, hitg⟩ := hobj _ _ hst₂
    have him := hits.map
    have at3 : At h₀ L m' (its ++ Y') led' h₂ := by
      refine ⟨at2.fr, fun p hp => ?_, ?_, fun p hp hm => ?_⟩
      · rw [List.append_assoc] at hp
        rcases List.mem_append.mp hp with hp | hp
        · have hm : p.1 ∈ ws.map (·.1) := him ▸ List.mem_map.mpr ⟨p, hp, rfl⟩
          exact ⟨hitg p hp, (hws _ hm).2.2, (hws _ hm).2.1⟩
        · exact at2.ne p hp
      · rw [List.map_append, him]
        refine List.nodup_append.mpr ⟨hnd, at2.nd, fun a ha b hb e => ?_⟩
        obtain ⟨q, hq, e'⟩ := List.mem_map.mp hb
        exact hoff' q (List.mem_append_left _ hq) (e' ▸ e ▸ ha)
      · rw [List.map_append, him] at hm
        rcases List.mem_append.mp hm with hm | hm
        · exact hoff' p (List.mem_append_right _ hp) hm
        · exact at2.off p hp hm
    have hcl' : ∀ p ∈ its, ∃ T, p.2.cls = .type T ∧ NoSeq T := objs_cls hcl hits
    obtain ⟨x, hx, hIR⟩ := hitem i v h₂ led' hl at3.stay hP
    have T := turn i x its m' Y' led' v { s' with heap := h₂, toks := tk₁ } hx (hK _ _ _ hk) (s1.trans hl) hmap hinv hcl' at3 hIR
    have fin : ∀ s₃, (∃ m' Y' led'', K s s₃ ∧ At h₀ L m' (its ++ Y') led'' s₃.heap ∧ Sub led' led'' ∧ Y'.map (·.1) = Y.map (·.1) ∧ inv (i + 1) m' Y' led'') →
        ∃ k, k < xs.length + 1 - i ∧ ∃ m' Y' led' i, K s s₃ ∧ St i s₃.heap ∧ At h₀ L m' Y' led' s₃.heap ∧ Sub l1 led' ∧ Y'.map (·.1) = Y.map (·.1) ∧ (∀ p ∈ Y' ++ led', p.1 ∉ ws.map (·.1)) ∧ inv i m' Y' led' ∧ i ≤ xs.length ∧ k = xs.length + 1 - i := by
      rintro s₃ ⟨m3, Y3, l3, k3, at4, s4, map4, inv4⟩
      refine ⟨xs.length + 1 - (i + 1), turn_lt hlt, m3, Y3, l3, i + 1, k3, W.frame _ _ _ hst₂ fun b hb o e => ?_, at4.drop, hl.trans s4, map4, fun p hp hm => ?_, inv4, hlt, rfl⟩
      · rcases hfp b hb with hm | ⟨o', hm⟩ | ⟨o', ho'⟩
        · rw [← him] at hm
          obtain ⟨q, hq, hqe⟩ := List.mem_map.mp hm
          have h5 := hitg q hq
          rw [hqe] at h5
          have e6 : q.2 = o := Option.some.inj (h5.symm.trans e)
          have h6 := (at4.y q (List.mem_append_left _ hq)).1
          rw [hqe, e6] at h6
          exact h6
        · have h5 := (at3.stay _ (hl _ (hfx _ hm))).1
          have e6 : o' = o := Option.some.inj (h5.symm.trans e)
          exact e6 ▸ (at4.stay _ (s4 _ (hl _ (hfx _ hm)))).1
        · have e6 : o' = o := Option.some.inj ((at3.fr.keep b o' ho').symm.trans e)
          exact e6 ▸ at4.fr.keep b o' ho'
      · rcases List.mem_append.mp hp with hp | hp
        · have nd := at4.nd
          rw [List.map_append, List.nodup_append, him] at nd
          exact nd.2.2 _ hm _ (List.mem_map.mpr ⟨p, hp, rfl⟩) rfl
        · exact at4.off p hp (by rw [List.map_append, him]; exact List.mem_append_left _ hm)
    refine wpAny_mono T.h (fun _ s₂ h₂' => wpAny_mono (wpAny_passesOwn hE h₂'.h) (fun f s₃ h₃ => ?_) fun _ _ e => e) hE
    cases f with
    | ret v => exact h₃
    | brk => exact h₃
    | next => exact fin _ h₃
    | cont => exact fin _ h₃
  · obtain rfl : i = xs.length := Nat.le_antisymm hi (Nat.not_lt.mp hlt)
    refine W.done _ _ _ hst' fun h₂ tk₂ hk₂ => ?_
    exact wpAny_execs_nil (done m' Y' led' _ (hK _ _ _ hk) (s1.trans hl) hmap hinv (next h₂ hk₂))
theorem ex_for {target iter : Expr} {body : List Stmt} {pos : Pos} {IR : α → Heap → Lg → Value → Prop} {xs : List α} {Q : Flow → Shared → Prop}
    (at0 : At h₀ L m Y led s.heap) (hit : It prog w A h₀ L m Y env iter target led xs IR)
    (inv : Nat → (Str → Option Value) → Lg → Lg → Prop) (h0 : ∀ led', Sub led led' → inv 0 m Y led')
    (turn : ∀ i x its m₁ Y₁ led₁ v h tk, xs[i]? = some x → Sub led led₁ → Y₁.map (·.1) = Y.map (·.1) → inv i m₁ Y₁ led₁ → (∀ p ∈ its, ∃ T, p.2.cls = .type T ∧ NoSeq T) → At h₀ L m₁ (its ++ Y₁) led₁ h → IR x h led₁ v →
      Wp (model prog w) A (assign target env v) (fun _ s₂ => Wp (model prog w) A (execs body env) (fun f s₃ => match f with
        | .ret v => Q (.ret v) s₃
        | .brk => Q .next s₃
        | _ => ∃ m' Y' led', KinE s s₃ ∧ At h₀ L m' (its ++ Y') led' s₃.heap ∧ Sub led₁ led' ∧ Y'.map (·.1) = Y.map (·.1) ∧ inv (i + 1) m' Y' led') E s₂) E { s with heap := h, toks := tk })
    (done : ∀ m' Y' led' h tk, Sub led led' → Y'.map (·.1) = Y.map (·.1) → inv xs.length m' Y' led' → At h₀ L m' Y' led' h → Q .next { s with heap := h, toks := tk })
    (hs : ∀ x, foldedSetIterable iter env x = pure x := by intro _; rfl) (hE : PassesOwn (model prog w) A env E := by passes_own) :
    Wp (model prog w) A (exec (.For target iter body [] pos) env) Q E s := 
  ex_forK KinE ⟨rfl, rfl, rfl⟩ (fun _ _ _ x => x) at0 hit inv h0 (fun i x its m₁ Y₁ led₁ v s₁ hx hk hl hmap hi hc at1 hr => by
    have e := hk.eq
    have T := turn i x its m₁ Y₁ led₁ v s₁.heap s₁.toks hx hl hmap hi hc at1 hr
    rw [← e] at T
    exact T) (fun m' Y' led' s₁ hk hl hmap hi at1 => by
    have T := done m' Y' led' s₁.heap s₁.toks hl hmap hi at1
    rw [← hk.eq] at T
    exact T) hs hE
theorem ex_forG {target iter : Expr} {body : List Stmt} {pos : Pos} {IR : α → Heap → Lg → Value → Prop} {xs : List α} {Q : Flow → Shared → Prop}
    (at0 : At h₀ L m Y led s.heap) (hit : It prog w A h₀ L m Y env iter target led xs IR)
    (inv : Nat → (Str → Option Value) → Lg → Lg → Prop) (h0 : ∀ led', Sub led led' → inv 0 m Y led')
    (turn : ∀ i x its m₁ Y₁ led₁ v s₁, xs[i]? = some x → Kin s s₁ → Sub led led₁ → Y₁.map (·.1) = Y.map (·.1) → inv i m₁ Y₁ led₁ → (∀ p ∈ its, ∃ T, p.2.cls = .type T ∧ NoSeq T) → At h₀ L m₁ (its ++ Y₁) led₁ s₁.heap → IR x s₁.heap led₁ v →
      Wp (model prog w) A (assign target env v) (fun _ s₂ => Wp (model prog w) A (execs body env) (fun f s₃ => match f with
        | .ret v => Q (.ret v) s₃
        | .brk => Q .next s₃
        | _ => ∃ m' Y' led', Kin s s₃ ∧ At h₀ L m' (its ++ Y') led' s₃.heap ∧ Sub led₁ led' ∧ Y'.map (·.1) = Y.map (·.1) ∧ inv (i + 1) m' Y' led') E s₂) E s₁)
    (done : ∀ m' Y' led' s₁, Kin s s₁ → Sub led led' → Y'.map (·.1) = Y.map (·.1) → inv xs.length m' Y' led' → At h₀ L m' Y' led' s₁.heap → Q .next s₁)
    (hs : ∀ x, foldedSetIterable iter env x = pure x := by intro _; rfl) (hE : PassesOwn (model prog w) A env E := by passes_own) :
    Wp (model prog w) A (exec (.For target iter body [] pos) env) Q E s := 
  ex_forK Kin .rfl (fun _ _ _ x => x.trans .step) at0 hit inv h0 turn done hs hE
end
end Mine
end
noncomputable section
open PySem PySem.W PyProof.Rows PySem.Calls PySem.Spec
set_option maxRecDepth 100000
set_option linter.unusedVariables false
namespace Mine
open LCg
/-- an entry is written -/
noncomputable def SetE (c : Addr) (o' : Obj) (Y Y' : Lg) : Prop := ∃ Y1 o Y2, Y = Y1 ++ ((c, o) :: Y2) ∧ Y' = Y1 ++ ((c, o') :: Y2)
theorem SetE.map {c : Addr} {o' : Obj} {Y Y' : Lg} (x : SetE c o' Y Y') : Y'.map (·.1) = Y.map (·.1) := by
  obtain ⟨Y1, o, Y2, rfl, rfl⟩ := x
  simp
/-- an entry is written behind others -/
theorem SetE.under {c : Addr} {o' : Obj} {X Y Z : Lg} (x : SetE c o' (X ++ Y) Z) (hc : c ∉ X.map (·.1)) : ∃ Y', Z = X ++ Y' ∧ SetE c o' Y Y' := by
  obtain ⟨Y1, o, Y2, h1, rfl⟩ := x
  rcases List.append_eq_append_iff.mp h1 with ⟨a, e1, e2⟩ | ⟨a, e1, e2⟩
  · subst e1
    refine ⟨a ++ ((c, o') :: Y2), by simp, a, o, Y2, e2, rfl⟩
  · cases a with
    | nil =>
      simp at e1 e2
      subst e1
      exact ⟨(c, o') :: Y2, rfl, [], o, Y2, e2.symm, rfl⟩
    | cons p a =>
      have e3 := List.cons.inj e2
      exact absurd (by rw [e1, ← e3.1]; simp) hc
theorem SetC.toE {c : Addr} {v : Value} {Y Y' : Lg} (x : SetC c v Y Y') : ∃ o', o'.data = .cell (some v) ∧ SetE c o' Y Y' := by
  obtain ⟨Y1, o, Y2, o', h1, h2, hd⟩ := x
  exact ⟨o', hd, Y1, o, Y2, h1, h2⟩
theorem SetE.toC {c : Addr} {v : Value} {o' : Obj} {Y Y' : Lg} (x : SetE c o' Y Y') (hd : o'.data = .cell (some v)) : SetC c v Y Y' := by
  obtain ⟨Y1, o, Y2, h1, h2⟩ := x
  exact ⟨Y1, o, Y2, o', h1, h2, hd⟩
theorem SetC.under {c : Addr} {v : Value} {X Y Z : Lg} (x : SetC c v (X ++ Y) Z) (hc : c ∉ X.map (·.1)) : ∃ Y', Z = X ++ Y' ∧ SetC c v Y Y' := by
  obtain ⟨o', hd, y⟩ := x.toE
  obtain ⟨Y', e, z⟩ := y.under hc
  exact ⟨Y', e, z.toC hd⟩
theorem At.apart {h₀ h : Heap} {L c : Addr} {m : Str → Option Value} {X Y led : Lg} {o : Obj} (x : At h₀ L m (X ++ Y) led h) (hm : (c, o) ∈ Y) : c ∉ X.map (·.1) := fun hc => by
  have nd := x.nd
  rw [List.map_append, List.nodup_append] at nd
  exact nd.2.2 _ hc _ (List.mem_map.mpr ⟨_, hm, rfl⟩) rfl
theorem HasCell.apart {h₀ h : Heap} {L c : Addr} {m : Str → Option Value} {X Y led : Lg} (x : At h₀ L m (X ++ Y) led h) (hm : HasCell Y c) : c ∉ X.map (·.1) := let ⟨_, _, hm, _⟩ := hm; x.apart hm
theorem HasCell.left {c : Addr} {X Y : Lg} (x : HasCell Y c) : HasCell (X ++ Y) c := let ⟨o, v, h, d⟩ := x; ⟨o, v, List.mem_append_right _ h, d⟩
theorem CellV.left {c : Addr} {v : Value} {X Y : Lg} (x : CellV Y c v) : CellV (X ++ Y) c v := let ⟨o, h, d⟩ := x; ⟨o, List.mem_append_right _ h, d⟩

section
variable {prog : Program} {w : World} {A : Around} {E : Value → Shared → Prop} {s : Shared} {h₀ : Heap} {L : Addr} {m : Str → Option Value} {Y led : Lg} {env : Env} {c d : Addr} {R R' : Rp} {x y : Str} {px py pos : Pos} {v v' : Value}
theorem tg_loc {M : Model} {Q : Unit → Shared → Prop} (at0 : At h₀ L m Y led s.heap) (k : ∀ h', At h₀ L (fun z => if z = x then some v else m z) Y led h' → Q () { s with heap := h', toks := s.toks + 1 })
    (hL : env.locals = L := by rfl) (hx : env.kindOf x = some .local := by rfl) (hp : (env.scope.kind == .class || (env.scope.kind == .module && env.locals != env.globals)) = false := by rfl) : Wp M A (assign (.Name x px) env v) Q E s := Wp.mk <|
  wpAny_assign_Name (store_loc at0 hL hx hp k)
theorem tg_cl {M : Model} {Q : Unit → Shared → Prop} (at0 : At h₀ L m Y led s.heap) (hh : HasCell Y c) (k : ∀ h' Y', SetC c v Y Y' → At h₀ L m Y' led h' → Q () { s with heap := h' })
    (hc : env.cells.lookup x = some c := by rfl) (hk : env.scope.kind = .function := by rfl) (hx : env.kindOf x = some .cell := by rfl) : Wp M A (assign (.Name x px) env v) Q E s := Wp.mk <|
  wpAny_assign_Name (store_cl at0 hc hh hk hx k)
theorem At.extNew {h h' : Heap} (at0 : At h₀ L m Y led h) (hx : Heap.ExtBut h.objs.size h h') : At h₀ L m Y led h' :=
  ⟨at0.fr.keeps fun b o e => hx b o (Nat.ne_of_lt (Heap.lt_size e)) e, fun p hp => ⟨hx _ _ (Nat.ne_of_lt (at0.lt p hp)) (at0.ne p hp).1, (at0.ne p hp).2⟩, at0.nd, at0.off⟩
theorem tg_pr {kk : Nat} {T : Addr} {Q : Unit → Shared → Prop} (hh : A.handled = none) (at0 : At h₀ L m Y led s.heap) (hT : IsTup s.heap T #[v, v'])
    (k : ∀ h' tk, At h₀ L (fun z => if z = y then some v' else if z = x then some v else m z) Y led h' → Q () { s with heap := h', toks := tk })
    (hL : env.locals = L := by rfl) (hx : env.kindOf x = some .local := by rfl) (hy : env.kindOf y = some .local := by rfl) (hp : (env.scope.kind == .class || (env.scope.kind == .module && env.locals != env.globals)) = false := by rfl) :
    Wp (model prog w) A (assign (.Tuple [.Name x px, .Name y py] kk pos) env (.ref T)) Q E s := Wp.mk <| by
  refine assign_Tuple_tuple hh hT rfl rfl fun h1 hx1 => ?_
  have at1 := at0.extNew hx1
  refine assignInOrder_cons ?_
  show wpAny _ A (assign (.Name x px) env v) _ _ _
  refine Wp.h (tg_loc at1 (fun h2 at2 => ?_) hL hx hp)
  refine assignInOrder_cons ?_
  show wpAny _ A (assign (.Name y py) env v') _ _ _
  refine Wp.h (tg_loc at2 (fun h3 at3 => ?_) hL hy hp)
  exact assignInOrder_nil (k h3 _ at3)
theorem ex_twoCL {e e' : Expr} {kk k2 : Nat} {tpos vpos : Pos} {Q : Flow → Shared → Prop} (hh : A.handled = none) (at0 : At h₀ L m Y led s.heap) (hcl : HasCell Y c) (a : Ev (model prog w) A h₀ L m Y env e led R) (b : Ev (model prog w) A h₀ L m Y env e' led R') (u : Up R) (u' : Up R')
    (k : ∀ v v' h' tk led' Y', SetC c v Y Y' → At h₀ L (fun z => if z = y then some v' else m z) Y' led' h' → Sub led led' → R led' v → R' led' v' → Q .next { s with heap := h', toks := tk })
    (hc : env.cells.lookup x = some c := by rfl) (hk : env.scope.kind = .function := by rfl) (hx : env.kindOf x = some .cell := by rfl)
    (hL : env.locals = L := by rfl) (hy : env.kindOf y = some .local := by rfl) (hp : (env.scope.kind == .class || (env.scope.kind == .module && env.locals != env.globals)) = false := by rfl)
    (h1 : swapsWithSole [.Tuple [.Name x px, .Name y py] kk tpos] (.Tuple [e, e'] k2 vpos) pos.line env = pure false := by rfl)
    (h2 : swappedStores [.Tuple [.Name x px, .Name y py] kk tpos] (.Tuple [e, e'] k2 vpos) env = pure none := by rfl)
    (e1 : starEach [e, e'] env = (false, eval e env) :: starEach [e'] env := by rfl) (e2 : starEach [e'] env = (false, eval e' env) :: starEach [] env := by rfl) :
    Wp (model prog w) A (exec (.Assign [.Tuple [.Name x px, .Name y py] kk tpos] (.Tuple [e, e'] k2 vpos) pos) env) Q E s := Wp.mk <| by
  refine Assign_Tuple ((ev_tup (sp_cons a (sp_cons b sp_nil u' e2) u e1) (ups_cons u (ups_cons u' ups_nil)) (by show 2 ≤ sizeLine; decide) led .rfl).go _ _ _ at0 fun v h1 t1 l1 at1 s1 r1 => ?_) h1 h2
  obtain ⟨T, vs, n, rfl, hm, r⟩ := r1
  obtain ⟨v, v', rfl, r, r'⟩ := all2_two r
  refine assign_Tuple_tuple hh ⟨_, (at1.stay _ hm).1, rfl, n, rfl⟩ rfl rfl fun h2 hx2 => ?_
  have at2 := at1.extNew hx2
  refine assignInOrder_cons ?_
  show wpAny _ A (assign (.Name x px) env v) _ _ _
  refine Wp.h (tg_cl at2 hcl (fun h3 Y' hY at3 => ?_) hc hk hx)
  refine assignInOrder_cons ?_
  show wpAny _ A (assign (.Name y py) env v') _ _ _
  refine Wp.h (tg_loc at3 (fun h4 at4 => ?_) hL hy hp)
  exact assignInOrder_nil (k v v' h4 _ l1 Y' hY at4 s1 r r')
theorem ex_twoCC {e e' : Expr} {kk k2 : Nat} {tpos vpos : Pos} {Q : Flow → Shared → Prop} (hh : A.handled = none) (at0 : At h₀ L m Y led s.heap) (hcl : HasCell Y c) (hcl' : HasCell Y d) (a : Ev (model prog w) A h₀ L m Y env e led R) (b : Ev (model prog w) A h₀ L m Y env e' led R') (u : Up R) (u' : Up R')
    (k : ∀ v v' h' tk led' Y' Y2, SetC c v Y Y' → SetC d v' Y' Y2 → At h₀ L m Y2 led' h' → Sub led led' → R led' v → R' led' v' → Q .next { s with heap := h', toks := tk })
    (hc : env.cells.lookup x = some c := by rfl) (hk : env.scope.kind = .function := by rfl) (hx : env.kindOf x = some .cell := by rfl) (hd : env.cells.lookup y = some d := by rfl) (hy : env.kindOf y = some .cell := by rfl)
    (h1 : swapsWithSole [.Tuple [.Name x px, .Name y py] kk tpos] (.Tuple [e, e'] k2 vpos) pos.line env = pure false := by rfl)
    (h2 : swappedStores [.Tuple [.Name x px, .Name y py] kk tpos] (.Tuple [e, e'] k2 vpos) env = pure none := by rfl)
    (e1 : starEach [e, e'] env = (false, eval e env) :: starEach [e'] env := by rfl) (e2 : starEach [e'] env = (false, eval e' env) :: starEach [] env := by rfl) :
    Wp (model prog w) A (exec (.Assign [.Tuple [.Name x px, .Name y py] kk tpos] (.Tuple [e, e'] k2 vpos) pos) env) Q E s := Wp.mk <| by
  refine Assign_Tuple ((ev_tup (sp_cons a (sp_cons b sp_nil u' e2) u e1) (ups_cons u (ups_cons u' ups_nil)) (by show 2 ≤ sizeLine; decide) led .rfl).go _ _ _ at0 fun v h1 t1 l1 at1 s1 r1 => ?_) h1 h2
  obtain ⟨T, vs, n, rfl, hm, r⟩ := r1
  obtain ⟨v, v', rfl, r, r'⟩ := all2_two r
  refine assign_Tuple_tuple hh ⟨_, (at1.stay _ hm).1, rfl, n, rfl⟩ rfl rfl fun h2 hx2 => ?_
  have at2 := at1.extNew hx2
  refine assignInOrder_cons ?_
  show wpAny _ A (assign (.Name x px) env v) _ _ _
  refine Wp.h (tg_cl at2 hcl (fun h3 Y' hY at3 => ?_) hc hk hx)
  refine assignInOrder_cons ?_
  show wpAny _ A (assign (.Name y py) env v') _ _ _
  refine Wp.h (tg_cl at3 (hY.has hcl') (fun h4 Y2 hY2 at4 => ?_) hd hk hy)
  exact assignInOrder_nil (k v v' h4 _ l1 Y' Y2 hY hY2 at4 s1 r r')
/-- append to a list that turns over -/
theorem ex_appendN {pl : Sem Bool} {ap cp : Pos} {e : Expr} {D : Addr} {ys : List Value} {n : Nat} {Q : Flow → Shared → Prop} (at0 : At h₀ L m Y led s.heap) (hD : (D, W.listOf ys.toArray n) ∈ Y) (hx : Ev (model prog w) A h₀ L m Y env (.Name x px) led (EqR (.ref D))) (he : Ev (model prog w) A h₀ L m Y env e led R) (u : Up R) (hsz : ys.length ≤ sizeLine)
    (k : ∀ v h' tk led' Y', SetE D (W.listOf (ys ++ [v]).toArray (n + 1)) Y Y' → At h₀ L m Y' led' h' → Sub led led' → R led' v → Q .next { s with heap := h', toks := tk })
    (hi : interactive env = false := by rfl) (hsw : swapsWith (.Call (.Attribute (.Name x px) "append" ap) [e] [] cp) none pos.line env = pure false := by rfl)
    (es : starEach [e] env = (false, eval e env) :: starEach [] env := by rfl)
    (hc : eval (.Call (.Attribute (.Name x px) "append" ap) [e] [] cp) env = (do
      let ov ← eval (.Name x px) env
      standAt ap.atName
      let (f, first) ← holding [ov] (getMethod ov "append" pl)
      callWith cp f first (backTo cp (starEach [e] env)) []) := by rfl) :
    Wp (model prog w) A (exec (.Expr (.Call (.Attribute (.Name x px) "append" ap) [e] [] cp) pos) env) Q E s := Wp.mk <| by
  refine wpAny_Expr_any (MethodCall_ (pl := pl) ((hx led .rfl).go _ _ _ at0 fun v h1 t1 l1 at1 s1 r1 => ?_) hc) hi hsw
  cases r1
  refine listMethod_K at1.y hD PySem.F.slot_list_append PySem.F.type_list_append ?_
  refine callWith_method1 ((sp_cons he sp_nil u es l1 s1).go _ _ _ at1 fun vs h2 t2 l2 at2 s2 r2 => ?_) es
  obtain ⟨v, rfl, rv⟩ := all2_one r2
  have hD2 := at2.y _ hD
  refine append_at (hsz := by rw [List.size_toArray]; exact hsz) hD2.1 fun h3 hs3 hg3 => ?_
  obtain ⟨Y1, Y2, rfl⟩ := mem_split hD
  exact k v h3 _ l2 _ ⟨Y1, _, Y2, rfl, rfl⟩ (at2.set hs3 (hg3.trans (congrArg some (by rw [List.push_toArray])))) (s1.trans s2) rv
theorem ex_append {pl : Sem Bool} {ap cp : Pos} {e : Expr} {D : Addr} {ys : List Value} {Q : Flow → Shared → Prop} (at0 : At h₀ L m Y led s.heap) (hD : (D, lst ys) ∈ Y) (hx : Ev (model prog w) A h₀ L m Y env (.Name x px) led (EqR (.ref D))) (he : Ev (model prog w) A h₀ L m Y env e led R) (u : Up R) (hsz : ys.length ≤ sizeLine)
    (k : ∀ v h' tk led' Y', SetE D (lst (ys ++ [v])) Y Y' → At h₀ L m Y' led' h' → Sub led led' → R led' v → Q .next { s with heap := h', toks := tk })
    (hi : interactive env = false := by rfl) (hsw : swapsWith (.Call (.Attribute (.Name x px) "append" ap) [e] [] cp) none pos.line env = pure false := by rfl)
    (es : starEach [e] env = (false, eval e env) :: starEach [] env := by rfl)
    (hc : eval (.Call (.Attribute (.Name x px) "append" ap) [e] [] cp) env = (do
      let ov ← eval (.Name x px) env
      standAt ap.atName
      let (f, first) ← holding [ov] (getMethod ov "append" pl)
      callWith cp f first (backTo cp (starEach [e] env)) []) := by rfl) :
    Wp (model prog w) A (exec (.Expr (.Call (.Attribute (.Name x px) "append" ap) [e] [] cp) pos) env) Q E s :=
  ex_appendN at0 hD hx he u hsz (fun v h' tk l Y' hS => k v h' tk l Y' (by show SetE D (W.listOf _ (ys ++ [v]).length) Y Y'; rw [List.length_append]; exact hS)) hi hsw es hc
end
end Mine
end
noncomputable section
open PySem PySem.W PyProof.Rows PySem.Calls PySem.Spec
set_option maxRecDepth 100000
set_option linter.unusedVariables false
namespace Mine
open LCg
noncomputable def enumL {α : Type} (xs : List α) : List (Int × α) := xs.zipIdx.map fun p => ((p.2 : Int), p.1)
theorem enumL_get {α : Type} (xs : List α) (i : Nat) (x : α) (h : xs[i]? = some x) : (enumL xs)[i]? = some ((i : Int), x) := by
  simp [enumL, List.getElem?_zipIdx, h]
theorem enumL_inv {α : Type} {xs : List α} {i : Nat} {p : Int × α} (h : (enumL xs)[i]? = some p) : p.1 = (i : Int) ∧ xs[i]? = some p.2 := by
  have hl : i < xs.length := by
    have := (List.getElem?_eq_some_iff.mp h).1
    simpa [enumL] using this
  rw [enumL_get xs i _ (List.getElem?_eq_getElem hl)] at h
  cases h
  exact ⟨rfl, List.getElem?_eq_getElem hl⟩
theorem enumL_len {α : Type} (xs : List α) : (enumL xs).length = xs.length := by simp [enumL]
section
variable {prog : Program} {w : World} {A : Around} {h₀ : Heap} {L : Addr} {m : Str → Option Value} {Y led : Lg} {env : Env} {α : Type}
/-- enumerate of a list -/
theorem it_enumE {f e : Expr} {elts : List Expr} {kk : Nat} {tpos pos : Pos} {R : α → Rp} {xs : List α} (hh : A.handled = none) (hf : Ev (model prog w) A h₀ L m Y env f led (EqR (.type "enumerate"))) (x : Ev (model prog w) A h₀ L m Y env e led (ListR R xs)) (u : ∀ x, Up (R x))
    (hc : eval (.Call f [e] [] pos) env = (do callWith pos (← eval f env) [] (backTo pos (starEach [e] env)) (backToKw pos (keywordEach [] env))) := by rfl)
    (he : starEach [e] env = (false, eval e env) :: starEach [] env := by rfl) : It prog w A h₀ L m Y env (.Call f [e] [] pos) (.Tuple elts kk tpos) led (enumL xs) (PairIR IntR R) := by
  refine fun l' hs => ItA.mk fun s Q E at0 k => ?_
  refine Call_ ((hf l' hs).go s _ _ at0 fun fv h1 t1 l1 at1 s1 r1 => ?_) hc
  cases r1
  refine callWith_type1 ((sp_cons x sp_nil (ListR.up u) he l1 (hs.trans s1)).go _ _ _ at1 fun vs h2 t2 l2 at2 s2 r2 => ?_) he rfl
  obtain ⟨v, rfl, a, vs, n, rfl, hm, r⟩ := all2_one r2
  refine it_enum (elts := elts) (kk := kk) (pos := tpos) hh at2.fr at2.ne (List.mem_append_right _ hm) rfl rfl fun h' S F N hlt => ?_
  have e1 : vs.length = (enumL xs).length := by rw [enumL_len, r.length]
  rw [e1] at S
  refine k _ _ _ l2 _ _ _ ⟨F, N, at2.nd, at2.off⟩ (s1.trans s2) S (fun p hp => by rw [List.mem_singleton.mp hp]; exact hm) (fun p hp hq => ?_) (by simp) (fun i v h l2 s2 _ hv => ?_) fun b hb => ?_
  · have hl := hlt p hp
    rcases List.mem_cons.mp hq with e | hq
    · exact absurd (Nat.lt_trans hl (Nat.lt_succ_self _)) (by rw [e]; exact Nat.lt_irrefl _)
    · have := List.mem_singleton.mp hq
      exact absurd hl (by rw [this]; exact Nat.lt_irrefl _)
  · obtain ⟨T, t, x, hx, rfl, hT⟩ := hv
    obtain ⟨y, hy, r⟩ := r.get' hx
    exact ⟨((i : Int), y), enumL_get _ _ _ hy, T, _, _, rfl, hT, ⟨t, rfl⟩, u y _ _ _ s2 r⟩
  · rcases List.mem_cons.mp hb with e | hb
    · rw [e]; exact (⟨by decide, by decide⟩ : NoSeq "enumerate")
    · rw [List.mem_singleton.mp hb]; exact (⟨by decide, by decide⟩ : NoSeq "list_iterator")
end
section
variable {w : World} {mean : ExcName → Option Value} {mg mb : Str → Option Value} {A : Around} {h₀ : Heap} {L : Addr} {m : Str → Option Value} {Y led : Lg} {R : Rp} {kd ku : Nat}
/-- a contract in use, stated over the whole ledger -/
theorem ws_spec' {f : Addr} {vs : List Value} {Out : Value → Lg → Prop} {d u : Nat} (c : Cx w mean mg mb A h₀ L kd ku) (hd : d ≤ kd) (hu : u ≤ ku) (S : SpecN d u w mean mg mb f (Y ++ led) vs Out)
    (ret : ∀ r tl h', News h₀ L h' (tl ++ (Y ++ led)) → Out r tl → (∀ p ∈ tl, p.1 ∉ Y.map (·.1)) ∧ R (tl ++ led) r) : Ws (model PySem.Challenge.rw_tc0103_01.prog w) A h₀ L m Y (call (.ref f) vs) led R := Ws.mk fun s Q E at0 k => by
  obtain ⟨p, loose, T⟩ := c.top
  obtain ⟨cn, cs, a, ccd, cl, outer, A₀, base, hA, B, hk⟩ := c.frames
  have h1 := c.depth
  have h2 := c.units
  refine SpecN.use (need := []) S c.hh hA B at0.fr c.frag at0.ne T hk (by omega) (by omega) (fun p hp => nomatch hp) fun r tl h' tk' F N o => ?_
  obtain ⟨o1, o2⟩ := ret r tl h' N o
  exact k r h' tk' (tl ++ led) (at0.grow F N o1) .add o2
end
/-- what stands in the volatile part: no lists, no tuples -/
noncomputable def PlainO (o : Obj) : Prop := (∃ v, o.data = .cell v) ∨ (∃ T, o.cls = .type T ∧ NoSeq T) ∨ ∃ vs, o.data = .fields vs
noncomputable def PlainY (Y : Lg) : Prop := ∀ q ∈ Y, PlainO q.2
theorem PlainO.tup {o : Obj} (x : PlainO o) (vs : Array Value) (n : Nat) : tupO vs n ≠ o := fun e => by
  subst e
  rcases x with ⟨v, h⟩ | ⟨T, h, _, h1⟩ | ⟨_, h⟩
  · cases h
  · exact h1 (Value.type.inj h).symm
  · cases h
theorem PlainY.app {X Y : Lg} (x : ∀ p ∈ X, ∃ T, p.2.cls = .type T ∧ NoSeq T) (y : PlainY Y) : PlainY (X ++ Y) := fun q hq => by
  rcases List.mem_append.mp hq with h | h
  · exact .inr (.inl (x q h))
  · exact y q h
theorem PlainY.set {c : Addr} {v : Value} {Y Y' : Lg} (y : PlainY Y) (x : SetC c v Y Y') : PlainY Y' := by
  obtain ⟨Y1, o, Y2, o', rfl, rfl, hd⟩ := x
  intro q hq
  rcases List.mem_append.mp hq with h | h
  · exact y q (by simp [h])
  · rcases List.mem_cons.mp h with rfl | h
    · exact .inl ⟨_, hd⟩
    · exact y q (by simp [h])
end Mine
end
noncomputable section
open PySem PySem.W PyProof.Rows PySem.Calls PySem.Spec
set_option maxRecDepth 100000
set_option linter.unusedVariables false
namespace Mine
open LCg
theorem cx_top {w : World} {mean : ExcName → Option Value} {mg mb : Str → Option Value} {p : Program} {loose : List Str} {dp un : Nat} {gd : Option (List Code)} {cn : Str} {cs : Scope} {L a : Addr} {ccd : Value} {cl : List (Str × Addr)} {outer : List Env} {A₀ : Around} {base h₀ : Heap} {kd ku : Nat}
    (B : Below A₀ base outer h₀) (X : (hd.heap_39 w.params).In h₀) (T : Top p loose mean mg mb h₀) (hk : cs.kind = .function) (hd : dp + kd < recursionLimit) (hu : un + ku < cLine) : Cx w mean mg mb (ktrTop dp un gd cn cs L a ccd cl outer) h₀ L kd ku :=
  ⟨rfl, ⟨p, loose, T⟩, X, ⟨cn, cs, a, ccd, cl, outer, A₀, base, rfl, B, hk⟩, hd, hu⟩
theorem with_cx {w : World} {mean : ExcName → Option Value} {mg mb : Str → Option Value} {p : Program} {loose : List Str} {dp un : Nat} {gd : Option (List Code)} {cn : Str} {cs : Scope} {L a : Addr} {ccd : Value} {cl : List (Str × Addr)} {outer : List Env} {A₀ : Around} {base h₀ : Heap} {kd ku : Nat}
    {α : Type} {M : Model} {t : Sem α} {Q : α → Shared → Prop} {E : Value → Shared → Prop} {s : Shared}
    (B : Below A₀ base outer h₀) (X : (hd.heap_39 w.params).In h₀) (T : Top p loose mean mg mb h₀) (hk : cs.kind = .function) (hd : dp + kd < recursionLimit) (hu : un + ku < cLine)
    (k : Cx w mean mg mb (ktrTop dp un gd cn cs L a ccd cl outer) h₀ L kd ku → Wp M (ktrTop dp un gd cn cs L a ccd cl outer) t Q E s) : Wp M (ktrTop dp un gd cn cs L a ccd cl outer) t Q E s := k (cx_top B X T hk hd hu)
theorem with_cxA {w : World} {mean : ExcName → Option Value} {mg mb : Str → Option Value} {p : Program} {loose : List Str} {dp un : Nat} {gd : Option (List Code)} {cn : Str} {cs : Scope} {L a : Addr} {ccd : Value} {cl : List (Str × Addr)} {outer : List Env} {A₀ : Around} {base h₀ : Heap} {kd ku : Nat}
    {α : Type} {M : Model} {t : Sem α} {Q : α → Shared → Prop} {E : Value → Shared → Prop} {s : Shared} {env : Env}
    (B : Below A₀ base outer h₀) (X : (hd.heap_39 w.params).In h₀) (T : Top p loose mean mg mb h₀) (hk : cs.kind = .function) (hd : dp + kd < recursionLimit) (hu : un + ku < cLine) (hE : PassesOwn M (ktrTop dp un gd cn cs L a ccd cl outer) env E)
    (k : ∀ A E', PassesOwn M A env E' → Cx w mean mg mb A h₀ L kd ku → Wp M A t Q E' s) : Wp M (ktrTop dp un gd cn cs L a ccd cl outer) t Q E s := k _ _ hE (cx_top B X T hk hd hu)
theorem ret_K {h₀ g : Heap} {L L' : Addr} {m m' : Str → Option Value} {R : Result → Shared → Prop} {v : Value} {s' : Shared} {Y led : Lg} (x : At g L' m' Y led s'.heap) (k : Fr h₀ L s'.heap m → News h₀ L s'.heap (Y ++ led) → R (.ok (.ret v)) s') : LeaveK h₀ L m g R v s' :=
  ⟨L', m', Y ++ led, x.fr, x.ne, k⟩
section
variable {prog : Program} {w : World} {A : Around} {E : Value → Shared → Prop} {s : Shared} {h₀ : Heap} {L : Addr} {m : Str → Option Value} {Y led : Lg} {env : Env} {R R' : Rp} {x y : Str} {px py pos : Pos}
theorem At.new {h h' : Heap} {D : Addr} {o : Obj} (x : At h₀ L m Y led h) (F : Fr h₀ L h' m) (N : News h₀ L h' ((D, o) :: (Y ++ led))) (hD : ∀ p ∈ Y ++ led, p.1 < D) : At h₀ L m ((D, o) :: Y) led h' :=
  ⟨F, N, List.nodup_cons.mpr ⟨fun hm => by
    obtain ⟨q, hq, e⟩ := List.mem_map.mp hm
    exact absurd (hD q (List.mem_append_left _ hq)) (by rw [e]; exact Nat.lt_irrefl _), x.nd⟩, fun p hp hm => by
    rcases List.mem_cons.mp hm with e | hm
    · exact absurd (hD p (List.mem_append_right _ hp)) (by rw [e]; exact Nat.lt_irrefl _)
    · exact x.off p hp hm⟩
theorem At.names {h : Heap} (x : At h₀ L m Y led h) (P : (Str → Option Value) → Prop) (hp : P m) : ∃ m', At h₀ L m' Y led h ∧ P m' := ⟨m, x, hp⟩
/-- a new list that turns over -/
theorem ex_new {lp : Pos} {Q : Flow → Shared → Prop} (at0 : At h₀ L m Y led s.heap)
    (k : ∀ D h' tk', At h₀ L (fun z => if z = x then some (.ref D) else m z) ((D, lst []) :: Y) led h' → Q .next { s with heap := h', toks := tk' })
    (hL : env.locals = L := by rfl) (hx : env.kindOf x = some .local := by rfl) (hp : (env.scope.kind == .class || (env.scope.kind == .module && env.locals != env.globals)) = false := by rfl)
    (hsw : swapsWith (.List [] lp) (some (.Name x px)) pos.line env = pure false := by rfl) : Wp (model prog w) A (exec (.Assign [.Name x px] (.List [] lp) pos) env) Q E s := Wp.mk <|
  wpAny_Assign_Name (List_ (spliced_none (newList_K at0.fr at0.ne (fun D h' F N hlt => store_loc (at0.new F N hlt) hL hx hp fun h2 at2 => k D h2 _ at2) (by decide)))) hsw
theorem ex_twoNew {e' : Expr} {kk k2 : Nat} {tpos vpos lp : Pos} {Q : Flow → Shared → Prop} (hh : A.handled = none) (at0 : At h₀ L m Y led s.heap) (b : ∀ D, Ev (model prog w) A h₀ L m ((D, lst []) :: Y) env e' led R')
    (k : ∀ D v' h' tk led', At h₀ L (fun z => if z = x then some (.ref D) else if z = y then some v' else m z) ((D, lst []) :: Y) led' h' → Sub led led' → R' led' v' → Q .next { s with heap := h', toks := tk }) (u : Up R')
    (hL : env.locals = L := by rfl) (hx : env.kindOf x = some .local := by rfl) (hy : env.kindOf y = some .local := by rfl) (hp : (env.scope.kind == .class || (env.scope.kind == .module && env.locals != env.globals)) = false := by rfl)
    (h1 : swapsWithSole [.Tuple [.Name x px, .Name y py] kk tpos] (.Tuple [.List [] lp, e'] k2 vpos) pos.line env = pure false := by rfl)
    (h2 : swappedStores [.Tuple [.Name x px, .Name y py] kk tpos] (.Tuple [.List [] lp, e'] k2 vpos) env = pure (some [x, y]) := by rfl)
    (e1 : starEach [.List [] lp, e'] env = (false, eval (.List [] lp) env) :: starEach [e'] env := by rfl) (e2 : starEach [e'] env = (false, eval e' env) :: starEach [] env := by rfl) :
    Wp (model prog w) A (exec (.Assign [.Tuple [.Name x px, .Name y py] kk tpos] (.Tuple [.List [] lp, e'] k2 vpos) pos) env) Q E s := Wp.mk <| by
  refine Assign_Tuple_swapped (names := [x, y]) (Tuple_ (spliced_more (List_ (spliced_none (newList_K at0.fr at0.ne (fun D h' F N hlt => ?_) (by decide)))) e1)) h1 h2
  have at1 := at0.new F N hlt
  refine spliced_more ((b D led .rfl).go _ _ _ at1 fun v' h2 t2 l2 at2 s2 r2 => spliced_none ?_) e2
  refine kup_newTuple at2.fr at2.ne (fun T h3 F3 N3 hlt3 => ?_) (by show 2 ≤ sizeLine; decide)
  have at3 := at2.newList F3 N3 hlt3
  refine unpackItemsN_ at3.fr at3.ne ⟨_, (at3.stay _ (.head _)).1, rfl, 0, rfl⟩ hh rfl fun h4 F4 N4 => ?_
  have at4 : At h₀ L m ((D, lst []) :: Y) ((T, tupO #[.ref D, v'] 0) :: l2) h4 := ⟨F4, N4, at3.nd, at3.off⟩
  refine assignInOrder_cons (bindName_ (store_loc at4 hL hy hp fun h5 at5 => ?_))
  refine assignInOrder_cons (bindName_ (store_loc at5 hL hx hp fun h6 at6 => ?_))
  exact assignInOrder_nil (k D v' h6 _ _ at6 (s2.trans .cons) (u _ _ _ .cons r2))
/-- the end -/
theorem ex_ret {e : Expr} {Q : Flow → Shared → Prop} (at0 : At h₀ L m Y led s.heap) (x0 : Ev (model prog w) A h₀ L m Y env e led R) (k : ∀ v h' tk' led', At h₀ L m Y led' h' → Sub led led' → R led' v → Q (.ret v) { s with heap := h', toks := tk' }) :
    Wp (model prog w) A (exec (.Return (some e) pos) env) Q E s := Wp.mk <| wpAny_Return_some ((x0 led .rfl).go _ _ _ at0 k)
end
end Mine
end
noncomputable section
open PySem PySem.W PyProof.Rows PySem.Calls PySem.Spec
set_option maxRecDepth 100000
set_option linter.unusedVariables false
namespace Mine
open LCg
section
variable {prog : Program} {w : World} {A : Around} {s : Shared} {h₀ : Heap} {L : Addr} {m : Str → Option Value} {Y X led : Lg} {env : Env} {α β δ : Type}
/-- the walk of an iterator leaves what is kept -/
theorem At.keepsBut {h h' : Heap} {wr ws : List Addr} (x : At h₀ L m Y led h) (hk : ∀ b o, b ∉ wr → h.get? b = some o → h'.get? b = some o) (hwr : ∀ b ∈ wr, b ∈ ws) (hoff : ∀ p ∈ Y ++ led, p.1 ∉ ws) (hws : ∀ b ∈ ws, h₀.get? b = none ∧ b ≠ L) : At h₀ L m Y led h' :=
  ⟨⟨x.fr.ns.at' fun o e => hk _ o (fun hm => (hws L (hwr _ hm)).2 rfl) e, fun b o e => hk b o (fun hb => by rw [(hws b (hwr b hb)).1] at e; cases e) (x.fr.keep b o e), x.fr.above⟩,
    fun p hp => ⟨hk _ _ (fun hm => hoff p hp (hwr _ hm)) (x.ne p hp).1, (x.ne p hp).2⟩, x.nd, x.off⟩
/-- the iterator's own objects put in -/
theorem At.addIts {h : Heap} {ws : List Addr} {its : Lg} (x : At h₀ L m Y led h) (him : its.map (·.1) = ws) (hg : ∀ p ∈ its, h.get? p.1 = some p.2) (hnd : ws.Nodup) (hoff : ∀ p ∈ Y ++ led, p.1 ∉ ws) (hws : ∀ b ∈ ws, h₀.get? b = none ∧ b ≠ L) : At h₀ L m (its ++ Y) led h := by
  refine ⟨x.fr, fun p hp => ?_, ?_, fun p hp hm => ?_⟩
  · rw [List.append_assoc] at hp
    rcases List.mem_append.mp hp with hp | hp
    · have hm : p.1 ∈ ws := him ▸ List.mem_map.mpr ⟨p, hp, rfl⟩
      exact ⟨hg p hp, (hws _ hm).2, (hws _ hm).1⟩
    · exact x.ne p hp
  · rw [List.map_append, him]
    refine List.nodup_append.mpr ⟨hnd, x.nd, fun a ha b hb e => ?_⟩
    obtain ⟨q, hq, e'⟩ := List.mem_map.mp hb
    exact hoff q (List.mem_append_left _ hq) (e' ▸ e ▸ ha)
  · rw [List.map_append, him] at hm
    rcases List.mem_append.mp hm with hm | hm
    · exact hoff p (List.mem_append_right _ hp) hm
    · exact x.off p hp hm
/-- and they are still off -/
theorem At.offIts {h : Heap} {ws : List Addr} {its : Lg} (x : At h₀ L m (its ++ Y) led h) (him : its.map (·.1) = ws) : ∀ p ∈ Y ++ led, p.1 ∉ ws := fun p hp hm => by
  rcases List.mem_append.mp hp with hp | hp
  · have nd := x.nd
    rw [List.map_append, List.nodup_append, him] at nd
    exact nd.2.2 _ hm _ (List.mem_map.mpr ⟨p, hp, rfl⟩) rfl
  · exact x.off p hp (by rw [List.map_append, him]; exact List.mem_append_left _ hm)

/-- the second clause: one name, no test -/
theorem inner_ev {elt t1 i1 iter : Expr} {ifs1 : List Expr} {p : Str} {pp pos : Pos} {scope : Scope} {cenv : Env} {C D I2 : Addr} {oC : Obj} {m2 : Str → Option Value} {ys : List Value} {fx : Lg} {ws : List (Addr × String)} {Pv : Nat → Value → Heap → Prop} {zs : List δ} {R3 : δ → Rp} {Rb : β → Rp} {f : δ → β}
    (hC : cenv.locals = C) (hkp : cenv.kindOf p = some .local) (hkf : cenv.scope.kind = .function) (hoC : NsObj oC m2) (at1 : At h₀ L m (X ++ ((C, oC) :: ((D, lst ys) :: Y))) led s.heap)
    (S : SrcOk prog w A (.Name p pp) h₀ L fx ws zs.length Pv I2 s.heap) (hfx : ∀ q ∈ fx, q ∈ led) (hoff : ∀ q ∈ (X ++ ((C, oC) :: ((D, lst ys) :: Y))) ++ led, q.1 ∉ ws.map (·.1)) (hnd : (ws.map (·.1)).Nodup)
    (hitem : ∀ i v h l2, Sub led l2 → News h₀ L h l2 → Pv i v h → ∃ z, zs[i]? = some z ∧ R3 z l2 v) (hsz : ys.length + zs.length ≤ sizeLine) (ub : ∀ b, Up (Rb b))
    (body : ∀ Y' led' z v m3 oC', z ∈ zs → Sub led led' → Sub X Y' → Sub Y Y' → (C, oC') ∈ Y' → NsObj oC' m3 → m3 p = some v → (∀ x, x ≠ p → m3 x = m2 x) → R3 z led' v → Ev (model prog w) A h₀ L m Y' cenv elt led' (Rb (f z))) :
    codeAny (model prog w) A (.compStart (.ListComp elt [⟨t1, i1, ifs1, 0⟩, ⟨.Name p pp, iter, [], 0⟩] scope pos) 1 (.ref I2) (.ref D) cenv)
      (fun r s' => match r with | .ok _ => ∃ oC' m3 ys' c, KinE s s' ∧ NsObj oC' m3 ∧ At h₀ L m (X ++ ((C, oC') :: ((D, lst (ys ++ ys')) :: Y))) c s'.heap ∧ Sub led c ∧ All2 (fun b v => Rb b c v) (zs.map f) ys' | .error _ => False) s := by
  obtain ⟨fp, wr, Md, St, W, hself, hobj, hwr, hws, hfp, hst, hlt0, hLf⟩ := S
  have hws' : ∀ b ∈ ws.map (·.1), h₀.get? b = none ∧ b ≠ L := fun b hb => (hws b hb).2
  have loop : codeAny (model prog w) A (.compLoop (.ListComp elt [⟨t1, i1, ifs1, 0⟩, ⟨.Name p pp, iter, [], 0⟩] scope pos) 1 (.ref I2) (.ref D) cenv)
      (fun r s' => match r with | .ok _ => ∃ oC' m3 ys' c, KinE s s' ∧ NsObj oC' m3 ∧ At h₀ L m (X ++ ((C, oC') :: ((D, lst (ys ++ ys')) :: Y))) c s'.heap ∧ Sub led c ∧ All2 (fun b v => Rb b c v) (zs.map f) ys' | .error _ => False) s := by
    refine compLoop_in (fun k s' => ∃ i oC' m3 ys' c, KinE s s' ∧ St i s'.heap ∧ NsObj oC' m3 ∧ (∀ x, x ≠ p → m3 x = m2 x) ∧ At h₀ L m (X ++ ((C, oC') :: ((D, lst (ys ++ ys')) :: Y))) c s'.heap ∧ Sub led c ∧ (∀ q ∈ (X ++ ((C, oC') :: ((D, lst (ys ++ ys')) :: Y))) ++ c, q.1 ∉ ws.map (·.1)) ∧
      All2 (fun b v => Rb b c v) ((zs.take i).map f) ys' ∧ i ≤ zs.length ∧ k = zs.length + 1 - i) ?_ (zs.length + 1) ⟨0, oC, m2, [], led, ⟨rfl, rfl, rfl⟩, hst, hoC, fun _ _ => rfl, by simpa using at1, .rfl, by simpa using hoff, .nil, Nat.zero_le _, rfl⟩
    rintro k s' ⟨i, oC', m3, ys', c, hk, hst', hoC', hm3, at', hl, hoff', hr, hi, rfl⟩
    unfold CTurn
    by_cases hlt : i < zs.length
    · refine W.item i _ _ _ hlt hst' fun v h₁ tk₁ hMd hk₁ => ?_
      refine W.go i v _ _ _ hMd fun h₂ hP hst₂ hk₂ => ?_
      have at2 := at'.keepsBut (fun b o hb x => hk₂ b o hb (hk₁ b o hb x)) hwr hoff' hws'
      obtain ⟨its, hits, hitg⟩ := hobj _ _ hst₂
      have him := hits.map
      have at3 := at2.addIts him hitg hnd hoff' hws'
      obtain ⟨z, hz, hR3⟩ := hitem i v h₂ c hl at3.stay hP
      have z0 := at3.ne (C, oC') (by simp)
      refine wpAny_assign_Name (wpAny_storeName_local hkp (hC ▸ hoC'.ns z0.1) (fun h₃ hn₃ hs₃ => ?_) (by rw [hkf]; rfl))
      rw [hC] at hn₃ hs₃
      obtain ⟨oC3, heC3, hoC3⟩ := ns_obj hn₃
      have e3 : its ++ (X ++ ((C, oC') :: ((D, lst (ys ++ ys')) :: Y))) = (its ++ X) ++ ((C, oC') :: ((D, lst (ys ++ ys')) :: Y)) := by simp
      rw [e3] at at3
      have at4 := at3.set hs₃ heC3
      rw [List.forIn_nil]
      refine wpAny_pure ?_
      simp only [if_true]
      refine (body _ c z v _ oC3 (List.mem_of_getElem? hz) hl (fun q hq => by simp [hq]) (fun q hq => by simp [hq]) (by simp) hoC3 (if_pos rfl) (fun x hx => (if_neg hx).trans (hm3 x hx)) hR3 c .rfl).go _ _ _ at4 fun y h₅ tk₅ c5 at5 s5 r5 => ?_
      have e5 : (its ++ X) ++ ((C, oC3) :: ((D, lst (ys ++ ys')) :: Y)) = ((its ++ X) ++ [(C, oC3)]) ++ ((D, lst (ys ++ ys')) :: Y) := by simp
      rw [e5] at at5
      have zD := at5.ne (D, lst (ys ++ ys')) (by simp)
      have hyl := hr.length
      rw [List.length_map, List.length_take] at hyl
      refine append_at (hsz := by show (ys ++ ys').toArray.size ≤ sizeLine; rw [List.size_toArray, List.length_append]; omega) zD.1 fun h₆ hs₆ hD₆ => ?_
      have at6 := at5.set hs₆ (hD₆.trans (congrArg some (lst_snoc (ys ++ ys') y)))
      have e6 : ((its ++ X) ++ [(C, oC3)]) ++ ((D, lst (ys ++ ys' ++ [y])) :: Y) = its ++ (X ++ ((C, oC3) :: ((D, lst (ys ++ (ys' ++ [y]))) :: Y))) := by simp
      rw [e6] at at6
      refine ⟨zs.length + 1 - (i + 1), turn_lt hlt, i + 1, oC3, _, ys' ++ [y], c5, ⟨hk.1, hk.2.1, hk.2.2⟩, W.frame _ _ _ hst₂ fun b hb o e => ?_, hoC3, (fun x hx => (if_neg hx).trans (hm3 x hx)), at6.drop, hl.trans s5, at6.offIts him, ?_, hlt, rfl⟩
      · rcases hfp b hb with hm | ⟨o', hm⟩ | ⟨o', ho'⟩
        · rw [← him] at hm
          obtain ⟨q, hq, hqe⟩ := List.mem_map.mp hm
          have h5 := hitg q hq
          rw [hqe] at h5
          have e6 : q.2 = o := Option.some.inj (h5.symm.trans e)
          have h6 := (at6.y q (List.mem_append_left _ hq)).1
          rw [hqe, e6] at h6
          exact h6
        · have h5 := (at3.stay _ (hl _ (hfx _ hm))).1
          have e6 : o' = o := Option.some.inj (h5.symm.trans e)
          exact e6 ▸ (at6.stay _ (s5 _ (hl _ (hfx _ hm)))).1
        · have e6 : o' = o := Option.some.inj ((at3.fr.keep b o' ho').symm.trans e)
          exact e6 ▸ at6.fr.keep b o' ho'
      · have e7 : zs.take (i + 1) = zs.take i ++ [z] := by rw [List.take_add_one, hz]; rfl
        rw [e7, List.map_append]
        exact (hr.mono fun b v h => ub b _ _ _ s5 h).app (.cons r5 .nil)
    · obtain rfl : i = zs.length := Nat.le_antisymm hi (Nat.not_lt.mp hlt)
      refine W.done _ _ _ hst' fun h₂ tk₂ hk₂ => ?_
      rw [List.take_of_length_le (Nat.le_refl _)] at hr
      exact ⟨oC', m3, ys', c, ⟨hk.1, hk.2.1, hk.2.2⟩, hoC', at'.keepsBut hk₂ hwr hoff' hws', hl, hr⟩
  exact compStart_in loop (hself 0 _ _ _ hst loop)
end
end Mine
end
noncomputable section
open PySem PySem.W PyProof.Rows PySem.Calls PySem.Spec
set_option maxRecDepth 100000
set_option linter.unusedVariables false
namespace Mine
open LCg
section
variable {prog : Program} {w : World} {A : Around} {E : Value → Shared → Prop} {s : Shared} {h₀ : Heap} {L : Addr} {m : Str → Option Value} {Y X led : Lg} {env : Env} {α β γ δ : Type}
theorem At.keeps {h h' : Heap} (x : At h₀ L m Y led h) (hk : ∀ b o, h.get? b = some o → h'.get? b = some o) : At h₀ L m Y led h' := ⟨x.fr.keeps hk, fun p hp => ⟨hk _ _ (x.ne p hp).1, (x.ne p hp).2⟩, x.nd, x.off⟩
theorem flat_snoc {f : α → List β} {xs : List α} {i : Nat} {x : α} (h : xs[i]? = some x) : (xs.take (i + 1)).flatMap f = (xs.take i).flatMap f ++ f x := by
  rw [List.take_add_one, h]
  simp
theorem asg_pair {x : α × γ} {a b : Str} {pa pb pos : Pos} {kk : Nat} {cenv : Env} {C : Addr} {R1 : α → Rp} {R2 : γ → Rp} {Y1 Y2 led : Lg} {oC : Obj} {m₂ : Str → Option Value} {v : Value} {Q : Unit → Shared → Prop} (hh : A.handled = none) (hC : cenv.locals = C)
    (hk : cenv.scope.kind = .function) (hx : cenv.kindOf a = some .local) (hy : cenv.kindOf b = some .local) (hxy : a ≠ b) (hoC : NsObj oC m₂) (at0 : At h₀ L m (Y1 ++ ((C, oC) :: Y2)) led s.heap) (hr : PairIR R1 R2 x s.heap led v)
    (k : ∀ h' tk' oC' m' v1 v2, NsObj oC' m' → m' a = some v1 → m' b = some v2 → R1 x.1 led v1 → R2 x.2 led v2 → At h₀ L m (Y1 ++ ((C, oC') :: Y2)) led h' → Q () { s with heap := h', toks := tk' }) :
    wpAny (model prog w) A (assign (.Tuple [.Name a pa, .Name b pb] kk pos) cenv v) Q E s := by
  subst hC
  obtain ⟨T, v1, v2, rfl, hT, r1, r2⟩ := hr
  refine assign_Tuple_tuple hh hT rfl rfl fun h1 hx1 => ?_
  have at1 := at0.extNew hx1
  have z := at1.ne (cenv.locals, oC) (by simp)
  refine assignInOrder_cons ?_
  show wpAny _ A (assign (.Name a pa) cenv v1) _ _ _
  refine wpAny_assign_Name (wpAny_storeName_local hx (hoC.ns z.1) (fun h2 hn hs => ?_) (by rw [hk]; rfl))
  obtain ⟨oC', heC', hoC'⟩ := ns_obj hn
  have at2 := at1.set hs heC'
  have z2 := at2.ne (cenv.locals, oC') (by simp)
  refine assignInOrder_cons ?_
  show wpAny _ A (assign (.Name b pb) cenv v2) _ _ _
  refine wpAny_assign_Name (wpAny_storeName_local hy (hoC'.ns z2.1) (fun h3 hn3 hs3 => ?_) (by rw [hk]; rfl))
  obtain ⟨oC3, heC3, hoC3⟩ := ns_obj hn3
  exact assignInOrder_nil (k _ _ oC3 _ v1 v2 hoC3 ((if_neg hxy).trans (if_pos rfl)) (if_pos rfl) r1 r2 (at2.set hs3 heC3))
theorem nm_ns {x : Str} {scope : Scope} {cl : List (Str × Addr)} {C : Addr} {oC : Obj} {m₂ : Str → Option Value} {v : Value} {R : Rp} {M : Model} (u : Up R) (hm : (C, oC) ∈ Y) (hoC : NsObj oC m₂) (hv : m₂ x = some v) (hr : R led v) (hk : (cenvOf scope cl C env).scope.kind = .function) (hx : (cenvOf scope cl C env).kindOf x = some .local)
    (hd : (x == ("__debug__" : Str)) = false) (pos : Pos) : Ev M A h₀ L m Y (cenvOf scope cl C env) (.Name x pos) led R := fun l hl => Ws.mk fun s₁ Q₁ E₁ at7 k₁ =>
  LCgL.ld_own at7.y hm hoC hv (k₁ _ _ _ l at7 .rfl (u _ _ _ hl hr)) hk hx hd
/-- two clauses: a pair of names, then one name -/
theorem comp2_ev {elt i1 iter : Expr} {a b p : Str} {pa pb pp tp pos : Pos} {kk : Nat} {scope : Scope} {cl : List (Str × Addr)} {R1 : α → Rp} {R2 : γ → Rp} {R3 : δ → Rp} {Rb : β → Rp} {xs : List (α × γ)} {g : α × γ → List δ} {f : α × γ → δ → β} {RR : Value → Addr → Result → Shared → Prop} {I : Addr} {fx : Lg} {ws : List (Addr × String)} {Pv : Nat → Value → Heap → Prop}
    (hh : A.handled = none) (at0 : At h₀ L m Y led s.heap)
    (S : SrcOk prog w A (.Tuple [.Name a pa, .Name b pb] kk tp) h₀ L fx ws xs.length Pv I s.heap) (hfx : ∀ q ∈ fx, q ∈ led) (hoff : ∀ q ∈ Y ++ led, q.1 ∉ ws.map (·.1)) (hnd : (ws.map (·.1)).Nodup)
    (hitem : ∀ i v h l2, Sub led l2 → News h₀ L h l2 → Pv i v h → ∃ z, xs[i]? = some z ∧ PairIR R1 R2 z h l2 v)
    (hka : ∀ C, (cenvOf scope cl C env).kindOf a = some .local) (hkb : ∀ C, (cenvOf scope cl C env).kindOf b = some .local) (hkp : ∀ C, (cenvOf scope cl C env).kindOf p = some .local) (hkf : ∀ C, (cenvOf scope cl C env).scope.kind = .function)
    (hab : a ≠ b) (hap : a ≠ p) (hbp : b ≠ p) (hda : (a == ("__debug__" : Str)) = false) (hdb : (b == ("__debug__" : Str)) = false) (hdp : (p == ("__debug__" : Str)) = false)
    (hit2 : ∀ C Y' led' x, x ∈ xs → Sub Y Y' → Sub led led' → (∀ pos, Ev (model prog w) A h₀ L m Y' (cenvOf scope cl C env) (.Name a pos) led' (R1 x.1)) → (∀ pos, Ev (model prog w) A h₀ L m Y' (cenvOf scope cl C env) (.Name b pos) led' (R2 x.2)) →
      It prog w A h₀ L m Y' (cenvOf scope cl C env) iter (.Name p pp) led' (g x) (NameIR R3))
    (body : ∀ C Y' led' x z, x ∈ xs → z ∈ g x → Sub Y Y' → Sub led led' → (∀ pos, Ev (model prog w) A h₀ L m Y' (cenvOf scope cl C env) (.Name a pos) led' (R1 x.1)) → (∀ pos, Ev (model prog w) A h₀ L m Y' (cenvOf scope cl C env) (.Name b pos) led' (R2 x.2)) →
      (∀ pos, Ev (model prog w) A h₀ L m Y' (cenvOf scope cl C env) (.Name p pos) led' (R3 z)) → Ev (model prog w) A h₀ L m Y' (cenvOf scope cl C env) elt led' (Rb (f x z)))
    (u1 : ∀ x, Up (R1 x)) (u2 : ∀ x, Up (R2 x)) (u3 : ∀ x, Up (R3 x)) (ub : ∀ x, Up (Rb x)) (hsz : ∀ i, ((xs.take i).flatMap fun x => (g x).map (f x)).length ≤ sizeLine)
    (hs2 : ∀ C x, foldedSetIterable iter (cenvOf scope cl C env) x = pure x)
    (hR : ∀ D C oC m' ys c h tk, At h₀ L m ((C, oC) :: ((D, lst ys) :: Y)) c h → NsObj oC m' → Sub led c → All2 (fun b v => Rb b c v) (xs.flatMap fun x => (g x).map (f x)) ys → RR (.ref D) C (.ok .next) { s with heap := h, toks := tk }) :
    wpAny (model prog w) A (newList []) (fun acc s₃ => wpAny (model prog w) A (newFunctionEnv scope env.globals cl [] env.qual none .none (some env)) (fun cenv s₄ =>
      codeAny (model prog w) A (.compStart (.ListComp elt [⟨.Tuple [.Name a pa, .Name b pb] kk tp, i1, [], 0⟩, ⟨.Name p pp, iter, [], 0⟩] scope pos) 0 (.ref I) acc { cenv with scope := relabel scope env }) (RR acc cenv.locals) s₄) E s₃) E s := by
  refine wpAny_newObj_type (newCompEnv ?_)
  dsimp only
  have at1 : At h₀ L m ((s.heap.objs.size, lst []) :: Y) led (s.heap.push (lst [])) := at0.new (at0.fr.push _) (at0.ne.push at0.fr _) at0.lt
  have e0 : s.heap.push { cls := .type "list", dict := none, data := .seq ([] : List Value).toArray } = s.heap.push (lst []) := rfl
  rw [e0]
  generalize hH2 : s.heap.push (lst []) = H2 at at1 ⊢
  generalize hDe : s.heap.objs.size = D at at1 hH2 ⊢
  have at2 := at1.new (at1.fr.push { cls := .type "dict", data := .dict #[] }) (at1.ne.push at1.fr _) at1.lt
  generalize hCe : H2.objs.size = C at at2 ⊢
  have hCo : (H2.push { cls := .type "dict", data := .dict #[] }).get? C = some { cls := .type "dict", data := .dict #[] } := hCe ▸ Heap.get?_push_size _ rfl
  have at3 := at2.keeps (h' := pushCells (H2.push { cls := .type "dict", data := .dict #[] }) scope.names) fun b o e => pushCells_keeps _ _ _ _ e
  have hk3 : ∀ b o, s.heap.get? b = some o → (pushCells (H2.push { cls := .type "dict", data := .dict #[] }) scope.names).get? b = some o := fun b o e => pushCells_keeps _ _ _ _ (Heap.get?_push_of_some _ (hH2 ▸ Heap.get?_push_of_some _ e))
  generalize pushCells (H2.push { cls := .type "dict", data := .dict #[] }) scope.names = h₁ at at3 hk3 ⊢
  have hoC0 : NsObj { cls := .type "dict", data := .dict #[] } (fun _ => none) := ⟨_, _, rfl, by intro e he; simp at he, fun _ => rfl⟩
  obtain ⟨fp, wr, Md, St, W, hself, hobj, hwr, hws, hfp, hst, hlt0, hLf⟩ := S
  have hws' : ∀ b ∈ ws.map (·.1), h₀.get? b = none ∧ b ≠ L := fun b hb => (hws b hb).2
  have hst3 : St 0 h₁ := W.frame _ _ _ hst fun b _ o e => hk3 b o e
  have hsmall : ∀ b ∈ ws.map (·.1), b < s.heap.objs.size := fun b hb => hlt0 b (hws b hb).1
  have hDC : D < C := by rw [← hCe, ← hDe, ← hH2, Heap.size_push]; exact Nat.lt_succ_self _
  have hoff3 : ∀ q ∈ ((C, ({ cls := .type "dict", data := .dict #[] } : Obj)) :: ((D, lst []) :: Y)) ++ led, q.1 ∉ ws.map (·.1) := fun q hq hm => by
    have h1 := hsmall _ hm
    rw [hDe] at h1
    rcases List.mem_cons.mp hq with rfl | hq
    · exact absurd (Nat.lt_trans h1 hDC) (Nat.lt_irrefl _)
    rcases List.mem_cons.mp hq with rfl | hq
    · exact absurd h1 (Nat.lt_irrefl _)
    · exact hoff q hq hm
  have loop : codeAny (model prog w) A (.compLoop (.ListComp elt [⟨.Tuple [.Name a pa, .Name b pb] kk tp, i1, [], 0⟩, ⟨.Name p pp, iter, [], 0⟩] scope pos) 0 (.ref I) (.ref D) (cenvOf scope cl C env)) (RR (.ref D) C) { s with heap := h₁ } := by
    refine compLoop_two (fun k s' => ∃ i oC m' ys c, KinE s s' ∧ St i s'.heap ∧ NsObj oC m' ∧ At h₀ L m ((C, oC) :: ((D, lst ys) :: Y)) c s'.heap ∧ Sub led c ∧ (∀ q ∈ ((C, oC) :: ((D, lst ys) :: Y)) ++ c, q.1 ∉ ws.map (·.1)) ∧
      All2 (fun b v => Rb b c v) ((xs.take i).flatMap fun x => (g x).map (f x)) ys ∧ i ≤ xs.length ∧ k = xs.length + 1 - i) (hs2 C) ?_ (xs.length + 1) ⟨0, _, _, [], led, ⟨rfl, rfl, rfl⟩, hst3, hoC0, at3, .rfl, hoff3, .nil, Nat.zero_le _, rfl⟩
    rintro k s' ⟨i, oC, m', ys, c, hk, hst', hoC, at', hl, hoff', hr, hi, rfl⟩ E'
    by_cases hlt : i < xs.length
    · refine W.item i _ _ _ hlt hst' fun v h₁ tk₁ hMd hk₁ => ?_
      refine W.go i v _ _ _ hMd fun h₂ hP hst₂ hk₂ => ?_
      have at2 := at'.keepsBut (fun b o hb x => hk₂ b o hb (hk₁ b o hb x)) hwr hoff' hws'
      obtain ⟨its, hits, hitg⟩ := hobj _ _ hst₂
      have him := hits.map
      have at3 := at2.addIts him hitg hnd hoff' hws'
      obtain ⟨x, hx, hIR⟩ := hitem i v h₂ c hl at3.stay hP
      have hxm := List.mem_of_getElem? hx
      refine asg_pair hh (cenv := cenvOf scope cl C env) (C := C) rfl (hkf C) (hka C) (hkb C) hab hoC (Y1 := its) at3 hIR fun h3 tk3 oC3 m3 va vb hoC3 hva hvb ra rb at4 => ?_
      refine (hit2 C _ c x hxm (fun q hq => by simp [hq]) hl (nm_ns (u1 _) (by simp) hoC3 hva ra (hkf C) (hka C) hda) (nm_ns (u2 _) (by simp) hoC3 hvb rb (hkf C) (hkb C) hdb) c .rfl).go _ _ _ at4 fun I2 h5 tk5 c5 fx5 ws5 Pv5 at5 s5 S5 hfx5 hoff5 hnd5 hitem5 _ => ?_
      have hlen : ys.length + (g x).length ≤ sizeLine := by
        have h1 := hsz (i + 1)
        rw [flat_snoc hx, List.length_append, List.length_map] at h1
        rw [← hr.length]; exact h1
      have z5 := at5.ne (C, oC3) (by simp)
      refine codeAny_mono (inner_ev (m2 := m3) (R3 := R3) (Rb := Rb) (f := f x) rfl (hkp C) (hkf C) hoC3 at5 S5 hfx5 hoff5 hnd5 hitem5 hlen ub (fun Y' led' z v6 m6 oC6 hz hl6 hX6 hY6 hm6 hoC6 hp6 hq6 r6 => ?_)) fun r s6 hr6 => ?_
      · exact body C Y' led' x z hxm hz hY6 (hl.trans (s5.trans hl6)) (nm_ns (u1 _) hm6 hoC6 ((hq6 _ hap).trans hva) (u1 _ _ _ _ (s5.trans hl6) ra) (hkf C) (hka C) hda)
          (nm_ns (u2 _) hm6 hoC6 ((hq6 _ hbp).trans hvb) (u2 _ _ _ _ (s5.trans hl6) rb) (hkf C) (hkb C) hdb) (nm_ns (u3 _) hm6 hoC6 hp6 r6 (hkf C) (hkp C) hdp)
      · cases r with
        | error e => exact hr6
        | ok fl =>
          obtain ⟨oC7, m7, ys', c7, k7, hoC7, at7, l7, r7⟩ := hr6
          refine ⟨xs.length + 1 - (i + 1), turn_lt hlt, i + 1, oC7, m7, ys ++ ys', c7, ⟨k7.1.trans hk.1, k7.2.1.trans hk.2.1, k7.2.2.trans hk.2.2⟩, W.frame _ _ _ hst₂ fun b hb o e => ?_, hoC7, at7.drop, hl.trans (s5.trans l7), at7.offIts him, ?_, hlt, rfl⟩
          · rcases hfp b hb with hm | ⟨o', hm⟩ | ⟨o', ho'⟩
            · rw [← him] at hm
              obtain ⟨q, hq, hqe⟩ := List.mem_map.mp hm
              have h5 := hitg q hq
              rw [hqe] at h5
              have e6 : q.2 = o := Option.some.inj (h5.symm.trans e)
              have h6 := (at7.y q (List.mem_append_left _ hq)).1
              rw [hqe, e6] at h6
              exact h6
            · have h5 := (at3.stay _ (hl _ (hfx _ hm))).1
              have e6 : o' = o := Option.some.inj (h5.symm.trans e)
              exact e6 ▸ (at7.stay _ (l7 _ (s5 _ (hl _ (hfx _ hm))))).1
            · have e6 : o' = o := Option.some.inj ((at3.fr.keep b o' ho').symm.trans e)
              exact e6 ▸ at7.fr.keep b o' ho'
          · rw [flat_snoc hx]
            exact (hr.mono fun b v h => ub b _ _ _ (s5.trans l7) h).app r7
    · obtain rfl : i = xs.length := Nat.le_antisymm hi (Nat.not_lt.mp hlt)
      refine W.done _ _ _ hst' fun h₂ tk₂ hk₂ => ?_
      rw [List.take_of_length_le (Nat.le_refl _)] at hr
      have e8 : ({ s' with heap := h₂, toks := tk₂ } : Shared) = { s with heap := h₂, toks := tk₂ } := by rw [KinE.eq hk]
      rw [e8]
      exact hR D C oC m' ys c h₂ tk₂ (at'.keepsBut hk₂ hwr hoff' hws') hoC hl hr
  exact codeAny_compStart_list loop (hself 0 _ _ _ hst3 loop)
/-- a comprehension of two clauses into a local -/
theorem ex_comp2L {elt i1 iter : Expr} {a b p y : Str} {pa pb pp py tp pos spos : Pos} {kk : Nat} {scope : Scope} {cl : List (Str × Addr)} {R1 : α → Rp} {R2 : γ → Rp} {R3 : δ → Rp} {Rb : β → Rp} {xs : List (α × γ)} {g : α × γ → List δ} {f : α × γ → δ → β} {Q : Flow → Shared → Prop}
    (hh : A.handled = none) (at0 : At h₀ L m Y led s.heap) (hit : It prog w A h₀ L m Y env i1 (.Tuple [.Name a pa, .Name b pb] kk tp) led xs (PairIR R1 R2))
    (hit2 : ∀ C Y' led' x, x ∈ xs → Sub Y Y' → Sub led led' → (∀ pos, Ev (model prog w) A h₀ L m Y' (cenvOf scope cl C env) (.Name a pos) led' (R1 x.1)) → (∀ pos, Ev (model prog w) A h₀ L m Y' (cenvOf scope cl C env) (.Name b pos) led' (R2 x.2)) →
      It prog w A h₀ L m Y' (cenvOf scope cl C env) iter (.Name p pp) led' (g x) (NameIR R3))
    (body : ∀ C Y' led' x z, x ∈ xs → z ∈ g x → Sub Y Y' → Sub led led' → (∀ pos, Ev (model prog w) A h₀ L m Y' (cenvOf scope cl C env) (.Name a pos) led' (R1 x.1)) → (∀ pos, Ev (model prog w) A h₀ L m Y' (cenvOf scope cl C env) (.Name b pos) led' (R2 x.2)) →
      (∀ pos, Ev (model prog w) A h₀ L m Y' (cenvOf scope cl C env) (.Name p pos) led' (R3 z)) → Ev (model prog w) A h₀ L m Y' (cenvOf scope cl C env) elt led' (Rb (f x z)))
    (u1 : ∀ x, Up (R1 x)) (u2 : ∀ x, Up (R2 x)) (u3 : ∀ x, Up (R3 x)) (ub : ∀ x, Up (Rb x)) (hsz : ∀ i, ((xs.take i).flatMap fun x => (g x).map (f x)).length ≤ sizeLine)
    (k : ∀ v h' tk' led', At h₀ L (fun z => if z = y then some v else m z) Y led' h' → Sub led led' → ListR Rb (xs.flatMap fun x => (g x).map (f x)) led' v → Q .next { s with heap := h', toks := tk' })
    (hka : ∀ C, (cenvOf scope cl C env).kindOf a = some .local := by intro _; rfl) (hkb : ∀ C, (cenvOf scope cl C env).kindOf b = some .local := by intro _; rfl) (hkp : ∀ C, (cenvOf scope cl C env).kindOf p = some .local := by intro _; rfl) (hkf : ∀ C, (cenvOf scope cl C env).scope.kind = .function := by intro _; rfl)
    (hab : a ≠ b := by decide) (hap : a ≠ p := by decide) (hbp : b ≠ p := by decide) (hda : (a == ("__debug__" : Str)) = false := by decide) (hdb : (b == ("__debug__" : Str)) = false := by decide) (hdp : (p == ("__debug__" : Str)) = false := by decide)
    (hclos : closureFor scope env = pure cl := by rfl) (hkind : scope.kind = .function := by rfl) (hnames : ∀ y ∈ scope.names, y.2 = .local → scope.names.lookup y.1 = some .local := by decide)
    (hL : env.locals = L := by rfl) (hy : env.kindOf y = some .local := by rfl) (hp : (env.scope.kind == .class || (env.scope.kind == .module && env.locals != env.globals)) = false := by rfl)
    (hsw : swapsWith (.ListComp elt [⟨.Tuple [.Name a pa, .Name b pb] kk tp, i1, [], 0⟩, ⟨.Name p pp, iter, [], 0⟩] scope pos) (some (.Name y py)) spos.line env = pure true := by rfl)
    (hs1 : ∀ x, foldedSetIterable i1 env x = pure x := by intro _; rfl) (hs2 : ∀ C x, foldedSetIterable iter (cenvOf scope cl C env) x = pure x := by intro _ _; rfl) :
    Wp (model prog w) A (exec (.Assign [.Name y py] (.ListComp elt [⟨.Tuple [.Name a pa, .Name b pb] kk tp, i1, [], 0⟩, ⟨.Name p pp, iter, [], 0⟩] scope pos) spos) env) Q E s := Wp.mk <| by
  subst hL
  rw [exec_Assign_Name_used _ _ _ _ hsw]
  refine wpAny_bind (wpAny_standAt (wpAny_bind ?_))
  show wpAny _ A (do let _ ← comprehension (.ListComp elt [⟨.Tuple [.Name a pa, .Name b pb] kk tp, i1, [], 0⟩, ⟨.Name p pp, iter, [], 0⟩] scope pos) scope env _ (newList []) false (eval i1 env) (some (assign (.Name y py) env))) _ _ s
  refine wpAny_bind (wpAny_mono (wpAny_comprehension_free (use := some (assign (.Name y py) env)) (Q := fun _ s' => Q .next s') rfl hs1 hclos hkind hnames
    ((hit led .rfl).go s _ _ at0 fun I h' tk' l1 fx ws Pv at1 s1 S hfx hoff hnd hitem _ => ?_)) (fun _ s' hq => wpAny_pure (wpAny_pure hq)) fun _ _ e => e)
  refine comp2_ev (s := { s with heap := h', toks := tk' }) (R3 := R3) (Rb := Rb) (g := g) (f := f) hh at1 S hfx hoff hnd hitem hka hkb hkp hkf hab hap hbp hda hdb hdp (fun C Y' l' x hx hY hl o1 o2 => hit2 C Y' l' x hx hY (s1.trans hl) o1 o2) (fun C Y' l' x z hx hz hY hl o1 o2 o3 => body C Y' l' x z hx hz hY (s1.trans hl) o1 o2 o3) u1 u2 u3 ub hsz hs2 fun D C oC m' ys c h tk at2 hoC hl r => ?_
  have zC := at2.ne (C, oC) (by simp)
  show wpAny _ A (assign (.Name y py) env (.ref D)) _ _ _
  refine wpAny_assign_Name (store_loc at2 rfl hy hp fun h₂ at3 => ?_)
  have z3 := at3.ne (C, oC) (by simp)
  refine ⟨m', hoC.ns z3.1, fun h'' hs'' => ?_⟩
  have at4 : At h₀ env.locals (fun z => if z = y then some (.ref D) else m z) ((D, lst ys) :: Y) c h₂ := (At.drop (X := [(C, oC)]) at3)
  have hC4 : ∀ q ∈ ((D, lst ys) :: Y) ++ c, q.1 ≠ C := fun q hq e => by
    rcases List.mem_append.mp hq with hq | hq
    · have nd := at3.nd
      rw [List.map_cons, List.nodup_cons] at nd
      exact nd.1 (List.mem_map.mpr ⟨q, hq, e⟩)
    · exact at3.off q hq (by rw [e]; simp)
  have at5 := at4.same hs'' hC4 zC.2.1 zC.2.2
  have zD := at5.nd
  rw [List.map_cons, List.nodup_cons] at zD
  refine k _ _ _ ((D, lst ys) :: c) ⟨at5.fr, fun q hq => at5.ne q ?_, zD.2, fun q hq hm => ?_⟩ (s1.trans (hl.trans .cons)) ⟨D, ys, _, rfl, .head _, r.mono fun b v h => ub b _ _ _ .cons h⟩
  · rcases List.mem_append.mp hq with hq | hq
    · simp [hq]
    · rcases List.mem_cons.mp hq with rfl | hq
      · simp
      · simp [hq]
  · rcases List.mem_cons.mp hq with rfl | hq
    · exact zD.1 hm
    · exact at5.off q hq (List.mem_cons_of_mem _ hm)
end
end Mine
end
noncomputable section
open PySem PySem.W PyProof.Rows PySem.Calls PySem.Spec
set_option maxRecDepth 100000
set_option linter.unusedVariables false
namespace Mine
open LCg
theorem cells_has {cm : Str → Option Value} {cl : List (Str × Addr)} {ce : Lg} (x : CellsAre cm cl ce) {y : Str} {c : Addr} (h : cl.lookup y = some c) : HasCell ce c := let ⟨o, h1, h2⟩ := cells_get x h; ⟨o, _, h1, h2⟩
theorem cells_val {cm : Str → Option Value} {cl : List (Str × Addr)} {ce : Lg} (x : CellsAre cm cl ce) {y : Str} {c : Addr} {v : Value} (h : cl.lookup y = some c) (hv : cm y = some v) : CellV ce c v := let ⟨o, h1, h2⟩ := cells_get x h; ⟨o, h1, hv ▸ h2⟩
theorem cells_plain {cm : Str → Option Value} {cl : List (Str × Addr)} {ce : Lg} (x : CellsAre cm cl ce) : PlainY ce := fun q hq => .inl (cells_only x q hq)
theorem at_cells {h₀ h : Heap} {L : Addr} {m cm : Str → Option Value} {cl : List (Str × Addr)} {ce news : Lg} (F : Fr h₀ L h m) (N : News h₀ L h (ce ++ news)) (x : CellsAre cm cl ce) (l1 : ∀ p ∈ news, @LT.lt Nat _ p.1 L) (nd : (cl.map (·.2)).Nodup) (ab : ∀ c ∈ cl.map (·.2), @LT.lt Nat _ L c) : At h₀ L m ce news h :=
  ⟨F, N, (cells_names x).symm ▸ nd, fun p hp hm => by
    have h1 := l1 p hp
    have h2 := ab _ ((cells_names x) ▸ hm)
    exact absurd (Nat.lt_trans h1 h2) (Nat.lt_irrefl _)⟩
theorem with_cxC {w : World} {mean : ExcName → Option Value} {mg mb : Str → Option Value} {p : Program} {loose : List Str} {dp un : Nat} {gd : Option (List Code)} {cn q : Str} {cs sc : Scope} {L a L' f : Addr} {ccd cdv : Value} {cl : List (Str × Addr)} {outer : List Env} {A₀ : Around} {base h₀ : Heap} {kd ku : Nat}
    {α : Type} {M : Model} {t : Sem α} {Q : α → Shared → Prop} {E : Value → Shared → Prop} {s : Shared}
    (B : Below A₀ base (envX cn cs L a ccd cl :: outer) h₀) (X : (hd.heap_39 w.params).In h₀) (T : Top p loose mean mg mb h₀) (hk : sc.kind = .function) (hd : dp + (kd + 1) < recursionLimit) (hu : un + (ku + 3) < cLine)
    (k : Cx w mean mg mb ((ktrTop dp un gd cn cs L a ccd cl outer).deeper (envOfC q sc L' f cdv)) h₀ L' kd ku → Wp M ((ktrTop dp un gd cn cs L a ccd cl outer).deeper (envOfC q sc L' f cdv)) t Q E s) : Wp M ((ktrTop dp un gd cn cs L a ccd cl outer).deeper (envOfC q sc L' f cdv)) t Q E s :=
  k ⟨rfl, ⟨p, loose, T⟩, X, ⟨q, sc, f, cdv, cellsFrom (L' + 1) sc.names [], envX cn cs L a ccd cl :: outer, A₀, base, rfl, B, hk⟩, (by show dp + 1 + kd < _; omega), (by show un + 3 + ku < _; omega)⟩
/-- lists and tuples -/
noncomputable def isSq (o : Obj) : Bool := (match o.data with | .seq _ _ => true | _ => false) && (match o.cls with | .type T => T == "list" || T == "tuple" | _ => false)
theorem isSq_list (vs : Array Value) (n : Nat) : isSq (W.listOf vs n) = true := rfl
theorem isSq_tup (vs : Array Value) (n : Nat) : isSq (tupO vs n) = true := rfl
theorem PlainO.notSq {o : Obj} (x : PlainO o) : isSq o = false := by
  rcases x with ⟨v, h⟩ | ⟨T, h, h1, h2⟩ | ⟨_, h⟩
  · simp [isSq, h]
  · simp [isSq, h, h1, h2]
  · simp [isSq, h]
noncomputable def sq (l : Lg) : Lg := l.filter fun p => isSq p.2
theorem sq_mem {l : Lg} {p : Addr × Obj} (h : p ∈ l) (hs : isSq p.2 = true) : p ∈ sq l := List.mem_filter.mpr ⟨h, hs⟩
theorem sq_sub {l : Lg} : Sub (sq l) l := fun p h => (List.mem_filter.mp h).1
theorem sq_all {l : Lg} : ∀ p ∈ sq l, isSq p.2 = true := fun p h => (List.mem_filter.mp h).2
noncomputable def Sq (R : Rp) : Prop := ∀ l v, R l v → R (sq l) v
theorem IntR.sq {i : Int} : Sq (IntR i) := fun _ _ h => h
theorem ListR.sq {α : Type} {R : α → Rp} (u : ∀ x, Sq (R x)) (xs : List α) : Sq (ListR R xs) := fun l v ⟨a, vs, n, e, hm, r⟩ => ⟨a, vs, n, e, sq_mem hm (isSq_list _ _), r.mono fun x v h => u x _ _ h⟩
theorem all2_sq {l : Lg} : ∀ {Rs : List Rp} {vs : List Value}, (∀ R ∈ Rs, Sq R) → All2 (fun R v => R l v) Rs vs → All2 (fun R v => R (Mine.sq l) v) Rs vs
  | _, _, _, .nil => .nil
  | _, _, u, .cons x t => .cons (u _ (.head _) _ _ x) (all2_sq (fun R h => u R (.tail _ h)) t)
theorem TupR.sq {Rs : List Rp} (u : ∀ R ∈ Rs, Sq R) : Sq (TupR Rs) := fun l v ⟨a, vs, n, e, hm, r⟩ => ⟨a, vs, n, e, sq_mem hm (isSq_tup _ _), all2_sq u r⟩
theorem sqs_nil : ∀ R ∈ ([] : List Rp), Sq R := fun _ h => nomatch h
theorem sqs_cons {R : Rp} {Rs : List Rp} (x : Sq R) (y : ∀ R ∈ Rs, Sq R) : ∀ S ∈ R :: Rs, Sq S := fun S h => by
  rcases List.mem_cons.mp h with rfl | h
  · exact x
  · exact y S h
theorem PairR.sq {α γ : Type} {R1 : α → Rp} {R2 : γ → Rp} (u1 : ∀ x, Sq (R1 x)) (u2 : ∀ x, Sq (R2 x)) (x : α × γ) : Sq (PairR R1 R2 x) := TupR.sq (sqs_cons (u1 _) (sqs_cons (u2 _) sqs_nil))
theorem PlainY.fresh {h₀ h h' : Heap} {L : Addr} {m : Str → Option Value} {Y led tl : Lg} (y : PlainY Y) (N : News h₀ L h' (tl ++ (Y ++ led))) (hs : ∀ p ∈ tl, isSq p.2 = true) : ∀ p ∈ tl, p.1 ∉ Y.map (·.1) := fun p hp hm => by
  obtain ⟨q, hq, e⟩ := List.mem_map.mp hm
  have h1 := (N p (List.mem_append_left _ hp)).1
  have h2 := (N q (List.mem_append_right _ (List.mem_append_left _ hq))).1
  rw [e] at h2
  have e2 : p.2 = q.2 := Option.some.inj (h1.symm.trans h2)
  have h3 := (y q hq).notSq
  rw [← e2, hs p hp] at h3
  cases h3
section
variable {prog : Program} {w : World} {A : Around} {h₀ : Heap} {L : Addr} {m : Str → Option Value} {Y led : Lg} {env : Env} {pos : Pos} {f e e' : Expr} {a b : Int} {α : Type}
theorem ev_range1 (hf : Ev (model prog w) A h₀ L m Y env f led (EqR (.type "range"))) (x : Ev (model prog w) A h₀ L m Y env e led (IntR a))
    (hc : eval (.Call f [e] [] pos) env = (do callWith pos (← eval f env) [] (backTo pos (starEach [e] env)) (backToKw pos (keywordEach [] env))) := by rfl)
    (he : starEach [e] env = (false, eval e env) :: starEach [] env := by rfl) : Ev (model prog w) A h₀ L m Y env (.Call f [e] [] pos) led (RangeR 0 a) :=
  ev_callT hf (sp_cons x sp_nil IntR.up he) (fun l vs hl r => by obtain ⟨v, rfl, r1⟩ := all2_one r; exact ws_range1 r1) hc he rfl
theorem ev_range2 (hf : Ev (model prog w) A h₀ L m Y env f led (EqR (.type "range"))) (x : Ev (model prog w) A h₀ L m Y env e led (IntR a)) (y : Ev (model prog w) A h₀ L m Y env e' led (IntR b))
    (hc : eval (.Call f [e, e'] [] pos) env = (do callWith pos (← eval f env) [] (backTo pos (starEach [e, e'] env)) (backToKw pos (keywordEach [] env))) := by rfl)
    (he : starEach [e, e'] env = (false, eval e env) :: starEach [e'] env := by rfl) (he' : starEach [e'] env = (false, eval e' env) :: starEach [] env := by rfl) (hp : (backTo pos (starEach [e'] env)).any (·.1) = false := by rfl) :
    Ev (model prog w) A h₀ L m Y env (.Call f [e, e'] [] pos) led (RangeR a b) :=
  ev_callT hf (sp_cons x (sp_cons y sp_nil IntR.up he') IntR.up he) (fun l vs hl r => by obtain ⟨v, v', rfl, r1, r2⟩ := all2_two r; exact ws_range2 r1 r2) hc he hp
theorem ev_b1 {R R' : Rp} {id : String} (u : Up R) (hf : Ev (model prog w) A h₀ L m Y env f led (EqR (.builtin id))) (x : Ev (model prog w) A h₀ L m Y env e led R) (h : ∀ l v, Sub led l → R l v → Ws (model prog w) A h₀ L m Y (call (.builtin id) [v]) l R')
    (hc : eval (.Call f [e] [] pos) env = (do callWith pos (← eval f env) [] (backTo pos (starEach [e] env)) (backToKw pos (keywordEach [] env))) := by rfl)
    (he : starEach [e] env = (false, eval e env) :: starEach [] env := by rfl) : Ev (model prog w) A h₀ L m Y env (.Call f [e] [] pos) led R' :=
  ev_callB hf (sp_cons x sp_nil u he) (fun l vs hl r => by obtain ⟨v, rfl, r1⟩ := all2_one r; exact h l v hl r1) hc he rfl
theorem ev_b2 {R R' R2 : Rp} {id : String} (u : Up R) (u2 : Up R2) (hf : Ev (model prog w) A h₀ L m Y env f led (EqR (.builtin id))) (x : Ev (model prog w) A h₀ L m Y env e led R) (y : Ev (model prog w) A h₀ L m Y env e' led R2)
    (h : ∀ l v v', Sub led l → R l v → R2 l v' → Ws (model prog w) A h₀ L m Y (call (.builtin id) [v, v']) l R')
    (hc : eval (.Call f [e, e'] [] pos) env = (do callWith pos (← eval f env) [] (backTo pos (starEach [e, e'] env)) (backToKw pos (keywordEach [] env))) := by rfl)
    (he : starEach [e, e'] env = (false, eval e env) :: starEach [e'] env := by rfl) (he' : starEach [e'] env = (false, eval e' env) :: starEach [] env := by rfl) (hp : (backTo pos (starEach [e'] env)).any (·.1) = false := by rfl) :
    Ev (model prog w) A h₀ L m Y env (.Call f [e, e'] [] pos) led R' :=
  ev_callB hf (sp_cons x (sp_cons y sp_nil u2 he') u he) (fun l vs hl r => by obtain ⟨v, v', rfl, r1, r2⟩ := all2_two r; exact h l v v' hl r1 r2) hc he hp
theorem ev_sum {ns : List Int} (hh : A.handled = none) (hf : Ev (model prog w) A h₀ L m Y env f led (EqR (.builtin "sum"))) (x : Ev (model prog w) A h₀ L m Y env e led (ListR IntR ns))
    (hc : eval (.Call f [e] [] pos) env = (do callWith pos (← eval f env) [] (backTo pos (starEach [e] env)) (backToKw pos (keywordEach [] env))) := by rfl)
    (he : starEach [e] env = (false, eval e env) :: starEach [] env := by rfl) : Ev (model prog w) A h₀ L m Y env (.Call f [e] [] pos) led (IntR ns.sum) := ev_b1 (ListR.up fun _ => IntR.up) hf x (fun _ _ _ r => ws_sum hh r) hc he
theorem ev_len {R : α → Rp} {xs : List α} (u : ∀ x, Up (R x)) (hz : xs.length ≤ sizeLine) (hf : Ev (model prog w) A h₀ L m Y env f led (EqR (.builtin "len"))) (x : Ev (model prog w) A h₀ L m Y env e led (ListR R xs))
    (hc : eval (.Call f [e] [] pos) env = (do callWith pos (← eval f env) [] (backTo pos (starEach [e] env)) (backToKw pos (keywordEach [] env))) := by rfl)
    (he : starEach [e] env = (false, eval e env) :: starEach [] env := by rfl) : Ev (model prog w) A h₀ L m Y env (.Call f [e] [] pos) led (IntR (xs.length : Int)) := ev_b1 (ListR.up u) hf x (fun _ _ _ r => ws_len hz r) hc he
theorem ev_lenS {x : Str} (hz : x.length ≤ sizeLine) (hf : Ev (model prog w) A h₀ L m Y env f led (EqR (.builtin "len"))) (h : Ev (model prog w) A h₀ L m Y env e led (StrR x))
    (hc : eval (.Call f [e] [] pos) env = (do callWith pos (← eval f env) [] (backTo pos (starEach [e] env)) (backToKw pos (keywordEach [] env))) := by rfl)
    (he : starEach [e] env = (false, eval e env) :: starEach [] env := by rfl) : Ev (model prog w) A h₀ L m Y env (.Call f [e] [] pos) led (IntR (x.length : Int)) := ev_b1 StrR.up hf h (fun _ _ _ r => ws_lenS hz r) hc he
theorem ev_max2 (hh : A.handled = none) (hf : Ev (model prog w) A h₀ L m Y env f led (EqR (.builtin "max"))) (x : Ev (model prog w) A h₀ L m Y env e led (IntR a)) (y : Ev (model prog w) A h₀ L m Y env e' led (IntR b))
    (hc : eval (.Call f [e, e'] [] pos) env = (do callWith pos (← eval f env) [] (backTo pos (starEach [e, e'] env)) (backToKw pos (keywordEach [] env))) := by rfl)
    (he : starEach [e, e'] env = (false, eval e env) :: starEach [e'] env := by rfl) (he' : starEach [e'] env = (false, eval e' env) :: starEach [] env := by rfl) (hp : (backTo pos (starEach [e'] env)).any (·.1) = false := by rfl) :
    Ev (model prog w) A h₀ L m Y env (.Call f [e, e'] [] pos) led (IntR (max a b)) := ev_b2 IntR.up IntR.up hf x y (fun _ _ _ _ r r' => ws_max2 hh r r') hc he he' hp
theorem ev_min2 (hh : A.handled = none) (hf : Ev (model prog w) A h₀ L m Y env f led (EqR (.builtin "min"))) (x : Ev (model prog w) A h₀ L m Y env e led (IntR a)) (y : Ev (model prog w) A h₀ L m Y env e' led (IntR b))
    (hc : eval (.Call f [e, e'] [] pos) env = (do callWith pos (← eval f env) [] (backTo pos (starEach [e, e'] env)) (backToKw pos (keywordEach [] env))) := by rfl)
    (he : starEach [e, e'] env = (false, eval e env) :: starEach [e'] env := by rfl) (he' : starEach [e'] env = (false, eval e' env) :: starEach [] env := by rfl) (hp : (backTo pos (starEach [e'] env)).any (·.1) = false := by rfl) :
    Ev (model prog w) A h₀ L m Y env (.Call f [e, e'] [] pos) led (IntR (min a b)) := ev_b2 IntR.up IntR.up hf x y (fun _ _ _ _ r r' => ws_min2 hh r r') hc he he' hp
theorem ev_strI (h1 : -2 ^ 1920 < a) (h2 : a < 2 ^ 1920) (hf : Ev (model prog w) A h₀ L m Y env f led (EqR (.type "str"))) (x : Ev (model prog w) A h₀ L m Y env e led (IntR a))
    (hc : eval (.Call f [e] [] pos) env = (do callWith pos (← eval f env) [] (backTo pos (starEach [e] env)) (backToKw pos (keywordEach [] env))) := by rfl)
    (he : starEach [e] env = (false, eval e env) :: starEach [] env := by rfl) : Ev (model prog w) A h₀ L m Y env (.Call f [e] [] pos) led (StrR (Str.ofString (toString a))) :=
  ev_callT hf (sp_cons x sp_nil IntR.up he) (fun l vs hl r => by obtain ⟨v, rfl, r1⟩ := all2_one r; exact ws_str r1 h1 h2) hc he rfl
theorem flat_take_le {α β : Type} (f : α → List β) : ∀ (xs : List α) (j : Nat), ((xs.take j).flatMap f).length ≤ (xs.flatMap f).length
  | [], j => by simp
  | x :: xs, 0 => by simp
  | x :: xs, j + 1 => by
    have := flat_take_le f xs j
    simp only [List.take_succ_cons, List.flatMap_cons, List.length_append]
    omega
end
end Mine
end
noncomputable section
open PySem PySem.W PyProof.Rows PySem.Calls PySem.Spec
set_option maxRecDepth 100000
set_option linter.unusedVariables false
namespace Mine
open LCg
theorem At.keeps' {h₀ h h' : Heap} {L : Addr} {m : Str → Option Value} {Y led : Lg} (x : At h₀ L m Y led h) (hk : ∀ b o, h.get? b = some o → h'.get? b = some o) : At h₀ L m Y led h' := ⟨x.fr.keeps hk, fun p hp => ⟨hk _ _ (x.ne p hp).1, (x.ne p hp).2⟩, x.nd, x.off⟩
section
variable {prog : Program} {w : World} {A : Around} {E : Value → Shared → Prop} {s : Shared}
/-- a tuple's iterator, drawn from -/
theorem draw_tup_item {it l : Addr} {i : Nat} {items : Array Value} {x : Value} {Q : Value → Shared → Prop} (hit : s.heap.IsTupleIter it l i) (hl : s.heap.IsTuple l items) (hx : items[i]? = some x)
    (hQ : ∀ h', h'.IsTupleIter it l (i + 1) → Heap.SameBut it s.heap h' → Q x { s with heap := h' }) : wpAny (model prog w) A (Builtin.SmallTypes.nextOf (.ref it)) Q E s := by
  obtain ⟨o, ho, hc, hd⟩ := id hit
  obtain ⟨ol, hol, _, nl, hdl⟩ := hl
  unfold Builtin.SmallTypes.nextOf
  refine wpAny_bind (wpAny_callSpecial?_slot (name := Str.ofString "__next__") hit.typeIs F.slot_tuple_iterator_next
    (wpAny_call_entry F.slot_tuple_iterator_next hit.typeIs F.entry_tuple_iterator_next ?_ (F.args_tuple_iterator_next_1 _)))
  show wpAny _ _ (field (.ref it) 0 >>= _) _ _ s
  refine wpAny_bind (wpAny_field ho hd (x := .ref l) rfl ?_)
  show wpAny _ _ (if (Value.ref l == Value.none) = true then _ else _) _ _ s
  rw [if_neg (show ¬ ((Value.ref l == Value.none) = true) from Bool.false_ne_true)]
  show wpAny _ _ (field (.ref it) 1 >>= _) _ _ s
  refine wpAny_bind (wpAny_field ho hd (x := .int i 0) rfl ?_)
  show wpAny _ _ (seqItems? (.ref l) >>= _) _ _ s
  refine wpAny_bind (wpAny_seqItems hol hdl ?_)
  simp only [Int.toNat_natCast, hx]
  refine wpAny_bind (wpAny_setField ho hd (by simp) (wpAny_pure ⟨x, rfl, wpAny_pure (hQ _ ?_ (Heap.SameBut.update ..))⟩))
  exact ⟨_, Heap.get?_update_self _ ho (Obj.isFreed_of_fields (Obj.data_mapFields hd _)), (Obj.cls_mapFields ..).trans hc, by
    rw [Obj.data_mapFields hd]; simp [rawInt]⟩
theorem draw_tup_end {it l : Addr} {i : Nat} {items : Array Value} {Q : Value → Shared → Prop} (hh : A.handled = none) (hit : s.heap.IsTupleIter it l i) (hl : s.heap.IsTuple l items) (hx : items[i]? = none)
    (hE : ∀ h' e, Heap.ExtBut it s.heap h' → (∃ o, h'.get? e = some o ∧ o.cls = .type "StopIteration") → E (.ref e) { s with heap := h' }) : wpAny (model prog w) A (Builtin.SmallTypes.nextOf (.ref it)) Q E s := by
  obtain ⟨o, ho, hc, hd⟩ := id hit
  obtain ⟨ol, hol, _, nl, hdl⟩ := hl
  unfold Builtin.SmallTypes.nextOf
  refine wpAny_bind (wpAny_callSpecial?_slot (name := Str.ofString "__next__") hit.typeIs F.slot_tuple_iterator_next
    (wpAny_call_entry F.slot_tuple_iterator_next hit.typeIs F.entry_tuple_iterator_next ?_ (F.args_tuple_iterator_next_1 _)))
  show wpAny _ _ (field (.ref it) 0 >>= _) _ _ s
  refine wpAny_bind (wpAny_field ho hd (x := .ref l) rfl ?_)
  show wpAny _ _ (if (Value.ref l == Value.none) = true then _ else _) _ _ s
  rw [if_neg (show ¬ ((Value.ref l == Value.none) = true) from Bool.false_ne_true)]
  show wpAny _ _ (field (.ref it) 1 >>= _) _ _ s
  refine wpAny_bind (wpAny_field ho hd (x := .int i 0) rfl ?_)
  show wpAny _ _ (seqItems? (.ref l) >>= _) _ _ s
  refine wpAny_bind (wpAny_seqItems hol hdl ?_)
  simp only [Int.toNat_natCast, hx]
  refine wpAny_bind (wpAny_rule (wpAny_bind (wpAny_setField ho hd (by simp) ?_)))
  show wpAny _ _ (newExc (.type "StopIteration") [] >>= _) _ _ _
  refine wpAny_bind ?_
  simp only [newExc, newTuple]
  refine wpAny_bind (wpAny_newObj_type ?_ (by size_fits))
  refine wpAny_bind (m := firstArgMember _ _) (wpAny_of_eq (a := Value.none) (by first | rfl | (simp only [firstArgMember]; rfl)) ?_)
  refine wpAny_newObj_type ?_ (by size_fits)
  simp only [raiseNew]
  refine wpAny_bind (wpAny_handled ?_)
  first | rw [show A.in1.handled = none from hh] | rw [hh]
  refine wpAny_bind (wpAny_pure (wpAny_throw ?_))
  exact hE _ _ (((Heap.SameBut.update ..).extBut.push _).push _) ⟨_, Heap.get?_push_size _ rfl, rfl⟩
theorem tupIter_at {h h' : Heap} {a t : Addr} {i : Nat} (x : h.IsTupleIter a t i) (k : ∀ o, h.get? a = some o → h'.get? a = some o) : h'.IsTupleIter a t i := let ⟨o, ho, r⟩ := x; ⟨o, k o ho, r⟩
theorem draws_tup (hh : A.handled = none) (it l : Addr) (hne : l ≠ it) (items : Array Value) : Draws prog w A it [it, l] items.size (fun i v => items[i]? = some v) (fun i h => h.IsTupleIter it l i ∧ h.IsTuple l items) where
  live := fun _ _ st => let ⟨o, ho, _⟩ := st.1; ⟨o, ho⟩
  frame := fun _ _ _ st hk => ⟨tupIter_at st.1 fun o e => hk it (by simp) o e, let ⟨o, ho, r⟩ := st.2; ⟨o, hk l (by simp) o ho, r⟩⟩
  item := fun i s Q E hi st hQ => by
    refine draw_tup_item st.1 st.2 (x := items[i]) (by simp [hi]) fun h' hit' hs' => ?_
    exact hQ _ h' s.toks (by simp [hi]) ⟨hit', st.2.extBut hs'.extBut hne⟩ hs'
  done := fun s Q E st hE => draw_tup_end hh st.1 st.2 (by simp) hE
theorem meets_enum_tup (l : Addr) (items : Array Value) (n : Nat) (dct : Option Addr) (sl : Array (Option Value)) :
    Meets (Builtin.«enumerate.__new__» ⟨[.type "enumerate", .ref l], []⟩) (fun _ R s => s.heap.get? l = some { cls := .type "tuple", dict := dct, data := .seq items n, slots := sl } ∧
      R (.ok (.ret (.ref (s.heap.push { cls := .type "tuple_iterator", data := .fields #[.ref l, .int 0 0] }).objs.size)))
        { s with heap := (s.heap.push { cls := .type "tuple_iterator", data := .fields #[.ref l, .int 0 0] }).push { cls := .type "enumerate", data := .fields #[.none, .bool false, .ref s.heap.objs.size, rawInt 0, .none, .none] } }) :=
  .of_wp fun prog w A R s h => by
    obtain ⟨hp, g, d, tk, os⟩ := s; obtain ⟨hl, h⟩ := h
    have hsub := sub_enumerate
    have hL : Heap.IsTuple (Shared.heap ⟨hp, g, d, tk, os⟩) l items := ⟨_, hl, rfl, n, rfl⟩
    wp_walk using AutoSeq1.wpAny_loadPart' hl
    refine wpAny_stack_any fun st => wpAny_pure ?_
    split
    · rename_i c _ _ _ _ _
      cases (c == Value.type "enumerate")
      · wp_walk using AutoSeq1.wpAny_loadPart' hl, wpAny_pyIter_tuple hL
        exact ⟨_, rfl, h⟩
      · wp_walk using AutoSeq1.wpAny_loadPart' hl, wpAny_pyIter_tuple hL
        exact ⟨_, rfl, h⟩
    · wp_walk using AutoSeq1.wpAny_loadPart' hl, wpAny_pyIter_tuple hL
      exact ⟨_, rfl, h⟩
theorem call_enum_tup {l : Addr} {items : Array Value} {Q : Value → Shared → Prop} (hL : s.heap.IsTuple l items)
    (h : ∀ h', IsEnum h' (s.heap.objs.size + 1) s.heap.objs.size 0 .none → h'.IsTupleIter s.heap.objs.size l 0 → h'.objs.size = s.heap.objs.size + 2 →
      (∀ b o, s.heap.get? b = some o → h'.get? b = some o) → Q (.ref (s.heap.objs.size + 1)) { s with heap := h' }) :
    wpAny (model prog w) A (call (.type "enumerate") [.ref l]) Q E s := by
  obtain ⟨⟨c, dct, dt, sl⟩, hl, hc, n, hd⟩ := hL
  replace hc : c = .type "tuple" := hc
  replace hd : dt = .seq items n := hd
  subst hc hd
  refine callType_new F.called_enumerate (by decide) (F.typeCall_enumerate_1 _) (F.newCall_enumerate_1 _) (fun obj => F.args_object_init_2 obj _) F.entry_enumerate_new
    (meets_enum_tup l items n dct sl) ⟨hl, ?_⟩
  have hz : (s.heap.push { cls := .type "tuple_iterator", data := .fields #[.ref l, .int 0 0] }).objs.size = s.heap.objs.size + 1 := Heap.size_push ..
  show _ ∧ _
  rw [hz]
  have he : IsEnum ((s.heap.push { cls := .type "tuple_iterator", data := .fields #[.ref l, .int 0 0] }).push
      { cls := .type "enumerate", data := .fields #[.none, .bool false, .ref s.heap.objs.size, rawInt 0, .none, .none] }) (s.heap.objs.size + 1) s.heap.objs.size 0 .none := by
    have := Heap.get?_push_size (s.heap.push { cls := .type "tuple_iterator", data := .fields #[.ref l, .int 0 0] })
      (o := { cls := .type "enumerate", data := .fields #[.none, .bool false, .ref s.heap.objs.size, rawInt 0, .none, .none] }) rfl
    rw [hz] at this; exact this
  refine ⟨⟨_, he, rfl⟩, h _ he ⟨_, Heap.get?_push_of_some _ (Heap.get?_push_size _ rfl), rfl, rfl⟩ (by rw [Heap.size_push, hz]) fun b o x => Heap.get?_push_of_some _ (Heap.get?_push_of_some _ x)⟩
end
section
variable {prog : Program} {w : World} {A : Around} {h₀ : Heap} {L : Addr} {m : Str → Option Value} {Y led : Lg} {env : Env} {α : Type}
/-- enumerate of a tuple -/
theorem it_enumT {f e : Expr} {elts : List Expr} {kk : Nat} {tpos pos : Pos} {R : α → Rp} {xs : List α} (hh : A.handled = none) (hf : Ev (model prog w) A h₀ L m Y env f led (EqR (.type "enumerate"))) (x : Ev (model prog w) A h₀ L m Y env e led (TupR (xs.map R))) (u : ∀ x, Up (R x))
    (hc : eval (.Call f [e] [] pos) env = (do callWith pos (← eval f env) [] (backTo pos (starEach [e] env)) (backToKw pos (keywordEach [] env))) := by rfl)
    (he : starEach [e] env = (false, eval e env) :: starEach [] env := by rfl) : It prog w A h₀ L m Y env (.Call f [e] [] pos) (.Tuple elts kk tpos) led (enumL xs) (PairIR IntR R) := by
  refine fun l' hs => ItA.mk fun s Q E at0 k => ?_
  have ut : Up (TupR (xs.map R)) := TupR.up fun S hS => by
    obtain ⟨y, _, rfl⟩ := List.mem_map.mp hS
    exact u y
  refine Call_ ((hf l' hs).go s _ _ at0 fun fv h1 t1 l1 at1 s1 r1 => ?_) hc
  cases r1
  refine callWith_type1 ((sp_cons x sp_nil ut he l1 (hs.trans s1)).go _ _ _ at1 fun vs h2 t2 l2 at2 s2 r2 => ?_) he rfl
  obtain ⟨v, rfl, a, vs, n, rfl, hm, r⟩ := all2_one r2
  have r := all2_each r
  have hat := at2.stay _ hm
  have hT : h2.IsTuple a vs.toArray := at2.tup hm
  have hlt : a < h2.objs.size := Heap.lt_size hat.1
  have hLs : L < h2.objs.size := at2.fr.ns.lt
  refine call_enum_tup (s := { s with heap := h2, toks := t2 }) hT fun h' hE hI hsz hk => ?_
  refine wpAny_pyIter_enum hE ?_
  have D := draws_tup (prog := prog) (w := w) (A := A.in1) hh h2.objs.size a (Nat.ne_of_lt hlt) vs.toArray
  have W := (WalksT.enumerateD D (h2.objs.size + 1) (Nat.succ_ne_self _) (fun hm => by
    rcases List.mem_cons.mp hm with e | hm
    · exact absurd e (Nat.succ_ne_self _)
    · exact ktu_ne 1 hlt (List.mem_singleton.mp hm).symm) (by simp)).toU
  have hn : vs.toArray.size = xs.length := by rw [List.size_toArray, ← r.length]
  rw [hn] at W
  have K := KTurns.ofWalksU (elts := elts) (k := kk) (pos := tpos) W
  have e : (fun (i : Nat) (v : Value) (h : Heap) => ∃ T vals, v = .ref T ∧ (∃ t x, vs.toArray[i]? = some x ∧ vals = #[.int i t, x]) ∧ h.IsTuple T vals) = fun (i : Nat) v h => ∃ T t x, vs[i]? = some x ∧ v = Value.ref T ∧ IsTup h T #[.int (i : Int) t, x] := by
    funext i v h
    refine propext ⟨?_, ?_⟩
    · rintro ⟨T, vals, rfl, ⟨t, x, hx, rfl⟩, hT⟩
      exact ⟨T, t, x, by simpa using hx, rfl, hT⟩
    · rintro ⟨T, t, x, hx, rfl, hT⟩
      exact ⟨T, _, rfl, ⟨t, x, by simpa using hx, rfl⟩, hT⟩
  rw [e] at K
  have at3 : At h₀ L m Y l2 h' := at2.keeps' hk
  have S : SrcOk prog w A (.Tuple elts kk tpos) h₀ L [(a, tupO vs.toArray n)] [(h2.objs.size + 1, "enumerate"), (h2.objs.size, "tuple_iterator")] (enumL xs).length (fun (i : Nat) v h => ∃ T t x, vs[i]? = some x ∧ v = Value.ref T ∧ IsTup h T #[.int (i : Int) t, x]) (h2.objs.size + 1) h' := by
    rw [enumL_len]
    refine ⟨_, _, _, _, K, W.self, ?_, fun b hb => by simpa using hb, ?_, ?_, ⟨⟨.none, hE⟩, hI, ⟨_, hk _ _ hat.1, rfl, n, rfl⟩⟩, ?_, ?_⟩
    · rintro i h ⟨⟨old, he⟩, ⟨oi, hoi, hic, _⟩, _⟩
      have he' : ∃ oe : Obj, h.get? (h2.objs.size + 1) = some oe ∧ oe.cls = .type "enumerate" := ⟨_, he, rfl⟩
      obtain ⟨oe, h1, h2'⟩ := he'
      refine ⟨[(h2.objs.size + 1, oe), (h2.objs.size, oi)], ⟨⟨rfl, h2'⟩, ⟨rfl, hic⟩, trivial⟩, fun p hp => ?_⟩
      rcases List.mem_cons.mp hp with rfl | hp
      · exact h1
      · rw [List.mem_singleton.mp hp]; exact hoi
    · intro b hb
      have hb' : b = h2.objs.size + 1 ∨ b = h2.objs.size := by simpa using hb
      rcases hb' with rfl | rfl
      · exact ⟨by simp, ktu_new at2.fr (Nat.le_add_right _ _), Ne.symm (ktu_ne 1 hLs)⟩
      · exact ⟨by simp, ktu_new at2.fr (Nat.le_refl _), Ne.symm (Nat.ne_of_lt hLs)⟩
    · intro b hb
      have hb' : b = h2.objs.size + 1 ∨ b = h2.objs.size ∨ b = a := by simpa using hb
      rcases hb' with rfl | rfl | rfl
      · exact .inl (by simp)
      · exact .inl (by simp)
      · exact .inr (.inl ⟨_, List.mem_singleton.mpr rfl⟩)
    · intro b hb
      rw [hsz]
      have hb' : b = h2.objs.size + 1 ∨ b = h2.objs.size ∨ b = a := by simpa using hb
      rcases hb' with rfl | rfl | rfl
      · exact Nat.lt_succ_self _
      · exact Nat.lt_succ_of_lt (Nat.lt_succ_self _)
      · exact Nat.lt_succ_of_lt (Nat.lt_succ_of_lt hlt)
    · intro hI'
      have hb' : L = h2.objs.size + 1 ∨ L = h2.objs.size ∨ L = a := by simpa using hI'
      rcases hb' with e | e | e
      · exact ktu_ne 1 hLs e
      · exact Nat.ne_of_lt hLs e
      · exact hat.2.1 e.symm
  refine k _ _ _ l2 _ _ _ at3 (s1.trans s2) S (fun p hp => by rw [List.mem_singleton.mp hp]; exact hm) (fun p hp hq => ?_) (by simp) (fun i v h l2 s2 _ hv => ?_) fun b hb => ?_
  · have hl := at2.lt p hp
    rcases List.mem_cons.mp hq with e | hq
    · exact absurd (Nat.lt_trans hl (Nat.lt_succ_self _)) (by rw [e]; exact Nat.lt_irrefl _)
    · have := List.mem_singleton.mp hq
      exact absurd hl (by rw [this]; exact Nat.lt_irrefl _)
  · obtain ⟨T, t, x, hx, rfl, hT⟩ := hv
    obtain ⟨y, hy, r⟩ := r.get' hx
    exact ⟨((i : Int), y), enumL_get _ _ _ hy, T, _, _, rfl, hT, ⟨t, rfl⟩, u y _ _ _ s2 r⟩
  · rcases List.mem_cons.mp hb with e | hb
    · rw [e]; exact (⟨by decide, by decide⟩ : NoSeq "enumerate")
    · rw [List.mem_singleton.mp hb]; exact (⟨by decide, by decide⟩ : NoSeq "tuple_iterator")
end
end Mine
end
noncomputable section
open PySem PySem.W PyProof.Rows PySem.Calls PySem.Spec
set_option maxRecDepth 100000
set_option linter.unusedVariables false
namespace Mine
open LCg
section
variable {prog : Program} {w : World} {A : Around} {E : Value → Shared → Prop} {s : Shared}
/-- zip of a list and a text: one item -/
theorem zs_item {z TI TO i1 i2 l1 : Addr} {k : Nat} {xs : Array Value} {y : Str} {ty : Tok} {x a b : Value} {cp : Nat} {Q : Value → Shared → Prop} (D : ZipApart z TI TO i1 i2 l1 l1)
    (hz : IsZip s.heap z TI TO .none) (hTI : IsPair s.heap TI (.ref i1) (.ref i2)) (hTO : IsPair s.heap TO a b)
    (h1 : s.heap.IsListIter i1 l1 k) (h2 : s.heap.IsStrIter i2 "str_ascii_iterator" y ty k) (hl1 : s.heap.IsList l1 xs) (hx : xs[k]? = some x) (hy : y.cps[k]? = some cp)
    (hQ : ∀ h' v tk, (∃ t, v = .str ⟨#[cp]⟩ t) → IsZip h' z TI TO (rawInt s.heap.objs.size) → IsPair h' TO x v → h'.IsListIter i1 l1 (k + 1) → h'.IsStrIter i2 "str_ascii_iterator" y ty (k + 1) → IsPair h' s.heap.objs.size x v → h'.objs.size = s.heap.objs.size + 1 →
      (∀ c o, c ≠ z → c ≠ TO → c ≠ i1 → c ≠ i2 → s.heap.get? c = some o → h'.get? c = some o) → Q (.ref s.heap.objs.size) { s with heap := h', toks := tk }) :
    wpAny (model prog w) A (Builtin.«zip.__next__» ⟨[.ref z], []⟩) (fun fin s' => ∃ v, fin = .done (.ret v) ∧ Q v s') E s := by
  show wpAny _ _ (field (.ref z) 2 >>= _) _ _ _
  refine wpAny_bind (wpAny_field hz rfl (x := .bool false) rfl ?_)
  show wpAny _ _ (field (.ref z) 3 >>= _) _ _ _
  refine wpAny_bind (wpAny_field hz rfl (x := .ref TI) rfl ?_)
  refine wpAny_bind (wpAny_seqItems hTI rfl ?_)
  show wpAny _ _ (Builtin.SmallTypes.ownedTupleIsFree (.ref z) >>= _) _ _ _
  refine wpAny_bind ?_
  unfold Builtin.SmallTypes.ownedTupleIsFree
  refine wpAny_bind (wpAny_field hz rfl (x := .none) rfl (wpAny_pure ?_))
  simp only [if_true]
  refine wpAny_bind (wpAny_rule ?_)
  refine wpAny_bind (wpAny_field hz rfl (x := .ref TO) rfl ?_)
  refine wpAny_bind (wpAny_setField_rec hz (by simp) fun h₁ hz₁ hs₁ => ?_)
  replace hz₁ : IsZip h₁ z TI TO .ellipsis := hz₁
  refine wpAny_bind ?_
  simp only [List.zipIdx_cons, List.zipIdx_nil, List.forIn_cons, List.forIn_nil]
  refine wpAny_bind (wpAny_bind (wpAny_onRaise ?_))
  show wpAny _ _ (Builtin.SmallTypes.nextOf (.ref i1) >>= _) _ _ _
  refine wpAny_bind (wpAny_nextOf_list_item (h1.extBut hs₁.extBut D.i1z) (hl1.extBut hs₁.extBut D.l1z) hx fun h₂ h1₂ hs₂ => wpAny_pure ?_)
  have hTO₂ : IsPair h₂ TO a b := hs₂.extBut _ _ D.TOi1 (hs₁.extBut _ _ D.TOz hTO)
  refine wpAny_bind (wpAny_seqItems hTO₂ rfl ?_)
  refine wpAny_bind (wpAny_updateSeq_pair hTO₂ fun h₃ hTO₃ hs₃ => ?_)
  replace hTO₃ : IsPair h₃ TO x b := hTO₃
  refine wpAny_bind (wpAny_letGo (wpAny_pure ?_))
  refine wpAny_bind (wpAny_bind (wpAny_onRaise ?_))
  show wpAny _ _ (Builtin.SmallTypes.nextOf (.ref i2) >>= _) _ _ _
  have h2₃ : h₃.IsStrIter i2 "str_ascii_iterator" y ty k := by
    obtain ⟨o, e1, e2⟩ := h2
    exact ⟨o, hs₃.extBut _ _ D.TOi2.symm (hs₂.extBut _ _ D.i12.symm (hs₁.extBut _ _ D.i2z e1)), e2⟩
  refine wpAny_bind (wpAny_nextOf_ascii_item h2₃ hy fun h₄ h2₄ hs₄ => wpAny_pure ?_)
  have hTO₄ : IsPair h₄ TO x b := hs₄.extBut _ _ D.TOi2 hTO₃
  refine wpAny_bind (wpAny_seqItems hTO₄ rfl ?_)
  refine wpAny_bind (wpAny_updateSeq_pair hTO₄ fun h₅ hTO₅ hs₅ => ?_)
  obtain ⟨v, hv⟩ : ∃ v : Value, v = .str ⟨#[cp]⟩ s.toks := ⟨_, rfl⟩
  replace hTO₅ : IsPair h₅ TO x v := hv ▸ hTO₅
  refine wpAny_bind (wpAny_letGo (wpAny_pure (wpAny_pure ?_)))
  refine wpAny_bind (wpAny_seqItems hTO₅ rfl ?_)
  refine wpAny_bind (wpAny_newTuple ?_)
  have hsz : h₅.objs.size = s.heap.objs.size := by rw [hs₅.1, hs₄.1, hs₃.1, hs₂.1, hs₁.1]
  have hz₅ : IsZip h₅ z TI TO .ellipsis := hs₅.extBut _ _ D.TOz.symm (hs₄.extBut _ _ D.i2z.symm (hs₃.extBut _ _ D.TOz.symm (hs₂.extBut _ _ D.i1z.symm hz₁)))
  have hk₅ : ∀ c o, c ≠ z → c ≠ TO → c ≠ i1 → c ≠ i2 → s.heap.get? c = some o → h₅.get? c = some o := fun c o c1 c2 c3 c4 e =>
    hs₅.extBut _ _ c2 (hs₄.extBut _ _ c4 (hs₃.extBut _ _ c2 (hs₂.extBut _ _ c3 (hs₁.extBut _ _ c1 e))))
  have h1₅ : h₅.IsListIter i1 l1 (k + 1) := ((h1₂.extBut hs₃.extBut D.TOi1.symm).extBut hs₄.extBut D.i12).extBut hs₅.extBut D.TOi1.symm
  have h2₅ : h₅.IsStrIter i2 "str_ascii_iterator" y ty (k + 1) := by
    obtain ⟨o, e1, e2⟩ := h2₄
    exact ⟨o, hs₅.extBut _ _ D.TOi2.symm e1, e2⟩
  have hzlt : z < h₅.objs.size := Heap.lt_size hz₅
  have hTOlt : TO < h₅.objs.size := Heap.lt_size hTO₅
  show wpAny _ _ (Builtin.SmallTypes.ownedTupleHandOut (.ref z) (.ref h₅.objs.size) >>= _) _ _ _
  refine wpAny_bind ?_
  unfold Builtin.SmallTypes.ownedTupleHandOut
  have hz₆ : IsZip (h₅.push { cls := .type "tuple", data := .seq #[x, v] }) z TI TO .ellipsis := Heap.get?_push_of_some _ hz₅
  refine wpAny_bind (wpAny_setField_rec hz₆ (by simp) fun h₇ hz₇ hs₇ => ?_)
  replace hz₇ : IsZip h₇ z TI TO (rawInt h₅.objs.size) := hz₇
  refine wpAny_setField_rec hz₇ (by simp) fun h₈ hz₈ hs₈ => ?_
  replace hz₈ : IsZip h₈ z TI TO (rawInt h₅.objs.size) := hz₈
  have up : ∀ c o, c ≠ z → h₅.get? c = some o → h₈.get? c = some o := fun c o c1 e => hs₈.extBut _ _ c1 (hs₇.extBut _ _ c1 (Heap.get?_push_of_some _ e))
  have hT₈ : IsPair h₈ h₅.objs.size x v := hs₈.extBut _ _ (Nat.ne_of_gt hzlt) (hs₇.extBut _ _ (Nat.ne_of_gt hzlt) (Heap.get?_push_size _ rfl))
  have hz8 : h₈.objs.size = h₅.objs.size + 1 := by rw [hs₈.1, hs₇.1, Heap.size_push]
  rw [hsz] at hz₈ hT₈ hz8
  refine wpAny_pure ⟨_, rfl, ?_⟩
  show Q (.ref h₅.objs.size) _
  rw [hsz]
  exact hQ h₈ v _ ⟨_, hv⟩ hz₈ (up _ _ D.TOz hTO₅) (h1₅.at fun o e => up _ o D.i1z e) (let ⟨o, e1, e2⟩ := h2₅; ⟨o, up _ o D.i2z e1, e2⟩) hT₈ hz8 fun c o c1 c2 c3 c4 e => up c o c1 (hk₅ c o c1 c2 c3 c4 e)
/-- its end: the list is done -/
theorem zs_end {z TI TO i1 i2 l1 : Addr} {k : Nat} {xs : Array Value} {a b : Value} {Q : Fin → Shared → Prop} (hh : A.handled = none) (D : ZipApart z TI TO i1 i2 l1 l1)
    (hz : IsZip s.heap z TI TO .none) (hTI : IsPair s.heap TI (.ref i1) (.ref i2)) (hTO : IsPair s.heap TO a b)
    (h1 : s.heap.IsListIter i1 l1 k) (hl1 : s.heap.IsList l1 xs) (hx : xs[k]? = none)
    (hE : ∀ h' e, (∀ c o, c ≠ z → c ≠ TO → c ≠ i1 → c ≠ i2 → s.heap.get? c = some o → h'.get? c = some o) → (∃ o, h'.get? e = some o ∧ o.cls = .type "StopIteration") → E (.ref e) { s with heap := h' }) :
    wpAny (model prog w) A (Builtin.«zip.__next__» ⟨[.ref z], []⟩) Q E s := by
  show wpAny _ _ (field (.ref z) 2 >>= _) _ _ _
  refine wpAny_bind (wpAny_field hz rfl (x := .bool false) rfl ?_)
  show wpAny _ _ (field (.ref z) 3 >>= _) _ _ _
  refine wpAny_bind (wpAny_field hz rfl (x := .ref TI) rfl ?_)
  refine wpAny_bind (wpAny_seqItems hTI rfl ?_)
  show wpAny _ _ (Builtin.SmallTypes.ownedTupleIsFree (.ref z) >>= _) _ _ _
  refine wpAny_bind ?_
  unfold Builtin.SmallTypes.ownedTupleIsFree
  refine wpAny_bind (wpAny_field hz rfl (x := .none) rfl (wpAny_pure ?_))
  simp only [if_true]
  refine wpAny_bind (wpAny_rule ?_)
  refine wpAny_bind (wpAny_field hz rfl (x := .ref TO) rfl ?_)
  refine wpAny_bind (wpAny_setField_rec hz (by simp) fun h₁ hz₁ hs₁ => ?_)
  replace hz₁ : IsZip h₁ z TI TO .ellipsis := hz₁
  refine wpAny_bind ?_
  simp only [List.zipIdx_cons, List.zipIdx_nil, List.forIn_cons, List.forIn_nil]
  refine wpAny_bind (wpAny_bind (wpAny_onRaise ?_))
  show wpAny _ _ (Builtin.SmallTypes.nextOf (.ref i1) >>= _) _ _ _
  refine wpAny_bind (wpAny_nextOf_list_end hh (h1.extBut hs₁.extBut D.i1z) (hl1.extBut hs₁.extBut D.l1z) hx fun h₂ e hs₂ he => ?_)
  obtain ⟨oe, hoe, hce⟩ := he
  have hz₂ : IsZip h₂ z TI TO .ellipsis := hs₂ _ _ D.i1z.symm hz₁
  have hez : e ≠ z := fun x => by subst x; rw [hz₂] at hoe; cases hoe; simp at hce
  refine wpAny_setField_rec hz₂ (by simp) fun h₃ _ hs₃ => hE h₃ e (fun c o c1 _ c3 _ x => hs₃.extBut _ _ c1 (hs₂ _ _ c3 (hs₁.extBut _ _ c1 x))) ⟨oe, hs₃.extBut _ _ hez hoe, hce⟩
/-- the walk of it -/
theorem zs_walk (hh : A.handled = none) (z TI TO i1 i2 l1 : Addr) (D : ZipApart z TI TO i1 i2 l1 l1) (xs : Array Value) (y : Str) (ty : Tok) (hn : y.cps.size = xs.size) :
    WalksU prog w A z [z, TI, TO, i1, i2, l1] [z, TO, i1, i2] xs.size
      (fun i vals => ∃ x cp t, xs[i]? = some x ∧ y.cps[i]? = some cp ∧ vals = #[x, .str ⟨#[cp]⟩ t])
      (fun i h => IsZip h z TI TO .none ∧ IsPair h TI (.ref i1) (.ref i2) ∧ (∃ a b, IsPair h TO a b) ∧ h.IsListIter i1 l1 i ∧ h.IsStrIter i2 "str_ascii_iterator" y ty i ∧ h.IsList l1 xs)
      (fun i T h => IsZip h z TI TO (rawInt T) ∧ IsPair h TI (.ref i1) (.ref i2) ∧ (∃ a b, IsPair h TO a b) ∧ h.IsListIter i1 l1 (i + 1) ∧ h.IsStrIter i2 "str_ascii_iterator" y ty (i + 1) ∧ h.IsList l1 xs ∧ T ≠ z ∧ T ≠ TO ∧ T ≠ i1 ∧ T ≠ i2) where
  sub := fun c hc => by simp at hc ⊢; rcases hc with rfl | rfl | rfl | rfl <;> simp
  frame := fun i h h' hst hk => by
    obtain ⟨hz, hTI, ⟨a, b, hTO⟩, h1, ⟨o2, e2, r2⟩, hl1⟩ := hst
    exact ⟨hk z (by simp) _ hz, hk TI (by simp) _ hTI, ⟨a, b, hk TO (by simp) _ hTO⟩, h1.at fun o e => hk i1 (by simp) o e, ⟨o2, hk i2 (by simp) o2 e2, r2⟩, hl1.at fun o e => hk l1 (by simp) o e⟩
  item := fun i s Q E hi hst hQ => by
    obtain ⟨hz, hTI, ⟨a, b, hTO⟩, h1, h2, hl1⟩ := hst
    have hiy : i < y.cps.size := by omega
    have hT : s.TypeIs (.ref z) "zip" := ⟨_, hz, rfl⟩
    unfold pyNext
    refine wpAny_bind (wpAny_attempt (wpAny_callSpecial?_slot (name := Str.ofString "__next__") hT F.slot_zip_next
      (wpAny_call_entry F.slot_zip_next hT F.entry_zip_next
        (zs_item D hz hTI hTO h1 h2 hl1 (Array.getElem?_eq_getElem hi) (Array.getElem?_eq_getElem hiy) fun h' v tk hv a1 a2 a3 a4 a5 a6 hk => wpAny_pure ?_) (F.args_zip_next_1 _))))
    have lt : ∀ {c o}, s.heap.get? c = some o → s.heap.objs.size ≠ c := fun e => Nat.ne_of_gt (Heap.lt_size e)
    obtain ⟨t, rfl⟩ := hv
    exact hQ s.heap.objs.size #[xs[i], .str ⟨#[y.cps[i]]⟩ t] h' tk ⟨_, _, t, Array.getElem?_eq_getElem hi, Array.getElem?_eq_getElem hiy, rfl⟩ ⟨_, a5, rfl, _, rfl⟩
      ⟨a1, hk _ _ D.TIz D.TITO D.TIi1 D.TIi2 hTI, ⟨_, _, a2⟩, a3, a4, hl1.at fun o e => hk _ o D.l1z D.l1TO D.l1i1 D.l1i2 e, lt hz, lt hTO, (by obtain ⟨_, e, _⟩ := h1; exact lt e), (by obtain ⟨_, e, _⟩ := h2; exact lt e)⟩
      fun c o hc e => hk c o (fun x => hc (by simp [x])) (fun x => hc (by simp [x])) (fun x => hc (by simp [x])) (fun x => hc (by simp [x])) e
  go := fun elts k pos i T s Q E hm hQ => by
    obtain ⟨hz, hTI, ⟨a, b, hTO⟩, h1, ⟨o2, e2, r2⟩, hl1, _⟩ := hm
    refine wpAny_letOwnedTupleGo_zip hz fun h' hz' hs' => hQ h' ⟨hz', hs'.extBut _ _ D.TIz hTI, ⟨a, b, hs'.extBut _ _ D.TOz hTO⟩, h1.extBut hs'.extBut D.i1z, ⟨o2, hs'.extBut _ _ D.i2z e2, r2⟩,
      hl1.extBut hs'.extBut D.l1z⟩ fun c o hc e => hs'.extBut _ _ (fun x => hc (by simp [x])) e
  apart := fun i T h hm hT => by
    obtain ⟨_, _, _, _, _, _, t1, t2, t3, t4⟩ := hm
    simp at hT
    rcases hT with rfl | rfl | rfl | rfl
    · exact t1 rfl
    · exact t2 rfl
    · exact t3 rfl
    · exact t4 rfl
  done := fun s Q E hst hQ => by
    obtain ⟨hz, hTI, ⟨a, b, hTO⟩, h1, h2, hl1⟩ := hst
    have hT : s.TypeIs (.ref z) "zip" := ⟨_, hz, rfl⟩
    unfold pyNext
    refine wpAny_bind (wpAny_attempt (wpAny_callSpecial?_slot (name := Str.ofString "__next__") hT F.slot_zip_next
      (wpAny_call_entry F.slot_zip_next hT F.entry_zip_next (zs_end hh D hz hTI hTO h1 hl1 (Array.getElem?_eq_none (Nat.le_refl _)) fun h' e hk he => ?_) (F.args_zip_next_1 _))))
    obtain ⟨o, ho, hc⟩ := he
    refine wpAny_bind (wpAny_isInstance (T := "StopIteration") (b := true) ⟨o, ho, hc⟩ isSubtype_stop ?_)
    exact wpAny_pure (hQ _ _ fun c o hc e => hk c o (fun x => hc (by simp [x])) (fun x => hc (by simp [x])) (fun x => hc (by simp [x])) (fun x => hc (by simp [x])) e)
  self := fun i s Q E hst hQ => wpAny_pyIter_zip hst.1 hQ
end
end Mine
end
noncomputable section
open PySem PySem.W PyProof.Rows PySem.Calls PySem.Spec
set_option maxRecDepth 100000
set_option linter.unusedVariables false
namespace Mine
open LCg
section
variable {prog : Program} {w : World} {A : Around} {E : Value → Shared → Prop} {s : Shared}
noncomputable abbrev zsH1 (h : Heap) (l1 : Addr) : Heap := h.push { cls := .type "list_iterator", data := .fields #[.ref l1, .int 0 0] }
noncomputable abbrev zsH2 (h : Heap) (l1 : Addr) (x : Str) (t : Tok) : Heap := (zsH1 h l1).push { cls := .type "str_ascii_iterator", data := .fields #[.str x t, .int 0 0] }
noncomputable abbrev zsH3 (h : Heap) (l1 : Addr) (x : Str) (t : Tok) : Heap := (zsH2 h l1 x t).push { cls := .type "tuple", data := .seq #[.ref h.objs.size, .ref (zsH1 h l1).objs.size] }
noncomputable abbrev zsH4 (h : Heap) (l1 : Addr) (x : Str) (t : Tok) : Heap := (zsH3 h l1 x t).push { cls := .type "tuple", data := .seq #[.none, .none] }
noncomputable abbrev zsH5 (h : Heap) (l1 : Addr) (x : Str) (t : Tok) : Heap := (zsH4 h l1 x t).push { cls := .type "zip", data := .fields #[.none, .bool false, .bool false, .ref (zsH2 h l1 x t).objs.size, .ref (zsH3 h l1 x t).objs.size] }
set_option maxHeartbeats 4000000 in
theorem meets_zs (l1 : Addr) (xs : Array Value) (x : Str) (t : Tok) (ha : x.cps.all (· < 128) = true) :
    Meets (Builtin.«zip.__new__» ⟨[.type "zip", .ref l1, .str x t], []⟩) (fun _ R s => s.heap.IsList l1 xs ∧
      R (.ok (.ret (.ref (zsH4 s.heap l1 x t).objs.size))) { s with heap := zsH5 s.heap l1 x t }) :=
  .of_wp fun prog w A R s h => by
    obtain ⟨hp, g, d, tk, os⟩ := s; obtain ⟨hl1, h⟩ := h
    have hsub := sub_zip
    have hL1 : Heap.IsList (Shared.heap ⟨hp, g, d, tk, os⟩) l1 xs := hl1
    wp_walk using wpAny_pyIter_list hL1, wpAny_pyIter_ascii ha
    exact ⟨_, rfl, h⟩
theorem call_zs {l1 : Addr} {xs : Array Value} {x : Str} {t : Tok} {Q : Value → Shared → Prop} (ha : x.cps.all (· < 128) = true) (hl1 : s.heap.IsList l1 xs)
    (h : ∀ h', IsZip h' (s.heap.objs.size + 4) (s.heap.objs.size + 2) (s.heap.objs.size + 3) .none → IsPair h' (s.heap.objs.size + 2) (.ref s.heap.objs.size) (.ref (s.heap.objs.size + 1)) →
      IsPair h' (s.heap.objs.size + 3) .none .none → h'.IsListIter s.heap.objs.size l1 0 → h'.IsStrIter (s.heap.objs.size + 1) "str_ascii_iterator" x t 0 → h'.objs.size = s.heap.objs.size + 5 →
      (∀ c o, s.heap.get? c = some o → h'.get? c = some o) → Q (.ref (s.heap.objs.size + 4)) { s with heap := h' }) :
    wpAny (model prog w) A (call (.type "zip") [.ref l1, .str x t]) Q E s := by
  refine callType_new F.called_zip (by decide) (F.typeCall_zip_2 _ _) (F.newCall_zip_2 _ _) (fun obj => F.args_object_init_3 obj _ _) F.entry_zip_new
    (meets_zs l1 xs x t ha) ⟨hl1, ?_⟩
  have z1 : (zsH1 s.heap l1).objs.size = s.heap.objs.size + 1 := Heap.size_push ..
  have z2 : (zsH2 s.heap l1 x t).objs.size = s.heap.objs.size + 2 := by rw [Heap.size_push, z1]
  have z3 : (zsH3 s.heap l1 x t).objs.size = s.heap.objs.size + 3 := by rw [Heap.size_push, z2]
  have z4 : (zsH4 s.heap l1 x t).objs.size = s.heap.objs.size + 4 := by rw [Heap.size_push, z3]
  have z5 : (zsH5 s.heap l1 x t).objs.size = s.heap.objs.size + 5 := by rw [Heap.size_push, z4]
  have g5 : (zsH5 s.heap l1 x t).get? (zsH4 s.heap l1 x t).objs.size = some _ := Heap.get?_push_size _ rfl
  have g4 : (zsH5 s.heap l1 x t).get? (zsH3 s.heap l1 x t).objs.size = some _ := Heap.get?_push_of_some _ (Heap.get?_push_size _ rfl)
  have g3 : (zsH5 s.heap l1 x t).get? (zsH2 s.heap l1 x t).objs.size = some _ := Heap.get?_push_of_some _ (Heap.get?_push_of_some _ (Heap.get?_push_size _ rfl))
  have g2 : (zsH5 s.heap l1 x t).get? (zsH1 s.heap l1).objs.size = some _ := Heap.get?_push_of_some _ (Heap.get?_push_of_some _ (Heap.get?_push_of_some _ (Heap.get?_push_size _ rfl)))
  have g1 : (zsH5 s.heap l1 x t).get? s.heap.objs.size = some _ := Heap.get?_push_of_some _ (Heap.get?_push_of_some _ (Heap.get?_push_of_some _ (Heap.get?_push_of_some _ (Heap.get?_push_size _ rfl))))
  show _ ∧ _
  rw [z2, z3, z4] at g5
  rw [z1, z2] at g3
  rw [z3] at g4
  rw [z1] at g2
  rw [z4]
  exact ⟨⟨_, g5, rfl⟩, h _ g5 g3 g4 ⟨_, g1, rfl, rfl⟩ ⟨_, g2, rfl, rfl⟩ z5 fun c o x =>
    Heap.get?_push_of_some _ (Heap.get?_push_of_some _ (Heap.get?_push_of_some _ (Heap.get?_push_of_some _ (Heap.get?_push_of_some _ x))))⟩
end
end Mine
end
noncomputable section
open PySem PySem.W PyProof.Rows PySem.Calls PySem.Spec
set_option maxRecDepth 100000
set_option linter.unusedVariables false
namespace Mine
open LCg
structure ItZ {α : Type} (prog : Program) (w : World) (A : Around) (h₀ : Heap) (L : Addr) (m : Str → Option Value) (Y : Lg) (env : Env) (iter target : Expr) (led' : Lg) (xs : List α) (IR : α → Heap → Lg → Value → Prop) : Prop where
  go : ∀ (s : Shared) (Q E : Value → Shared → Prop), At h₀ L m Y led' s.heap →
    (∀ I h' tk' l1 fx ws Pv, At h₀ L m Y l1 h' → Sub led' l1 → SrcOk prog w A target h₀ L fx ws xs.length Pv I h' → (∀ p ∈ fx, p ∈ l1) → (∀ p ∈ Y ++ l1, p.1 ∉ ws.map (·.1)) → (ws.map (·.1)).Nodup →
      (∀ i v h l2, Sub l1 l2 → News h₀ L h l2 → Pv i v h → ∃ x, xs[i]? = some x ∧ IR x h l2 v) → Q (.ref I) { s with heap := h', toks := tk' }) →
    wpAny (model prog w) A (eval iter env) (fun xv s₁ => wpAny (model prog w) A (pyIter xv) Q E s₁) E s
noncomputable abbrev chr1 (c : Nat) : Str := ⟨#[c]⟩
section
variable {prog : Program} {w : World} {A : Around} {E : Value → Shared → Prop} {s : Shared} {h₀ : Heap} {L c : Addr} {m : Str → Option Value} {Y led : Lg} {env : Env} {α β : Type}
/-- zip of a list and a text -/
theorem it_zip {f e e2 : Expr} {elts : List Expr} {kk : Nat} {tpos pos : Pos} {R : α → Rp} {xs : List α} {y : Str} (hh : A.handled = none) (hf : Ev (model prog w) A h₀ L m Y env f led (EqR (.type "zip"))) (x : Ev (model prog w) A h₀ L m Y env e led (ListR R xs)) (x2 : Ev (model prog w) A h₀ L m Y env e2 led (StrR y)) (u : ∀ x, Up (R x))
    (ha : y.cps.all (· < 128) = true) (hn : y.cps.size = xs.length)
    (hc : eval (.Call f [e, e2] [] pos) env = (do callWith pos (← eval f env) [] (backTo pos (starEach [e, e2] env)) (backToKw pos (keywordEach [] env))) := by rfl)
    (he : starEach [e, e2] env = (false, eval e env) :: starEach [e2] env := by rfl) (he2 : starEach [e2] env = (false, eval e2 env) :: starEach [] env := by rfl) (hpl : (backTo pos (starEach [e2] env)).any (·.1) = false := by rfl) :
    ItZ prog w A h₀ L m Y env (.Call f [e, e2] [] pos) (.Tuple elts kk tpos) led (xs.zip (y.cps.toList.map chr1)) (PairIR R StrR) := by
  refine ItZ.mk fun s Q E at0 k => ?_
  refine Call_ ((hf led .rfl).go s _ _ at0 fun fv h1 t1 l1 at1 s1 r1 => ?_) hc
  cases r1
  refine callWith_type1 ((sp_cons x (sp_cons x2 sp_nil StrR.up he2) (ListR.up u) he l1 s1).go _ _ _ at1 fun vs h2 t2 l2 at2 s2 r2 => ?_) he hpl
  obtain ⟨v, v2, rfl, ⟨a, vs, n, rfl, hm, r⟩, ty, rfl⟩ := all2_two r2
  have hat := at2.stay _ hm
  have hT : h2.IsList a vs.toArray := at2.list hm
  have hlt : a < h2.objs.size := Heap.lt_size hat.1
  have hLs : L < h2.objs.size := at2.fr.ns.lt
  refine call_zs (s := { s with heap := h2, toks := t2 }) ha hT fun h' hz hTI hTO hI1 hI2 hsz hk => ?_
  refine wpAny_pyIter_zip hz ?_
  generalize hN : h2.objs.size = N at *
  have aN : ∀ k, a ≠ N + k := fun k e => by rw [e] at hlt; exact absurd (Nat.le_add_right N k) (Nat.not_le.mpr hlt)
  have nk : ∀ j k : Nat, j ≠ k → N + j ≠ N + k := fun j k h e => h (Nat.add_left_cancel e)
  have D : ZipApart (N + 4) (N + 2) (N + 3) N (N + 1) a a :=
    ⟨nk 2 4 (by decide), nk 3 4 (by decide), nk 0 4 (by decide), nk 1 4 (by decide), nk 2 3 (by decide), nk 2 0 (by decide), nk 2 1 (by decide), nk 3 0 (by decide), nk 3 1 (by decide), nk 0 1 (by decide), aN 4, aN 3, aN 0, aN 1, aN 4, aN 3, aN 0, aN 1⟩
  have hvx : vs.toArray.size = xs.length := by rw [List.size_toArray, ← r.length]
  have WK := zs_walk (prog := prog) (w := w) hh (N + 4) (N + 2) (N + 3) N (N + 1) a D vs.toArray y ty (by rw [hvx]; exact hn)
  have hlen : (xs.zip (y.cps.toList.map chr1)).length = xs.length := by simp; omega
  rw [hvx, ← hlen] at WK
  have K := KTurns.ofWalksU (elts := elts) (k := kk) (pos := tpos) WK
  have at3 : At h₀ L m Y l2 h' := at2.keeps' hk
  have oTI : (N + 2, ({ cls := .type "tuple", data := .seq #[.ref N, .ref (N + 1)] } : Obj)) ∈ [(N + 2, ({ cls := .type "tuple", data := .seq #[.ref N, .ref (N + 1)] } : Obj))] := .head _
  have hnew : ∀ k, h₀.get? (N + k) = none := fun k => by
    cases e : h₀.get? (N + k) with
    | none => rfl
    | some o => exact absurd (Heap.lt_size (at2.fr.keep _ o e)) (by rw [hN]; exact Nat.not_lt.mpr (Nat.le_add_right _ _))
  have hNL : ∀ k, L ≠ N + k := fun k e => by rw [e] at hLs; exact absurd (Nat.le_add_right N k) (Nat.not_le.mpr hLs)
  have newN : ∀ p ∈ Y ++ l2, ∀ k, p.1 ≠ N + k := fun p hp k e => by
    have := at2.lt p hp
    rw [hN, e] at this
    exact absurd (Nat.le_add_right N k) (Nat.not_le.mpr this)
  have at4 : At h₀ L m Y ((N + 2, ({ cls := .type "tuple", data := .seq #[.ref N, .ref (N + 1)] } : Obj)) :: l2) h' :=
    ⟨at3.fr, fun p hp => by
      rcases List.mem_append.mp hp with hp | hp
      · exact at3.ne p (List.mem_append_left _ hp)
      · rcases List.mem_cons.mp hp with rfl | hp
        · exact ⟨hTI, (hNL 2).symm, hnew 2⟩
        · exact at3.ne p (List.mem_append_right _ hp), at3.nd, fun p hp hq => by
      rcases List.mem_cons.mp hp with rfl | hp
      · obtain ⟨q, hq, e⟩ := List.mem_map.mp hq
        exact newN q (List.mem_append_left _ hq) 2 e
      · exact at3.off p hp hq⟩
  have S : SrcOk prog w A (.Tuple elts kk tpos) h₀ L [(N + 2, { cls := .type "tuple", data := .seq #[.ref N, .ref (N + 1)] }), (a, W.listOf vs.toArray n)] [(N + 4, "zip"), (N + 3, "tuple"), (N, "list_iterator"), (N + 1, "str_ascii_iterator")] (xs.zip (y.cps.toList.map chr1)).length (fun i v h => ∃ T vals, v = .ref T ∧ (∃ x cp t, vs.toArray[i]? = some x ∧ y.cps[i]? = some cp ∧ vals = #[x, .str ⟨#[cp]⟩ t]) ∧ h.IsTuple T vals) (N + 4) h' := by
    refine ⟨_, _, _, _, K, WK.self, ?_, fun b hb => by simpa using hb, ?_, ?_, ⟨hz, hTI, ⟨_, _, hTO⟩, hI1, hI2, ⟨_, hk _ _ hat.1, rfl, n, rfl⟩⟩, ?_, ?_⟩
    · rintro i h ⟨hz', hTI', ⟨p1, p2, hTO'⟩, ⟨o1, g1, c1, _⟩, ⟨o2, g2, c2, _⟩, hl'⟩
      obtain ⟨oz, gz, cz⟩ : ∃ o : Obj, h.get? (N + 4) = some o ∧ o.cls = .type "zip" := ⟨_, hz', rfl⟩
      obtain ⟨ot, gt, ct⟩ : ∃ o : Obj, h.get? (N + 3) = some o ∧ o.cls = .type "tuple" := ⟨_, hTO', rfl⟩
      refine ⟨[(N + 4, oz), (N + 3, ot), (N, o1), (N + 1, o2)], ⟨⟨rfl, cz⟩, ⟨rfl, ct⟩, ⟨rfl, c1⟩, ⟨rfl, c2⟩, trivial⟩, fun p hp => ?_⟩
      simp only [List.mem_cons, List.not_mem_nil, or_false] at hp
      rcases hp with rfl | rfl | rfl | rfl
      · exact gz
      · exact gt
      · exact g1
      · exact g2
    · intro b hb
      have hb' : b = N + 4 ∨ b = N + 3 ∨ b = N ∨ b = N + 1 := by simpa using hb
      rcases hb' with rfl | rfl | rfl | rfl
      · exact ⟨by simp, hnew 4, (hNL 4).symm⟩
      · exact ⟨by simp, hnew 3, (hNL 3).symm⟩
      · exact ⟨by simp, hnew 0, (hNL 0).symm⟩
      · exact ⟨by simp, hnew 1, (hNL 1).symm⟩
    · intro b hb
      have hb' : b = N + 4 ∨ b = N + 2 ∨ b = N + 3 ∨ b = N ∨ b = N + 1 ∨ b = a := by simpa using hb
      rcases hb' with rfl | rfl | rfl | rfl | rfl | rfl
      · exact .inl (by simp)
      · exact .inr (.inl ⟨_, .head _⟩)
      · exact .inl (by simp)
      · exact .inl (by simp)
      · exact .inl (by simp)
      · exact .inr (.inl ⟨_, .tail _ (.head _)⟩)
    · intro b hb
      rw [hsz]
      have hb' : b = N + 4 ∨ b = N + 2 ∨ b = N + 3 ∨ b = N ∨ b = N + 1 ∨ b = a := by simpa using hb
      rcases hb' with rfl | rfl | rfl | rfl | rfl | rfl
      · exact Nat.add_lt_add_left (by decide : 4 < 5) N
      · exact Nat.add_lt_add_left (by decide : 2 < 5) N
      · exact Nat.add_lt_add_left (by decide : 3 < 5) N
      · exact Nat.lt_add_of_pos_right (by decide)
      · exact Nat.add_lt_add_left (by decide : 1 < 5) N
      · exact Nat.lt_of_lt_of_le hlt (Nat.le_add_right _ _)
    · intro hI'
      have hb' : L = N + 4 ∨ L = N + 2 ∨ L = N + 3 ∨ L = N ∨ L = N + 1 ∨ L = a := by simpa using hI'
      rcases hb' with e | e | e | e | e | e
      · exact hNL 4 e
      · exact hNL 2 e
      · exact hNL 3 e
      · exact hNL 0 e
      · exact hNL 1 e
      · exact hat.2.1 e.symm
  refine k _ _ _ _ _ _ _ at4 (s1.trans (s2.trans .cons)) S (fun p hp => ?_) (fun p hp hq => ?_) ?_ fun i v h l3 s3 _ hv => ?_
  · simp only [List.mem_cons, List.not_mem_nil, or_false] at hp
    rcases hp with rfl | rfl
    · exact .head _
    · exact .tail _ hm
  · have hq' : p.1 = N + 4 ∨ p.1 = N + 3 ∨ p.1 = N ∨ p.1 = N + 1 := by simpa using hq
    have key : ∀ k, p.1 = N + k → k ≠ 2 → False := fun k e hk2 => by
      rcases List.mem_append.mp hp with hp | hp
      · exact newN p (List.mem_append_left _ hp) k e
      · rcases List.mem_cons.mp hp with rfl | hp
        · exact hk2 (Nat.add_left_cancel e).symm
        · exact newN p (List.mem_append_right _ hp) k e
    rcases hq' with e | e | e | e
    · exact key 4 e (by decide)
    · exact key 3 e (by decide)
    · exact key 0 e (by decide)
    · exact key 1 e (by decide)
  · simp
  · obtain ⟨T, vals, rfl, ⟨x0, cp, t, hx, hcp, rfl⟩, hT⟩ := hv
    obtain ⟨y0, hy0, ry⟩ := r.get' (by simpa using hx)
    refine ⟨(y0, chr1 cp), ?_, T, _, _, rfl, hT, u y0 _ _ _ (Sub.cons.trans s3) ry, t, rfl⟩
    rw [List.getElem?_zip_eq_some]
    refine ⟨hy0, ?_⟩
    rw [List.getElem?_map]
    simp [hcp]
end
end Mine
end
noncomputable section
open PySem PySem.W PyProof.Rows PySem.Calls
set_option maxRecDepth 100000
set_option maxHeartbeats 8000000
namespace Mine
open LCg
set_option linter.unusedVariables false

noncomputable def cellT (tab : List (List Int)) (r : Nat) (c : Int) : Int := (tab.getD r []).getD c.toNat 0
noncomputable def prodF (tab : List (List Int)) : Nat → List Int → Int → Int
  | _, [], acc => acc
  | r, c :: cs, acc => prodF tab (r + 1) cs (acc * cellT tab r c)
theorem prodF_snoc (tab : List (List Int)) : ∀ (r : Nat) (cs : List Int) (c acc : Int), prodF tab r (cs ++ [c]) acc = prodF tab r cs acc * cellT tab (r + cs.length) c
  | _, [], _, _ => rfl
  | r, d :: cs, c, acc => by
    show prodF tab (r + 1) (cs ++ [c]) _ = prodF tab (r + 1) cs _ * _
    rw [prodF_snoc tab (r + 1) cs c, List.length_cons, show r + 1 + cs.length = r + (cs.length + 1) from by omega]
noncomputable def cornerF (tab : List (List Int)) : List (List Int × Int) → Int → Int
  | [], acc => acc
  | o :: os, acc => cornerF tab os (acc + prodF tab 0 o.1 o.2)
theorem cornerF_snoc (tab : List (List Int)) : ∀ (os : List (List Int × Int)) (o : List Int × Int) (acc : Int), cornerF tab (os ++ [o]) acc = cornerF tab os acc + prodF tab 0 o.1 o.2
  | [], _, _ => rfl
  | d :: os, o, acc => cornerF_snoc tab os o _
theorem take_snoc {α : Type} {xs : List α} {i : Nat} {x : α} (h : xs[i]? = some x) : xs.take (i + 1) = xs.take i ++ [x] := by
  rw [List.take_add_one, h]; rfl
noncomputable abbrev SgR : List (List (List Int × Int)) → Rp := ListR (ListR (PairR (ListR IntR) IntR))
noncomputable abbrev TabR : List (List Int) → Rp := ListR (ListR IntR)
theorem listI_up (x : List Int) : Up (ListR IntR x) := ListR.up fun _ => IntR.up
theorem ordR_up (x : List Int × Int) : Up (PairR (ListR IntR) IntR x) := PairR.up listI_up (fun _ => IntR.up) x
theorem ordsR_up (x : List (List Int × Int)) : Up (ListR (PairR (ListR IntR) IntR) x) := ListR.up ordR_up
theorem tabR_up (x : List (List Int)) : Up (TabR x) := ListR.up listI_up
theorem sgR_up (x : List (List (List Int × Int))) : Up (SgR x) := ListR.up ordsR_up
theorem corners (w : World) (mean : ExcName → Option Value) (mg mb : Str → Option Value) (news : List (Addr × Obj)) (va vb : Value) (tab : List (List Int)) (sg : List (List (List Int × Int))) (ha : TabR tab news va) (hb : SgR sg news vb)
  (hz : ∀ r ∈ tab, r.length ≤ 100) (ht : ∀ r c, -2 ^ 64 < cellT tab r c ∧ cellT tab r c < 2 ^ 64) (ho : ∀ os ∈ sg, ∀ o ∈ os, ∀ (i : Nat) (c : Int), o.1[i]? = some c → ∃ row : List Int, tab[i]? = some row ∧ 0 ≤ c ∧ c < row.length) (hs1 : sg.length ≤ 100) (hs2 : ∀ os ∈ sg, os.length ≤ 100) (hs3 : ∀ os ∈ sg, ∀ o ∈ os, o.1.length ≤ 100) (hs4 : tab.length ≤ 100) :
  SpecN 10 80 w mean mg mb 147 news [va, vb] (fun r tl => ∃ D vs n, r = .ref D ∧ tl = [(D, W.listOf vs.toArray n)] ∧ All2 (fun i v => IntR i [] v) (sg.map fun os => cornerF tab os 0) vs) := by
  w_top off
  k_with_none
  k_with "omega" => with_reducible first | assumption | exact Nat.le_refl _ | exact Nat.le_of_lt (by assumption) | exact Ne.symm (by assumption) | exact Nat.ne_of_gt (by assumption) | exact Nat.ne_of_lt (by assumption) | exact Int.le_add_one (by assumption) | exact cast_up (by assumption) | exact cast_le (by assumption) | exact Nat.le_trans (by assumption) (by decide) | exact Nat.lt_of_le_of_lt (by assumption) (by decide) | exact Nat.lt_of_lt_of_le (by assumption) (by decide) | (refine Nat.le_trans ?_ (by assumption); decide) | exact Nat.lt_trans (by assumption) (by assumption) | (rename (_ ∧ _) => hx; first | exact hx.1 | exact hx.2.1 | exact hx.2.2.1 | exact hx.2.2.2.1 | exact hx.2.2.2.2.1 | exact hx.2.2.2.2.2.1 | exact hx.2.2.2.2.2.2.1 | exact Nat.ne_of_gt hx.1 | exact Nat.ne_of_gt hx.2.1 | exact Nat.ne_of_gt hx.2.2.1 | exact Nat.ne_of_gt hx.2.2.2.1 | exact Nat.ne_of_gt hx.2.2.2.2.1 | exact Nat.ne_of_gt hx.2.2.2.2.2.1 | exact Nat.ne_of_gt hx.2.2.2.2.2.2.1 | exact Nat.le_of_lt hx.1 | exact Nat.le_of_lt hx.2.1 | exact Nat.le_of_lt hx.2.2.1 | exact Nat.le_of_lt hx.2.2.2.1 | fail) | fail
  unfold SpecN
  k_fill
  intros; rename_i hret
  refine wpAny_call ?_
  k_dflt cell_enter
  rename_i g1 L1 h1 FG1 F1 N1 B1 X1 T1
  with_reducible refine Wp.h ?_
  refine with_cxA (kd := 9) (ku := 70) B1 X1 T1 rfl (by ktr_room) (by ktr_units) PassesOwn.leaving fun A ek' hE c => ?_
  have at0 : At g1 L1 _ [] news h1 := ⟨F1, N1, List.nodup_nil, fun p hp h => nomatch h⟩
  refine ex_cons (ex_new at0 fun D h2 tk2 at2 => ?_)
  obtain ⟨m2, at2, f1, f2, f3⟩ := at2.names (fun m => m "table" = some va ∧ m "signed" = some vb ∧ m "corners" = some (.ref D)) ⟨rfl, rfl, rfl⟩
  clear at0 F1 N1
  dsimp only
  refine ex_cons (ex_for at2 (it_ofList c.hh (nm_loc (sgR_up sg) f2 hb) ordsR_up) (fun i m' Y' led' => (m' "table" = some va ∧ m' "signed" = some vb ∧ m' "corners" = some (.ref D)) ∧ ∃ vs, Y' = [(D, lst vs)] ∧ All2 (fun i v => IntR i [] v) ((sg.take i).map fun os => cornerF tab os 0) vs)
    (fun led' hl => ⟨⟨f1, f2, f3⟩, [], rfl, .nil⟩) ?turn ?done)
  case done =>
    rintro m' Y' led' h' tk' hl hmap ⟨⟨e1, e2, e3⟩, vs, rfl, hvs⟩ at3
    dsimp only
    refine ex_cons (ex_ret at3 (nm_loc EqR.up e3 rfl) fun v h' tk' led2 at4 s4 r4 => ?_)
    cases r4
    refine ret_K at4 fun F N => ?_
    refine hret _ [(D, lst vs)] _ _ F (fun p hp => N p ?_) ⟨D, vs, _, rfl, rfl, ?_⟩
    · rcases List.mem_append.mp hp with hp | hp
      · exact List.mem_append_left _ hp
      · exact List.mem_append_right _ (s4 _ (hl _ hp))
    · rwa [List.take_of_length_le (Nat.le_refl _)] at hvs
  case turn =>
    rintro i os its m₁ Y₁ led₁ v h3 tk3 hx hl hmap ⟨⟨e1, e2, e3⟩, vs, rfl, hvs⟩ hcl at3 hir
    have hos := List.mem_of_getElem? hx
    refine tg_loc at3 fun h4 at4 => hideT at4 fun Qa sa at4 ka hQa => ?_
    refine ex_cons (ex_loc at4 ev_int fun v5 h5 tk5 led5 at5 s5 r5 => ?_)
    obtain ⟨t5, rfl⟩ := r5
    obtain ⟨m5, at5, ⟨f1, f2, f3⟩, f4, f5⟩ := at5.names (fun m => (m "table" = some va ∧ m "signed" = some vb ∧ m "corners" = some (.ref D)) ∧ m "corner" = some (.int 0 t5) ∧ m "orders" = some v) ⟨⟨e1, e2, e3⟩, rfl, rfl⟩
    dsimp only
    refine ex_cons (ex_for at5 (it_pairs (it_ofList c.hh (nm_loc (ordsR_up os) f5 (ordsR_up os _ _ _ s5 hir)) ordR_up)) (fun j m' Y' led' => (m' "table" = some va ∧ m' "signed" = some vb ∧ m' "corners" = some (.ref D)) ∧ ∃ t, m' "corner" = some (.int (cornerF tab (os.take j) 0) t) ∧ Y' = its ++ [(D, lst vs)])
      (fun led' hl => ⟨⟨f1, f2, f3⟩, t5, f4, rfl⟩) ?turn2 ?done2)
    case done2 =>
      rintro m' Y' led' h6 tk6 hl2 hmap2 ⟨⟨e1, e2, e3⟩, t, e4, rfl⟩ at6
      dsimp only
      rw [List.take_of_length_le (Nat.le_refl _)] at e4
      refine ex_cons (ex_append at6 (List.mem_append_right _ (.head _)) (nm_loc EqR.up e3 rfl) (nm_loc IntR.up e4 ⟨t, rfl⟩) IntR.up ?_ fun v7 h7 tk7 led7 Y7 hY at7 s7 r7 => ?_)
      · have h1 := hvs.length
        rw [List.length_map, List.length_take] at h1
        have h2 : (100 : Nat) ≤ sizeLine := by decide
        omega
      · obtain ⟨Y8, rfl, hY8⟩ := hY.under (at6.apart (.head _))
        refine ex_nil (hQa _ _ ?_)
        refine ⟨m', Y8, led7, ka, at7, s5.trans (hl2.trans s7), hY8.map.trans (by simp), ⟨e1, e2, e3⟩, vs ++ [v7], ?_, ?_⟩
        · obtain ⟨Y1, o, Y2, q1, q2⟩ := hY8
          cases Y1 with
          | nil => rw [q2, ← (List.cons.inj q1).2]; rfl
          | cons p Y1 => exact absurd (congrArg List.length q1) (by simp)
        · rw [take_snoc hx, List.map_append]
          exact hvs.app (.cons r7 .nil)
    case turn2 =>
      rintro j o its2 m₂ Y₂ led₂ v6 h6 tk6 hx2 hl2 hmap2 ⟨⟨e1, e2, e3⟩, t, e4, rfl⟩ hcl2 at6 hir2
      have hom := List.mem_of_getElem? hx2
      obtain ⟨T, va2, vb2, rfl, hT, ra, rb⟩ := hir2
      refine tg_pr c.hh at6 hT fun h7 tk7 at7 => hideT at7 fun Qb sb at7 kb hQb => ?_
      obtain ⟨tb, rfl⟩ := rb
      refine ex_cons (ex_loc at7 (nm_loc IntR.up (by rfl) ⟨tb, rfl⟩) fun v8 h8 tk8 led8 at8 s8 r8 => ?_)
      obtain ⟨t8, rfl⟩ := r8
      obtain ⟨m8, at8, ⟨f1, f2, f3⟩, f4, f5, f6⟩ := at8.names (fun m => (m "table" = some va ∧ m "signed" = some vb ∧ m "corners" = some (.ref D)) ∧ m "corner" = some (.int (cornerF tab (os.take j) 0) t) ∧ m "order" = some va2 ∧ m "worth" = some (.int o.2 t8)) ⟨⟨e1, e2, e3⟩, e4, rfl, rfl⟩
      dsimp only
      refine ex_cons (ex_for at8 (it_enumE c.hh (nm_built c (by k_is) (by boot_by_name)) (nm_loc (listI_up o.1) f5 (listI_up _ _ _ _ s8 ra)) (fun _ => IntR.up)) (fun k m' Y' led' => (m' "table" = some va ∧ m' "signed" = some vb ∧ m' "corners" = some (.ref D)) ∧ m' "corner" = some (.int (cornerF tab (os.take j) 0) t) ∧ (∃ t, m' "worth" = some (.int (prodF tab 0 (o.1.take k) o.2) t)) ∧ Y' = its2 ++ (its ++ [(D, lst vs)]))
        (fun led' hl => ⟨⟨f1, f2, f3⟩, f4, ⟨t8, f6⟩, rfl⟩) ?turn3 ?done3)
      case done3 =>
        rintro m' Y' led' h9 tk9 hl9 hmap9 ⟨⟨e1, e2, e3⟩, e4, ⟨tw, e5⟩, rfl⟩ at9
        dsimp only
        rw [enumL_len, List.take_of_length_le (Nat.le_refl _)] at e5
        refine ex_cons (ex_loc at9 (ev_add (nm_loc IntR.up e4 ⟨_, rfl⟩) (nm_loc IntR.up e5 ⟨_, rfl⟩)) fun v10 h10 tk10 led10 at10 s10 r10 => ?_)
        obtain ⟨t10, rfl⟩ := r10
        refine ex_nil (hQb _ _ ?_)
        refine ⟨_, its ++ [(D, lst vs)], led10, kb, at10, s8.trans (hl9.trans s10), by simp, ⟨e1, e2, e3⟩, t10, ?_, rfl⟩
        rw [take_snoc hx2, cornerF_snoc]
        rfl
      case turn3 =>
        rintro k ⟨rw0, cl0⟩ its3 m₃ Y₃ led₃ v9 h9 tk9 hx3 hl3 hmap3 ⟨⟨e1, e2, e3⟩, e4, ⟨tw, e5⟩, rfl⟩ hcl3 at9 hir3
        obtain ⟨T, va3, vb3, rfl, hT, ⟨t1, rfl⟩, ⟨t2, rfl⟩⟩ := hir3
        obtain ⟨q1, q2⟩ := enumL_inv hx3
        dsimp only at q1 q2 hT
        subst q1
        obtain ⟨row, hrow, hc0, hc1⟩ := ho os hos o hom k cl0 q2
        have hkl : k < 100 := Nat.lt_of_lt_of_le (List.getElem?_eq_some_iff.mp q2).1 (hs3 os hos o hom)
        have hrl := hz row (List.mem_of_getElem? hrow)
        have hcell : row[cl0.toNat]? = some (cellT tab k cl0) := by
          unfold cellT
          rw [List.getD_eq_getElem?_getD, List.getD_eq_getElem?_getD, hrow, Option.getD_some, List.getElem?_eq_getElem (by omega)]
          rfl
        refine tg_pr c.hh at9 hT fun h10 tk10 at10 => hideT at10 fun Qc sc at10 kc hQc => ?_
        obtain ⟨hb1, hb2⟩ := ht k cl0
        refine ex_cons (ex_loc at10 (ev_mul (nm_loc IntR.up e5 ⟨_, rfl⟩) (ev_item (fun _ => IntR.up) (ev_item listI_up (nm_loc (tabR_up tab) e1 (tabR_up tab _ _ _ (fun p hp => hl3 _ (s8 _ (hl2 _ (s5 _ (hl _ hp))))) ha)) (nm_loc IntR.up (by rfl) ⟨t1, rfl⟩) (by omega) (by simpa using hrow) (by omega)) (nm_loc IntR.up (by rfl) ⟨t2, rfl⟩) hc0 hcell (by omega)) (IntMulOk.of_right (intBits_le_64 hb1 hb2))) fun v11 h11 tk11 led11 at11 s11 r11 => ?_)
        obtain ⟨t11, rfl⟩ := r11
        refine ex_nil (hQc _ _ ?_)
        refine ⟨_, its2 ++ (its ++ [(D, lst vs)]), led11, kc, at11, s11, rfl, ⟨e1, e2, e3⟩, e4, ⟨t11, ?_⟩, rfl⟩
        rw [take_snoc q2, prodF_snoc]
        have : 0 + (o.1.take k).length = k := by
          rw [List.length_take]
          have := (List.getElem?_eq_some_iff.mp q2).1
          omega
        rw [this]
        rfl
end Mine
end
noncomputable section
open PySem PySem.W PyProof.Rows PySem.Calls
set_option maxRecDepth 100000
set_option maxHeartbeats 8000000
namespace Mine
set_option linter.unusedVariables false
open LCg
noncomputable def chl (is : List Int) : Nat → List (List Int)
  | 0 => [[0]]
  | i + 1 => chl is i ++ [((i : Int) + 1) :: (chl is i).getD (is.getD (i + 1) 0).toNat []]
theorem chl_len (is : List Int) : ∀ i, (chl is i).length = i + 1
  | 0 => rfl
  | i + 1 => by rw [chl, List.length_append, chl_len is i]; rfl
theorem chl_each (is : List Int) : ∀ i, ∀ x ∈ chl is i, x.length ≤ i + 1
  | 0, x, h => by rw [List.mem_singleton.mp h]; exact Nat.le_refl _
  | i + 1, x, h => by
    have ih := chl_each is i
    rcases List.mem_append.mp h with h | h
    · exact Nat.le_succ_of_le (ih x h)
    · rw [List.mem_singleton.mp h, List.getD_eq_getElem?_getD, List.length_cons]
      cases e : (chl is i)[(is.getD (i + 1) 0).toNat]? with
      | none => exact Nat.succ_le_succ (Nat.zero_le _)
      | some y => exact Nat.succ_le_succ (ih y (List.mem_of_getElem? e))
section
variable {prog : Program} {w : World} {A : Around} {E : Value → Shared → Prop} {s : Shared} {h₀ : Heap} {L : Addr} {m : Str → Option Value} {Y led : Lg} {env : Env} {R : Rp} {x : Str} {px pos : Pos} {l r e : Expr} {a : Int}
/-- a new list of one that turns over -/
theorem ex_new1 {lp : Pos} {Q : Flow → Shared → Prop} (at0 : At h₀ L m Y led s.heap) (b : Ev (model prog w) A h₀ L m Y env e led R)
    (k : ∀ D v h' tk' led', At h₀ L (fun z => if z = x then some (.ref D) else m z) ((D, W.listOf #[v] 0) :: Y) led' h' → Sub led led' → R led' v → Q .next { s with heap := h', toks := tk' })
    (hL : env.locals = L := by rfl) (hx : env.kindOf x = some .local := by rfl) (hp : (env.scope.kind == .class || (env.scope.kind == .module && env.locals != env.globals)) = false := by rfl)
    (hsw : swapsWith (.List [e] lp) (some (.Name x px)) pos.line env = pure false := by rfl) (e1 : starEach [e] env = (false, eval e env) :: starEach [] env := by rfl) : Wp (model prog w) A (exec (.Assign [.Name x px] (.List [e] lp) pos) env) Q E s := Wp.mk <|
  wpAny_Assign_Name (List_ (spliced_more ((b led .rfl).go _ _ _ at0 fun v h1 t1 l1 at1 s1 r1 => spliced_none (newList_K at1.fr at1.ne (fun D h' F N hlt => store_loc (at1.new F N hlt) hL hx hp fun h2 at2 => k D v h2 _ l1 at2 s1 r1) (Nat.le_of_ble_eq_true rfl))) e1)) hsw
/-- an item of a list that turns over -/
theorem ev_itemY {D : Addr} {ys : List Value} {n : Nat} {v : Value} (hD : (D, W.listOf ys.toArray n) ∈ Y) (p : Ev (model prog w) A h₀ L m Y env l led (EqR (.ref D))) (q : Ev (model prog w) A h₀ L m Y env r led (IntR a)) (h0 : 0 ≤ a) (hv : ys[a.toNat]? = some v) (hz : a < 2 ^ 63) (u : Up R) (hr : R led v)
    (hs : ∀ o i, subscripted r false o i = operate [o, i] (getItem o i) := by intro _ _; rfl) : Ev (model prog w) A h₀ L m Y env (.Subscript l r pos) led R := fun l0 hl0 =>
  ev_sub (R3 := R) (fun l1 h1 => p l1 (hl0.trans h1)) (fun l1 h1 => q l1 (hl0.trans h1)) EqR.up (fun l1 _ _ hl1 e1 ⟨t, e2⟩ => by
    subst e1 e2
    refine Ws.mk fun s Q E at0 k => ?_
    have hl := (at0.y _ hD)
    exact tail_any (Heap.IsList.typeIs ⟨_, hl.1, rfl, _, rfl⟩) slot_list_getitem.lookup (wpAny_getItem_list ⟨_, hl.1, rfl, _, rfl⟩ h0 hz (by simpa using hv) (k v _ _ _ at0 .rfl (u _ _ _ (hl0.trans hl1) hr))) (hs _ _)) l0 .rfl
end
theorem ups_at {u2 u3 : Int} (h2 : u2 = 0 ∨ u2 = 1) (h3 : u3 = 0 ∨ u3 = 1 ∨ u3 = 2) : ∀ i : Nat, i < 3 → ∃ a : Int, [0, 0, u2, u3][i + 1]? = some a ∧ 0 ≤ a ∧ a ≤ i
  | 0, _ => ⟨_, rfl, by decide, by decide⟩
  | 1, _ => ⟨_, rfl, by rcases h2 with rfl | rfl <;> decide, by rcases h2 with rfl | rfl <;> decide⟩
  | 2, _ => ⟨_, rfl, by rcases h3 with rfl | rfl | rfl <;> decide, by rcases h3 with rfl | rfl | rfl <;> decide⟩
theorem chains (w : World) (mean : ExcName → Option Value) (mg mb : Str → Option Value) (news : List (Addr × Obj)) (va : Value) (u2 u3 : Int) (ha : ListR IntR [0, 0, u2, u3] news va) (h2 : u2 = 0 ∨ u2 = 1) (h3 : u3 = 0 ∨ u3 = 1 ∨ u3 = 2) :
  SpecN 10 80 w mean mg mb 161 news [va] (fun r tl => (∀ p ∈ tl, isSq p.2 = true) ∧ TabR (chl [0, 0, u2, u3] 3) tl r) := by
  have hu := ups_at h2 h3
  generalize [0, 0, u2, u3] = us at *
  w_top off
  k_with_none
  k_with "omega" => with_reducible first | assumption | exact Nat.le_refl _ | exact Nat.le_of_lt (by assumption) | exact Ne.symm (by assumption) | exact Nat.ne_of_gt (by assumption) | exact Nat.ne_of_lt (by assumption) | exact Int.le_add_one (by assumption) | exact cast_up (by assumption) | exact cast_le (by assumption) | exact Nat.le_trans (by assumption) (by decide) | exact Nat.lt_of_le_of_lt (by assumption) (by decide) | exact Nat.lt_of_lt_of_le (by assumption) (by decide) | (refine Nat.le_trans ?_ (by assumption); decide) | exact Nat.lt_trans (by assumption) (by assumption) | (rename (_ ∧ _) => hx; first | exact hx.1 | exact hx.2.1 | exact hx.2.2.1 | exact hx.2.2.2.1 | exact hx.2.2.2.2.1 | exact hx.2.2.2.2.2.1 | exact hx.2.2.2.2.2.2.1 | exact Nat.ne_of_gt hx.1 | exact Nat.ne_of_gt hx.2.1 | exact Nat.ne_of_gt hx.2.2.1 | exact Nat.ne_of_gt hx.2.2.2.1 | exact Nat.ne_of_gt hx.2.2.2.2.1 | exact Nat.ne_of_gt hx.2.2.2.2.2.1 | exact Nat.ne_of_gt hx.2.2.2.2.2.2.1 | exact Nat.le_of_lt hx.1 | exact Nat.le_of_lt hx.2.1 | exact Nat.le_of_lt hx.2.2.1 | exact Nat.le_of_lt hx.2.2.2.1 | fail) | fail
  unfold SpecN
  k_fill
  intros; rename_i hret
  refine wpAny_call ?_
  k_dflt cell_enter
  rename_i g1 L1 h1 FG1 F1 N1 B1 X1 T1
  with_reducible refine Wp.h ?_
  refine with_cxA (kd := 9) (ku := 70) B1 X1 T1 rfl (by ktr_room) (by ktr_units) PassesOwn.leaving fun A ek' hE c => ?_
  have at0 : At g1 L1 _ [] news h1 := ⟨F1, N1, List.nodup_nil, fun p hp h => nomatch h⟩
  refine ex_cons (ex_new1 at0 (ev_list (xs := [0]) (sp_cons ev_int sp_nil IntR.up) (fun _ => IntR.up)) fun D v2 h2 tk2 led2 at2 s2 r2 => ?_)
  obtain ⟨m2, at2, f1, f2⟩ := at2.names (fun m => m "ups" = some va ∧ m "chains" = some (.ref D)) ⟨rfl, rfl⟩
  clear at0 F1 N1
  dsimp only
  refine ex_cons (ex_for at2 (it_ofRange c.hh (ev_range2 (nm_built c (by k_is) (by boot_by_name)) ev_int ev_int) (n := 3) (by decide) (by decide)) (fun i m' Y' led' => (m' "ups" = some va ∧ m' "chains" = some (.ref D)) ∧ ∃ vs n, Y' = [(D, W.listOf vs.toArray n)] ∧ All2 (fun xs v => ListR IntR xs led' v) (chl us i) vs)
    (fun led' hl => ⟨⟨f1, f2⟩, [v2], 0, rfl, .cons (listI_up _ _ _ _ hl r2) .nil⟩) ?turn ?done)
  case done =>
    rintro m' Y' led' h' tk' hl hmap ⟨⟨e1, e2⟩, vs, n, rfl, hvs⟩ at3
    dsimp only
    refine ex_cons (ex_ret at3 (nm_loc EqR.up e2 rfl) fun v h' tk' led3 at4 s4 r4 => ?_)
    cases r4
    refine ret_K at4 fun F N => ?_
    refine hret _ ((D, W.listOf vs.toArray n) :: sq led3) _ _ F (fun p hp => N p ?_) ⟨fun p hp => ?_, D, vs, _, rfl, .head _, ?_⟩
    · rcases List.mem_append.mp hp with hp | hp
      · rcases List.mem_cons.mp hp with rfl | hp
        · exact .head _
        · exact .tail _ (sq_sub _ hp)
      · exact .tail _ (s4 _ (hl _ (s2 _ hp)))
    · rcases List.mem_cons.mp hp with rfl | hp
      · rfl
      · exact sq_all _ hp
    · exact hvs.mono fun os v h => listI_up _ _ _ _ .cons ((ListR.sq (fun _ => IntR.sq) _) _ _ (listI_up _ _ _ _ s4 h))
  case turn =>
    rintro i x its m₁ Y₁ led₁ v h3 tk3 hx hl hmap ⟨⟨e1, e2⟩, vs, n, rfl, hvs⟩ hcl at3 hir
    have hi3 : i < 3 := by simpa using (List.getElem?_eq_some_iff.mp hx).1
    obtain rfl : x = 1 + (i : Int) := by
      rw [List.getElem?_map, List.getElem?_range hi3] at hx
      exact (Option.some.inj hx).symm
    obtain ⟨tx, rfl⟩ := hir
    obtain ⟨a, ha1, ha2, ha3⟩ := hu i hi3
    have ec : (1 + (i : Int)) = ((i + 1 : Nat) : Int) := Int.add_comm _ _
    have hal : a.toNat < (chl us i).length := by rw [chl_len]; omega
    obtain ⟨va2, hva, ra⟩ := hvs.get (List.getElem?_eq_getElem hal)
    refine tg_loc at3 fun h4 at4 => hideT at4 fun Qa sa at4 ka hQa => ?_
    refine ex_cons (ex_appendN at4 (List.mem_append_right _ (.head _)) (nm_loc EqR.up e2 rfl) (ev_join (fun _ => IntR.up) (ev_list (R := IntR) (xs := [1 + (i : Int)]) (sp_cons (nm_loc IntR.up (by rfl) ⟨tx, rfl⟩) sp_nil IntR.up) (fun _ => IntR.up))
      (ev_itemY (List.mem_append_right _ (.head _)) (nm_loc EqR.up e2 rfl) (ev_item (fun _ => IntR.up) (nm_loc (listI_up us) e1 (listI_up _ _ _ _ (fun p hp => hl _ (s2 _ hp)) ha)) (nm_loc IntR.up (by rfl) ⟨tx, rfl⟩) (by omega) (by rw [ec]; exact ha1) (by omega)) ha2 hva (by omega) (listI_up _) ra) ?len) (listI_up _) ?size fun v7 h7 tk7 led7 Y7 hY at7 s7 r7 => ?_)
    case size =>
      rw [← hvs.length, chl_len]
      exact Nat.le_trans (Nat.succ_le_succ (Nat.le_of_lt hi3)) (by decide)
    case len => exact Nat.le_trans (Nat.add_le_add_left (chl_each us i _ (List.getElem_mem hal)) 1) (Nat.le_trans (Nat.add_le_add_left (Nat.le_of_lt (Nat.succ_lt_succ hi3)) 1) (by decide))
    obtain ⟨Y8, rfl, hY8⟩ := hY.under (at4.apart (.head _))
    refine ex_nil (hQa _ _ ?_)
    refine ⟨_, Y8, led7, ka, at7, s7, hY8.map.trans (by simp), ⟨e1, e2⟩, vs ++ [v7], n + 1, ?_, ?_⟩
    · obtain ⟨Y1, o, Y2, q1, q2⟩ := hY8
      cases Y1 with
      | nil => rw [q2, ← (List.cons.inj q1).2]; rfl
      | cons p Y1 => exact absurd (congrArg List.length q1) (by simp)
    · refine (hvs.mono fun os v h => listI_up _ _ _ _ s7 h).app (.cons ?_ .nil)
      have e9 : [1 + (i : Int)] ++ (chl us i)[a.toNat] = ((i : Int) + 1) :: (chl us i).getD (us.getD (i + 1) 0).toNat [] := by
        rw [List.getD_eq_getElem?_getD, List.getD_eq_getElem?_getD, ha1, Option.getD_some, List.getElem?_eq_getElem hal, Int.add_comm]
        rfl
      exact e9 ▸ r7
end Mine
end
noncomputable section
open PySem PySem.W PyProof.Rows PySem.Calls
set_option maxRecDepth 100000
set_option maxHeartbeats 8000000
namespace Mine
set_option linter.unusedVariables false
open LCg
noncomputable def fS (k : Int) (x : List Int × Int) (z : Int) : List Int × Int := (x.1.take z.toNat ++ [k] ++ x.1.drop z.toNat, x.2 * (-1) ^ (k - z).toNat)
noncomputable def placesS (k : Nat) : List Int := (List.range (k + 1)).map fun i : Nat => 0 + (i : Int)
noncomputable def ordersAt : Nat → List (List Int × Int)
  | 0 => [([], 1)]
  | k + 1 => (ordersAt k).flatMap fun x => (placesS k).map (fS k x)
noncomputable def toldS (k : Nat) : List (List (List Int × Int)) := (List.range k).map fun i => ordersAt (i + 1)
theorem orders_len : ∀ k, k < 4 → ∀ x ∈ ordersAt k, x.1.length ≤ 4 := by decide
theorem orders_num : ∀ k, k < 4 → ((ordersAt k).flatMap fun x => (placesS k).map (fS k x)).length ≤ 24 := by decide
theorem pow_small (n : Nat) : -2 ^ 64 < (-1 : Int) ^ n ∧ (-1 : Int) ^ n < 2 ^ 64 := by
  have h : (-1 : Int) ^ n = 1 ∨ (-1 : Int) ^ n = -1 := by
    induction n with
    | zero => exact .inl rfl
    | succ n ih => rcases ih with h | h <;> simp [Int.pow_succ, h]
  rcases h with h | h <;> rw [h] <;> decide
theorem sgn (w : World) (mean : ExcName → Option Value) (mg mb : Str → Option Value) (news : List (Addr × Obj)) :
  SpecN 10 80 w mean mg mb 140 news [] (fun r tl => (∀ p ∈ tl, isSq p.2 = true) ∧ SgR (toldS 4) tl r) := by
  w_top off
  k_with_none
  k_with "omega" => with_reducible first | assumption | exact Nat.le_refl _ | exact Nat.le_of_lt (by assumption) | exact Ne.symm (by assumption) | exact Nat.ne_of_gt (by assumption) | exact Nat.ne_of_lt (by assumption) | exact Int.le_add_one (by assumption) | exact cast_up (by assumption) | exact cast_le (by assumption) | exact Nat.le_trans (by assumption) (by decide) | exact Nat.lt_of_le_of_lt (by assumption) (by decide) | exact Nat.lt_of_lt_of_le (by assumption) (by decide) | (refine Nat.le_trans ?_ (by assumption); decide) | exact Nat.lt_trans (by assumption) (by assumption) | (rename (_ ∧ _) => hx; first | exact hx.1 | exact hx.2.1 | exact hx.2.2.1 | exact hx.2.2.2.1 | exact hx.2.2.2.2.1 | exact hx.2.2.2.2.2.1 | exact hx.2.2.2.2.2.2.1 | exact Nat.ne_of_gt hx.1 | exact Nat.ne_of_gt hx.2.1 | exact Nat.ne_of_gt hx.2.2.1 | exact Nat.ne_of_gt hx.2.2.2.1 | exact Nat.ne_of_gt hx.2.2.2.2.1 | exact Nat.ne_of_gt hx.2.2.2.2.2.1 | exact Nat.ne_of_gt hx.2.2.2.2.2.2.1 | exact Nat.le_of_lt hx.1 | exact Nat.le_of_lt hx.2.1 | exact Nat.le_of_lt hx.2.2.1 | exact Nat.le_of_lt hx.2.2.2.1 | fail) | fail
  unfold SpecN
  k_fill
  intros; rename_i hret
  refine wpAny_call ?_
  k_dflt (refine' code_defC ?k1 ?k2 ?k3 ?k4 ?k5 ?kA ?kF ?kK ?k6 ?k7 ?k8 ?k9 ?kB ?kD ?_ ?c2 ?c3 ?c4; (case kA => exact rfl); (case kF => exact rfl); (case kK => assumption); (case k1 => k_asm); (case k2 => k_asm); (case k3 => k_asm); (case k4 => k_asm); (case k5 => k_asm); (case k6 => k_is); (case k7 => k_is); (case k8 => ktr_room); (case k9 => exact BindsTo.of_eq rfl); (case kB => exact rfl); (case kD => decide +kernel); (case c2 => exact rfl); (case c3 => exact rfl); (case c4 => exact rfl); k_whole; intro g1 L1 h1 tk1 cells1 FG1 F1 N1 Y1 B1 X1 T1 l1; (try dsimp only); (try k_lift B1); (try k_fold))
  with_reducible refine Wp.h ?_
  refine with_cxC (kd := 9) (ku := 70) B1 X1 T1 rfl (by rename _ + 10 < recursionLimit => hd8; omega) (by rename _ + 80 < cLine => hu8; omega) fun c => ?_
  have hcl : HasCell cells1 (L1 + 1) := cells_has Y1 (y := "count") rfl
  have at0 : At g1 L1 _ cells1 news h1 := at_cells F1 N1 Y1 l1 (by show [L1 + 1].Nodup; simp) (by intro c hc; obtain rfl := List.mem_singleton.mp hc; exact Nat.lt_succ_self _)
  have pl := cells_plain Y1
  clear Y1 N1 F1
  refine ex_cons (ex_twoNew c.hh at0 (R' := ListR (PairR (ListR IntR) IntR) (ordersAt 0)) (fun D => ev_list (sp_cons (ev_tup (sp_cons (ev_list (R := IntR) (xs := []) sp_nil (fun _ => IntR.up)) (sp_cons ev_int sp_nil IntR.up) (listI_up [])) (ups_cons (listI_up []) (ups_cons IntR.up ups_nil))) sp_nil (ordR_up _)) ordR_up) (fun D v' h2 tk2 led2 at2 s2 r2 => ?_) (ordsR_up _))
  obtain ⟨m2, at2, f1, f2⟩ := at2.names (fun m => m "told" = some (.ref D) ∧ m "orders" = some v') ⟨rfl, rfl⟩
  dsimp only
  refine ex_cons (ex_for at2 (it_ofRange c.hh (ev_range1 (nm_built c (by k_is) (by boot_by_name)) ev_int) (n := 4) (by decide) (by decide))
    (fun i m' Y' led' => m' "told" = some (.ref D) ∧ ∃ vo vs cs, m' "orders" = some vo ∧ ListR (PairR (ListR IntR) IntR) (ordersAt i) led' vo ∧ Y' = (D, lst vs) :: cs ∧ HasCell cs (L1 + 1) ∧ All2 (fun os v => ListR (PairR (ListR IntR) IntR) os led' v) (toldS i) vs)
    (fun led' hl => ⟨f1, v', [], cells1, f2, ordsR_up _ _ _ _ hl r2, rfl, hcl, .nil⟩) ?turn ?done)
  case done =>
    rintro m' Y' led' h' tk' hl hmap ⟨e1, vo, vs, cs, e2, ro, rfl, hc2, rt⟩ at3
    dsimp only
    refine ex_cons (ex_ret at3 (nm_loc EqR.up e1 rfl) fun v h' tk' led3 at4 s4 r4 => ?_)
    cases r4
    refine ret_K at4 fun F N => ?_
    refine hret _ ((D, lst vs) :: sq led3) _ _ F (fun p hp => N p ?_) ⟨fun p hp => ?_, D, vs, _, rfl, .head _, ?_⟩
    · rcases List.mem_append.mp hp with hp | hp
      · rcases List.mem_cons.mp hp with rfl | hp
        · simp
        · simp [sq_sub _ hp]
      · simp [s4 _ (hl _ (s2 _ hp))]
    · rcases List.mem_cons.mp hp with rfl | hp
      · rfl
      · exact sq_all _ hp
    · exact rt.mono fun os v h => ordsR_up _ _ _ _ .cons ((ListR.sq (PairR.sq (ListR.sq fun _ => IntR.sq) fun _ => IntR.sq) _) _ _ (ordsR_up _ _ _ _ s4 h))
  case turn =>
    rintro i x its m₁ Y₁ led₁ v h3 tk3 hx hl hmap ⟨e1, vo, vs, cs, e2, ro, rfl, hc2, rt⟩ hcl3 at3 hir
    have hi4 : i < 4 := by
      have := (List.getElem?_eq_some_iff.mp hx).1
      simpa using this
    have hxe : x = (i : Int) := by
      rw [List.getElem?_map, List.getElem?_range hi4] at hx
      simp at hx
      omega
    subst hxe
    obtain ⟨tx, rfl⟩ := hir
    refine tg_cl at3 (c := L1 + 1) (HasCell.left (X := its) (HasCell.left (X := [(D, lst vs)]) hc2)) fun h4 Y4 hY4 at4 => hideT at4 fun Qa sa at4 ka hQa => ?_
    obtain ⟨Y5, rfl, hY5⟩ := hY4.under (HasCell.apart at3 (HasCell.left (X := [(D, lst vs)]) hc2))
    obtain ⟨cs', rfl, hcs⟩ := hY5.under (X := [(D, lst vs)]) (Y := cs) (HasCell.apart (X := [(D, lst vs)]) at3.drop hc2)
    have hcv : CellV (its ++ ([(D, lst vs)] ++ cs')) (L1 + 1) (.int i tx) := CellV.left (CellV.left hcs.new)
    refine ex_cons (ex_comp2L c.hh at4 (it_pairs (it_ofList c.hh (nm_loc (ordsR_up (ordersAt i)) e2 ro) ordR_up)) (g := fun _ => placesS i) (f := fS i) (R3 := IntR) (Rb := PairR (ListR IntR) IntR) ?hit2 ?body listI_up (fun _ => IntR.up) (fun _ => IntR.up) ordR_up ?hsz ?k)
    case hsz =>
      intro j
      have h24 : (24 : Nat) ≤ sizeLine := by decide
      exact Nat.le_trans (Nat.le_trans (flat_take_le _ _ j) (orders_num i hi4)) h24
    case hit2 =>
      intro C Y' led' x hxm hY hl' o1 o2
      exact it_ofRange c.hh (ev_range1 (nm_built c (by k_is) (by boot_by_name)) (ev_add (nm_cl IntR.up (hcv.sub hY) ⟨tx, rfl⟩) ev_int)) (n := i + 1) (small_one (by omega) (by omega) (by omega) (by omega)) (by have := rangeSize_nat 0 (i + 1); simpa using this)
    case body =>
      intro C Y' led' x z hxm hz hY hl' o1 o2 o3
      have hlen := orders_len i hi4 x hxm
      have h4l : (100 : Nat) ≤ sizeLine := by decide
      obtain ⟨j, hj, rfl⟩ : ∃ j : Nat, j ≤ i ∧ z = (j : Int) := by
        obtain ⟨j, hj, e⟩ := List.mem_map.mp hz
        exact ⟨j, by have := List.mem_range.mp hj; omega, by omega⟩
      refine ev_tup (sp_cons (ev_join (fun _ => IntR.up) (ev_join (fun _ => IntR.up) (ev_take (fun _ => IntR.up) (o1 _) (o3 _) (by omega) (by omega)) (ev_list (R := IntR) (xs := [(i : Int)]) (sp_cons (nm_cl IntR.up (hcv.sub hY) ⟨tx, rfl⟩) sp_nil IntR.up) (fun _ => IntR.up)) (by simp; omega)) (ev_drop (fun _ => IntR.up) (o1 _) (o3 _) (by omega) (by omega)) (by simp; omega)) (sp_cons (ev_mul (o2 _) (ev_pow (ev_neg ev_int) (ev_minus (nm_cl IntR.up (hcv.sub hY) ⟨tx, rfl⟩) (o3 _)) (by omega) (by omega) (by decide)) (IntMulOk.of_right (intBits_le_64 (pow_small _).1 (pow_small _).2))) sp_nil IntR.up) (listI_up _)) (ups_cons (listI_up _) (ups_cons IntR.up ups_nil))
    case k =>
      intro v5 h5 tk5 led5 at5 s5 r5
      obtain ⟨m5, at5, f1, f2⟩ := at5.names (fun m => m "told" = some (.ref D) ∧ m "orders" = some v5) ⟨e1, rfl⟩
      dsimp only
      refine ex_cons (ex_append at5 (ys := vs) (List.mem_append_right _ (.head _)) (nm_loc EqR.up f1 rfl) (nm_loc (ordsR_up (ordersAt (i + 1))) f2 r5) (ordsR_up _) ?_ fun v7 h7 tk7 led7 Y7 hY7 at7 s7 r7 => ?_)
      · have h1 := rt.length
        simp [toldS] at h1
        have h4l : (100 : Nat) ≤ sizeLine := by decide
        omega
      · obtain ⟨Y8, rfl, hY8⟩ := hY7.under (at5.apart (.head _))
        have e8 : Y8 = (D, lst (vs ++ [v7])) :: cs' := by
          obtain ⟨Z1, o, Z2, q1, q2⟩ := hY8
          cases Z1 with
          | nil => rw [q2, ← (List.cons.inj q1).2]; rfl
          | cons p Z1 =>
            have q3 := (List.cons.inj q1)
            have nd := (At.drop at5).nd
            rw [q1] at nd
            simp only [List.cons_append, List.map_cons, List.map_append] at nd
            rw [← q3.1] at nd
            simp at nd
        subst e8
        refine ex_nil (hQa _ _ ?_)
        refine ⟨_, (D, lst (vs ++ [v7])) :: cs', led7, ka, at7, s5.trans s7, ?_, f1, v5, vs ++ [v7], cs', f2, ordsR_up _ _ _ _ s7 r5, rfl, hcs.has hc2, ?_⟩
        · have := hcs.map
          rw [← hmap]
          simp [this]
        · have e9 : toldS (i + 1) = toldS i ++ [ordersAt (i + 1)] := by simp [toldS, List.range_succ]
          rw [e9]
          exact (rt.mono fun os v h => ordsR_up _ _ _ _ (s5.trans s7) h).app (.cons r7 .nil)
end Mine
end
end
noncomputable section
open PySem PySem.W PyProof.Rows PySem.Calls PySem.Spec
set_option maxRecDepth 100000
set_option linter.unusedVariables false
namespace Mine
open LCg
noncomputable abbrev PR : Program := PySem.Challenge.rw_tc0103_01.prog
section
variable {prog : Program} {w : World} {mean : ExcName → Option Value} {mg mb : Str → Option Value} {A : Around} {h₀ : Heap} {L : Addr} {m : Str → Option Value} {Y led : Lg} {env : Env} {pos ap : Pos} {o e e' : Expr} {a b : Int} {R R1 R2 : Rp} {α : Type} {kd ku : Nat}
/-- a method of a built-in, one argument -/
theorem ev_meth1 {pl : Sem Bool} {name : Str} {id : String} (ho : Ev (model prog w) A h₀ L m Y env o led R1) (he : Ev (model prog w) A h₀ L m Y env e led R2) (u1 : Up R1) (u2 : Up R2)
    (hm : ∀ l v (s : Shared) (Q : Value × List Value → Shared → Prop) (E : Value → Shared → Prop), R1 l v → Q (.builtin id, [v]) s → wpAny (model prog w) A (getMethod v name pl) Q E s)
    (h : ∀ l v v', Sub led l → R1 l v → R2 l v' → Ws (model prog w) A h₀ L m Y (call (.builtin id) [v, v']) l R)
    (hc : eval (.Call (.Attribute o name ap) [e] [] pos) env = (do
      let ov ← eval o env
      standAt ap.atName
      let (f, first) ← holding [ov] (getMethod ov name pl)
      callWith pos f first (backTo pos (starEach [e] env)) []) := by rfl)
    (es : starEach [e] env = (false, eval e env) :: starEach [] env := by rfl) : Ev (model prog w) A h₀ L m Y env (.Call (.Attribute o name ap) [e] [] pos) led R := fun l' hs => Ws.mk fun s Q E at0 k =>
  MethodCall_ (pl := pl) ((ho l' hs).go s _ _ at0 fun v h1 t1 l1 at1 s1 r1 => hm l1 v _ _ _ r1 (callWith_method1 ((sp_cons he sp_nil u2 es l1 (hs.trans s1)).go _ _ _ at1 fun vs h2 t2 l2 at2 s2 r2 => by
    obtain ⟨v', rfl, rv⟩ := all2_one r2
    exact (h l2 v v' (hs.trans (s1.trans s2)) (u1 _ _ _ s2 r1) rv).go _ _ _ at2 fun v3 h3 t3 l3 at3 s3 r3 => k v3 h3 t3 l3 at3 (s1.trans (s2.trans s3)) r3) es rfl)) hc
theorem all2_strs {lg : Lg} : ∀ {xs : List Str} {vs : List Value}, All2 (fun x v => StrR x lg v) xs vs → ∃ l : List (Str × Tok), vs = strValues l ∧ l.map (·.1) = xs
  | _, _, .nil => ⟨[], rfl, rfl⟩
  | _, _, .cons (a := x) ⟨t, e⟩ r => by
    obtain ⟨l, h1, h2⟩ := all2_strs r
    subst e
    exact ⟨(x, t) :: l, by simp [strValues, h1], by simp [h2]⟩
theorem strs_all2 {lg : Lg} : ∀ (l : List (Str × Tok)), All2 (fun x v => StrR x lg v) (l.map (·.1)) (strValues l)
  | [] => .nil
  | p :: l => .cons ⟨p.2, rfl⟩ (strs_all2 l)
theorem ev_strJoin {pl : Sem Bool} {sep : Str} {xs : List Str} (ho : Ev (model prog w) A h₀ L m Y env o led (StrR sep)) (he : Ev (model prog w) A h₀ L m Y env e led (ListR StrR xs)) (hj : JoinOk sep xs = true)
    (hc : eval (.Call (.Attribute o "join" ap) [e] [] pos) env = (do
      let ov ← eval o env
      standAt ap.atName
      let (f, first) ← holding [ov] (getMethod ov "join" pl)
      callWith pos f first (backTo pos (starEach [e] env)) []) := by rfl)
    (es : starEach [e] env = (false, eval e env) :: starEach [] env := by rfl) : Ev (model prog w) A h₀ L m Y env (.Call (.Attribute o "join" ap) [e] [] pos) led (StrR (Txt.join sep xs)) :=
  ev_meth1 ho he StrR.up (ListR.up fun _ => StrR.up) (fun l v s Q E ⟨t, e⟩ q => by subst e; exact GM.join q) (fun l v v' hl ⟨t, e⟩ ⟨D, vs, n, e', hm, r⟩ => by
    subst e e'
    obtain ⟨ps, rfl, h2⟩ := all2_strs r
    exact Ws.mk fun s Q E at0 k => SC.join (at0.list hm) h2 hj fun t' tk => k _ _ _ _ at0 .rfl ⟨_, rfl⟩) hc es
theorem ev_split {pl : Sem Bool} {x y : Str} (ho : Ev (model prog w) A h₀ L m Y env o led (StrR x)) (he : Ev (model prog w) A h₀ L m Y env e led (StrR y)) (hy : (y.length == 0) = false) (hz : x.length + 2 ≤ sizeLine)
    (hc : eval (.Call (.Attribute o "split" ap) [e] [] pos) env = (do
      let ov ← eval o env
      standAt ap.atName
      let (f, first) ← holding [ov] (getMethod ov "split" pl)
      callWith pos f first (backTo pos (starEach [e] env)) []) := by rfl)
    (es : starEach [e] env = (false, eval e env) :: starEach [] env := by rfl) : Ev (model prog w) A h₀ L m Y env (.Call (.Attribute o "split" ap) [e] [] pos) led (ListR StrR (Txt.split x y)) :=
  ev_meth1 ho he StrR.up StrR.up (fun l v s Q E ⟨t, e⟩ q => by subst e; exact GM.split q) (fun l v v' hl ⟨t, e⟩ ⟨t', e'⟩ => by
    subst e e'
    exact Ws.mk fun s Q E at0 k => splitN1 at0.fr at0.ne hy (fun ps h' tk hp F N => k _ _ _ _ (at0.newList F N fun p hp => at0.lt p hp) .cons ⟨_, strValues ps, 0, rfl, .head _, hp ▸ strs_all2 ps⟩) hz) hc es
/-- tests joined -/
theorem te_or_nil {p : Pos} {M : Model} : ∀ l, Sub led l → Ws M A h₀ L m Y (PySem.isTrue (.BoolOp .Or [] p) env (eval e env)) l fun _ c => c = false := fun l _ => Ws.mk fun s Q E at0 k => isTrue_or_nil (k _ _ _ _ at0 .rfl rfl)
theorem te_or_cons {M : Model} {p : Pos} {x : Expr} {rest : List Expr} {b c : Bool} (hx : Te M A h₀ L m Y env x led b) (hr : b = false → ∀ l, Sub led l → Ws M A h₀ L m Y (PySem.isTrue (.BoolOp .Or rest p) env (eval e env)) l fun _ c' => c' = c) (hbc : b = true → c = true) :
    ∀ l, Sub led l → Ws M A h₀ L m Y (PySem.isTrue (.BoolOp .Or (x :: rest) p) env (eval e env)) l fun _ c' => c' = c := fun l hl => Ws.mk fun s Q E at0 k =>
  isTrue_or ((hx l hl).go s _ _ at0 fun v h1 t1 l1 at1 s1 r1 => by
    subst r1
    cases v with
    | true => exact k _ _ _ _ at1 s1 (hbc rfl).symm
    | false => exact (hr rfl l1 (hl.trans s1)).go _ _ _ at1 fun v h2 t2 l2 at2 s2 r2 => k v h2 t2 l2 at2 (s1.trans s2) r2)
theorem te_and_cons {M : Model} {p : Pos} {x : Expr} {rest : List Expr} {b c : Bool} (hx : Te M A h₀ L m Y env x led b) (hr : b = true → ∀ l, Sub led l → Ws M A h₀ L m Y (PySem.isTrue (.BoolOp .And rest p) env (eval e env)) l fun _ c' => c' = c) (hbc : b = false → c = false) :
    ∀ l, Sub led l → Ws M A h₀ L m Y (PySem.isTrue (.BoolOp .And (x :: rest) p) env (eval e env)) l fun _ c' => c' = c := fun l hl => Ws.mk fun s Q E at0 k =>
  isTrue_and ((hx l hl).go s _ _ at0 fun v h1 t1 l1 at1 s1 r1 => by
    subst r1
    cases v with
    | false => exact k _ _ _ _ at1 s1 (hbc rfl).symm
    | true => exact (hr rfl l1 (hl.trans s1)).go _ _ _ at1 fun v h2 t2 l2 at2 s2 r2 => k v h2 t2 l2 at2 (s1.trans s2) r2)
/-- data read off the ledger -/
noncomputable def DatR (R : Rp) (d : PyData) : Prop := ∀ l v h, (∀ p ∈ l, h.get? p.1 = some p.2) → R l v → ∃ as, Reads h v d as
theorem IntR.dat {i : Int} : DatR (IntR i) (.int i) := fun _ _ h _ ⟨t, e⟩ => ⟨[], e ▸ Reads.int i t⟩
theorem StrR.dat {x : Str} : DatR (StrR x) (.str x) := fun _ _ h _ ⟨t, e⟩ => ⟨[], e ▸ Reads.str x t⟩
theorem BoolR.dat {b : Bool} : DatR (BoolR b) (.bool b) := fun _ _ h _ e => ⟨[], e ▸ Reads.bool b⟩
theorem all2_dat {R : α → Rp} {d : α → PyData} (hd : ∀ x, DatR (R x) (d x)) {l : Lg} {h : Heap} (hg : ∀ p ∈ l, h.get? p.1 = some p.2) : ∀ {xs : List α} {vs : List Value}, All2 (fun x v => R x l v) xs vs → ∃ as, ReadsAll h vs (xs.map d) as
  | _, _, .nil => ⟨[], .nil⟩
  | _, _, .cons r t => by
    obtain ⟨as, h1⟩ := hd _ _ _ h hg r
    obtain ⟨bs, h2⟩ := all2_dat hd hg t
    exact ⟨as ++ bs, .cons h1 h2⟩
theorem ListR.dat {R : α → Rp} {d : α → PyData} (hd : ∀ x, DatR (R x) (d x)) (xs : List α) : DatR (ListR R xs) (.list (xs.map d)) := fun l v h hg ⟨a, vs, n, e, hm, r⟩ => by
  obtain ⟨as, h1⟩ := all2_dat hd hg r
  exact ⟨a :: as, e ▸ Reads.list (hg _ hm) rfl rfl (by simpa using h1)⟩
inductive Dats : List Rp → List PyData → Prop
  | nil : Dats [] []
  | cons {R d Rs ds} : DatR R d → Dats Rs ds → Dats (R :: Rs) (d :: ds)
theorem dats_all {l : Lg} {h : Heap} (hg : ∀ p ∈ l, h.get? p.1 = some p.2) : ∀ {Rs : List Rp} {ds : List PyData} {vs : List Value}, Dats Rs ds → All2 (fun R v => R l v) Rs vs → ∃ as, ReadsAll h vs ds as
  | _, _, _, .nil, .nil => ⟨[], .nil⟩
  | _, _, _, .cons x t, .cons r q => by
    obtain ⟨as, h1⟩ := x _ _ h hg r
    obtain ⟨bs, h2⟩ := dats_all hg t q
    exact ⟨as ++ bs, .cons h1 h2⟩
theorem TupR.dat {Rs : List Rp} {ds : List PyData} (hd : Dats Rs ds) : DatR (TupR Rs) (.tuple ds) := fun l v h hg ⟨a, vs, n, e, hm, r⟩ => by
  obtain ⟨as, h1⟩ := dats_all hg hd r
  exact ⟨as, e ▸ Reads.tuple (hg _ hm) rfl rfl (by simpa using h1)⟩
theorem ws_neD {d d' : PyData} {v v' : Value} (hu : A.units + 64 < cLine) (p : DatR R1 d) (q : DatR R2 d') (s1 : SeqAt.shaped d = true) (s2 : SeqAt.shaped d' = true) (x : R1 led v) (y : R2 led v') : Ws (model prog w) A h₀ L m Y (compareOp .NotEq v v') led (BoolR (!d.eqv d')) :=
  Ws.mk fun s Q E at0 k => by
    obtain ⟨as, h1⟩ := p _ _ s.heap (fun q hq => (at0.stay q hq).1) x
    obtain ⟨bs, h2⟩ := q _ _ s.heap (fun q hq => (at0.stay q hq).1) y
    exact ne_dataH h1 h2 s1 s2 hu (k _ _ _ _ at0 .rfl rfl)
theorem ws_eqD {d d' : PyData} {v v' : Value} (hu : A.units + 64 < cLine) (p : DatR R1 d) (q : DatR R2 d') (s1 : SeqAt.shaped d = true) (s2 : SeqAt.shaped d' = true) (x : R1 led v) (y : R2 led v') : Ws (model prog w) A h₀ L m Y (compareOp .Eq v v') led (BoolR (d.eqv d')) :=
  Ws.mk fun s Q E at0 k => by
    obtain ⟨as, h1⟩ := p _ _ s.heap (fun q hq => (at0.stay q hq).1) x
    obtain ⟨bs, h2⟩ := q _ _ s.heap (fun q hq => (at0.stay q hq).1) y
    exact eq_dataH h1 h2 s1 s2 hu (k _ _ _ _ at0 .rfl rfl)

/-- an object of the class Whitespace -/
noncomputable def WsR (w : World) (st : WSt) : Rp := fun l v => ∃ a : WsA, v = .ref a.x ∧ WsOk a st ∧ ∀ p ∈ wsLed w.params a st, p ∈ l
theorem WsR.up {st : WSt} : Up (WsR w st) := fun _ _ _ s ⟨a, h1, h2, h3⟩ => ⟨a, h1, h2, fun p hp => s _ (h3 p hp)⟩
theorem get_ws {pl : Sem Bool} {name : Str} {f : Addr} {a : WsA} {st : WSt} {s : Shared} {Q : Value × List Value → Shared → Prop} {E : Value → Shared → Prop} (c : Cx w mean mg mb A h₀ L kd ku)
    (hf : plainGet (hd.heap_39 w.params) 117 name = true ∧ findIn (hd.heap_39 w.params) (.ref 117) name = some (some (.ref f)) ∧ isFn (hd.heap_39 w.params) (.ref f) = true ∧ keepIn (hd.heap_39 w.params) (.ref f) = true)
    (hl : lookIn name (wsDict w.params a st) = some none) (at0 : At h₀ L m Y led s.heap) (hm : ∀ p ∈ wsLed w.params a st, p ∈ led) (h : Q (.ref f, [.ref a.x]) s) : wpAny (model PR w) A (getMethod (.ref a.x) name pl) Q E s :=
  method_fn (c.frag.keeps at0.fr.keep) (inst_ws (fun p hp => at0.stay p (hm p hp))) (plainGet_of hf.1).1 (plainGet_of hf.1).2 hf.2.1 (beq_iff_eq.mp hf.2.2.1) (by
    show (lookIn name (wsDict w.params a st)).map _ = _
    rw [hl]; rfl) h
end
end Mine
end
noncomputable section
open PySem PySem.W PyProof.Rows PySem.Calls PySem.Spec
set_option maxRecDepth 100000
set_option linter.unusedVariables false
namespace Mine
open LCg
section
variable {w : World} {mean : ExcName → Option Value} {mg mb : Str → Option Value} {A : Around} {h₀ : Heap} {L : Addr} {m : Str → Option Value} {Y led : Lg} {env : Env} {pos ap : Pos} {o e e' : Expr} {a b : Int} {R R1 R2 : Rp} {α : Type} {kd ku : Nat} {st st' : WSt} {name : Str} {f : Addr}
noncomputable abbrev MethIs (w : World) (name : Str) (f : Addr) : Prop := plainGet (hd.heap_39 w.params) 117 name = true ∧ findIn (hd.heap_39 w.params) (.ref 117) name = some (some (.ref f)) ∧ isFn (hd.heap_39 w.params) (.ref f) = true ∧ keepIn (hd.heap_39 w.params) (.ref f) = true
theorem ev_wm {pl : Sem Bool} {e1 : Expr} {es : List Expr} {Rs : List Rp} (c : Cx w mean mg mb A h₀ L kd ku) (hf : MethIs w name f) (hl : ∀ a, lookIn name (wsDict w.params a st) = some none) (ho : Ev (model PR w) A h₀ L m Y env o led (WsR w st)) (hs : Sp (model PR w) A h₀ L m Y env pos (e1 :: es) led Rs)
    (h : ∀ l a vs, Sub led l → WsOk a st → (∀ p ∈ wsLed w.params a st, p ∈ l) → All2 (fun R v => R l v) Rs vs → Ws (model PR w) A h₀ L m Y (call (.ref f) (.ref a.x :: vs)) l R)
    (hc : eval (.Call (.Attribute o name ap) (e1 :: es) [] pos) env = (do
      let ov ← eval o env
      standAt ap.atName
      let (f, first) ← holding [ov] (getMethod ov name pl)
      callWith pos f first (backTo pos (starEach (e1 :: es) env)) []) := by rfl)
    (es1 : starEach (e1 :: es) env = (false, eval e1 env) :: starEach es env := by rfl) (hp : (backTo pos (starEach es env)).any (·.1) = false := by rfl) : Ev (model PR w) A h₀ L m Y env (.Call (.Attribute o name ap) (e1 :: es) [] pos) led R := fun l' hsub => Ws.mk fun s Q E at0 k =>
  MethodCall_ (pl := pl) ((ho l' hsub).go s _ _ at0 fun v h1 t1 l1 at1 s1 r1 => by
    obtain ⟨a, rfl, ok, hm⟩ := r1
    refine get_ws c hf (hl a) at1 hm ?_
    refine callWith_K c.frag hf.2.2.2 ((hs l1 (hsub.trans s1)).go _ _ _ at1 fun vs h2 t2 l2 at2 s2 r2 => ⟨c.frag.keeps at2.fr.keep, ?_⟩) es1 hp
    exact (h l2 a vs (hsub.trans (s1.trans s2)) ok (fun p hp => s2 _ (hm p hp)) r2).go _ _ _ at2 fun v3 h3 t3 l3 at3 s3 r3 => k v3 h3 t3 l3 at3 (s1.trans (s2.trans s3)) r3) hc
theorem ev_wm0 {pl : Sem Bool} (c : Cx w mean mg mb A h₀ L kd ku) (hf : MethIs w name f) (hl : ∀ a, lookIn name (wsDict w.params a st) = some none) (ho : Ev (model PR w) A h₀ L m Y env o led (WsR w st))
    (h : ∀ l a, Sub led l → WsOk a st → (∀ p ∈ wsLed w.params a st, p ∈ l) → Ws (model PR w) A h₀ L m Y (call (.ref f) [.ref a.x]) l R)
    (hc : eval (.Call (.Attribute o name ap) [] [] pos) env = (do
      let ov ← eval o env
      standAt ap.atName
      let (f, first) ← holding [ov] (getMethod ov name pl)
      callWith pos f first (backTo pos (starEach [] env)) []) := by rfl) : Ev (model PR w) A h₀ L m Y env (.Call (.Attribute o name ap) [] [] pos) led R := fun l' hsub => Ws.mk fun s Q E at0 k =>
  MethodCall_ (pl := pl) ((ho l' hsub).go s _ _ at0 fun v h1 t1 l1 at1 s1 r1 => by
    obtain ⟨a, rfl, ok, hm⟩ := r1
    refine get_ws c hf (hl a) at1 hm ?_
    refine callWith_K0 (c.frag.keeps at1.fr.keep) hf.2.2.2 ?_
    exact (h l1 a (hsub.trans s1) ok hm).go _ _ _ at1 fun v3 h3 t3 l3 at3 s3 r3 => k v3 h3 t3 l3 at3 (s1.trans s3) r3) hc
/-- no new objects -/
theorem ws_int {f : Addr} {need : Lg} {vs : List Value} {d u : Nat} {i : Int} (c : Cx w mean mg mb A h₀ L kd ku) (hd : d ≤ kd) (hu : u ≤ ku) (S : ∀ news, SpecN d u w mean mg mb f (need ++ news) vs (fun r tl => tl = [] ∧ ∃ t, r = .int i t)) (hn : ∀ p ∈ need, p ∈ led) :
    Ws (model PR w) A h₀ L m Y (call (.ref f) vs) led (IntR i) :=
  ws_spec c hd hu (Out := fun _ r tl => tl = [] ∧ ∃ t, r = .int i t) S hn fun r tl h' N ⟨e, t, e'⟩ => by
    subst e e'
    exact ⟨(fun p hp => nomatch hp), t, rfl⟩
theorem ev_indent {pl : Sem Bool} (c : Cx w mean mg mb A h₀ L kd ku) (hd : 5 ≤ kd) (hu : 40 ≤ ku) (ho : Ev (model PR w) A h₀ L m Y env o led (WsR w st)) (he : Ev (model PR w) A h₀ L m Y env e led (IntR a)) (h1 : 1 ≤ a) (h2 : a ≤ 2000)
    (hc : eval (.Call (.Attribute o "indent_level" ap) [e] [] pos) env = (do
      let ov ← eval o env
      standAt ap.atName
      let (f, first) ← holding [ov] (getMethod ov "indent_level" pl)
      callWith pos f first (backTo pos (starEach [e] env)) []) := by rfl)
    (es : starEach [e] env = (false, eval e env) :: starEach [] env := by rfl) : Ev (model PR w) A h₀ L m Y env (.Call (.Attribute o "indent_level" ap) [e] [] pos) led (IntR (level st a)) :=
  ev_wm c (mf_indentlevel rfl w) (fun _ => rfl) ho (sp_cons he sp_nil IntR.up es) (fun l aw vs hl ok hm r => by
    obtain ⟨v, rfl, t, rfl⟩ := all2_one r
    exact ws_int c hd hu (fun news => indent w mean mg mb news aw st a t ok h1 h2) hm) hc es rfl
theorem ev_longest {pl : Sem Bool} (c : Cx w mean mg mb A h₀ L kd ku) (hd : 5 ≤ kd) (hu : 40 ≤ ku) (ho : Ev (model PR w) A h₀ L m Y env o led (WsR w st))
    (hc : eval (.Call (.Attribute o "longest_run_of_spaces" ap) [] [] pos) env = (do
      let ov ← eval o env
      standAt ap.atName
      let (f, first) ← holding [ov] (getMethod ov "longest_run_of_spaces" pl)
      callWith pos f first (backTo pos (starEach [] env)) []) := by rfl) : Ev (model PR w) A h₀ L m Y env (.Call (.Attribute o "longest_run_of_spaces" ap) [] [] pos) led (IntR (run1 st)) :=
  ev_wm0 c (mf_longestrunofspaces rfl w) (fun _ => rfl) ho (fun l aw hl ok hm => ws_int c hd hu (fun news => longest w mean mg mb news aw st ok) hm) hc
/-- witnesses -/
noncomputable def FigR : Int × Int × Int → Rp := fun x => TupR [IntR x.1, IntR x.2.1, IntR x.2.2]
theorem FigR.up (x : Int × Int × Int) : Up (FigR x) := TupR.up (ups_cons IntR.up (ups_cons IntR.up (ups_cons IntR.up ups_nil)))
theorem wit_all2 {l : Lg} : ∀ {es : List WT}, (∀ e ∈ es, e.ent ∈ l) → All2 (fun x v => FigR x l v) (es.map WT.fig) (es.map WT.val)
  | [], _ => .nil
  | e :: es, h => .cons ⟨e.ad, [.int e.ts e.t1, .int e.l1 e.t2, .int e.l2 e.t3], 0, rfl, h e (.head _), .cons ⟨_, rfl⟩ (.cons ⟨_, rfl⟩ (.cons ⟨_, rfl⟩ .nil))⟩ (wit_all2 fun x hx => h x (.tail _ hx))
theorem wit_fresh {h h' : Heap} {D : Addr} {n : Nat} {es : List WT} (hY : ∀ q ∈ Y, NoTup q.2) (N : News h₀ L h' (witLed D n es ++ (Y ++ led))) (hD : ∀ p ∈ Y ++ led, @LT.lt Nat _ p.1 D) : ∀ p ∈ witLed D n es, p.1 ∉ Y.map (·.1) := fun p hp hm => by
  obtain ⟨q, hq, e⟩ := List.mem_map.mp hm
  rcases List.mem_cons.mp hp with rfl | hp'
  · exact absurd (hD q (List.mem_append_left _ hq)) (by rw [e]; exact Nat.lt_irrefl _)
  · obtain ⟨x, hx, rfl⟩ := List.mem_map.mp hp'
    have h1 := (N _ (List.mem_append_left _ hp)).1
    have h2 := (N q (List.mem_append_right _ (List.mem_append_left _ hq))).1
    rw [e] at h2
    exact hY q hq _ _ (Option.some.inj (h2.symm.trans h1))
theorem ws_wits {f : Addr} {a a' : WsA} {cc : WSt → WSt → Int → Bool} (c : Cx w mean mg mb A h₀ L kd ku) (hd : 10 ≤ kd) (hu : 80 ≤ ku) (hY : ∀ q ∈ Y, NoTup q.2)
    (S : ∀ news, SpecN 10 80 w mean mg mb f (wsLed w.params a st ++ (wsLed w.params a' st' ++ news)) [.ref a.x, .ref a'.x] (fun r tl => ∃ D n es, r = .ref D ∧ tl = witLed D n es ∧ (∀ p ∈ news, @LT.lt Nat _ p.1 D) ∧ es.map WT.fig = wits cc st st' (bound2 st st').toNat))
    (h1 : ∀ p ∈ wsLed w.params a st, p ∈ led) (h2 : ∀ p ∈ wsLed w.params a' st', p ∈ led) : Ws (model PR w) A h₀ L m Y (call (.ref f) [.ref a.x, .ref a'.x]) led (ListR FigR (wits cc st st' (bound2 st st').toNat)) := by
  refine ws_spec (need := wsLed w.params a st ++ wsLed w.params a' st') c hd hu (Out := fun news r tl => ∃ D n es, r = .ref D ∧ tl = witLed D n es ∧ (∀ p ∈ news, @LT.lt Nat _ p.1 D) ∧ es.map WT.fig = wits cc st st' (bound2 st st').toNat) (fun news => by rw [List.append_assoc]; exact S news) (fun p hp => (List.mem_append.mp hp).elim (h1 p) (h2 p)) ?_
  rintro r tl h' N ⟨D, n, es, rfl, rfl, hD, hf⟩
  refine ⟨wit_fresh (h := h') hY N hD, D, es.map WT.val, n, rfl, by simp, ?_⟩
  rw [← hf]
  exact wit_all2 fun e he => List.mem_append_left _ (List.mem_cons_of_mem _ (List.mem_map.mpr ⟨e, he, rfl⟩))
theorem ev_low {pl : Sem Bool} (c : Cx w mean mg mb A h₀ L kd ku) (hd : 10 ≤ kd) (hu : 80 ≤ ku) (hY : ∀ q ∈ Y, NoTup q.2) (ho : Ev (model PR w) A h₀ L m Y env o led (WsR w st)) (he : Ev (model PR w) A h₀ L m Y env e led (WsR w st'))
    (hc : eval (.Call (.Attribute o "not_less_witness" ap) [e] [] pos) env = (do
      let ov ← eval o env
      standAt ap.atName
      let (f, first) ← holding [ov] (getMethod ov "not_less_witness" pl)
      callWith pos f first (backTo pos (starEach [e] env)) []) := by rfl)
    (es : starEach [e] env = (false, eval e env) :: starEach [] env := by rfl) : Ev (model PR w) A h₀ L m Y env (.Call (.Attribute o "not_less_witness" ap) [e] [] pos) led (ListR FigR (wits cLow st st' (bound2 st st').toNat)) :=
  ev_wm c (mf_notlesswitness rfl w) (fun _ => rfl) ho (sp_cons he sp_nil WsR.up es) (fun l aw vs hl ok hm r => by
    obtain ⟨v, rfl, a', rfl, ok', hm'⟩ := all2_one r
    exact ws_wits c hd hu hY (fun news => lowW w mean mg mb news aw a' st st' ok ok') hm hm') hc es rfl
theorem ev_odd {pl : Sem Bool} (c : Cx w mean mg mb A h₀ L kd ku) (hd : 10 ≤ kd) (hu : 80 ≤ ku) (hY : ∀ q ∈ Y, NoTup q.2) (ho : Ev (model PR w) A h₀ L m Y env o led (WsR w st)) (he : Ev (model PR w) A h₀ L m Y env e led (WsR w st'))
    (hc : eval (.Call (.Attribute o "not_equal_witness" ap) [e] [] pos) env = (do
      let ov ← eval o env
      standAt ap.atName
      let (f, first) ← holding [ov] (getMethod ov "not_equal_witness" pl)
      callWith pos f first (backTo pos (starEach [e] env)) []) := by rfl)
    (es : starEach [e] env = (false, eval e env) :: starEach [] env := by rfl) : Ev (model PR w) A h₀ L m Y env (.Call (.Attribute o "not_equal_witness" ap) [e] [] pos) led (ListR FigR (wits cOdd st st' (bound2 st st').toNat)) :=
  ev_wm c (mf_notequalwitness rfl w) (fun _ => rfl) ho (sp_cons he sp_nil WsR.up es) (fun l aw vs hl ok hm r => by
    obtain ⟨v, rfl, a', rfl, ok', hm'⟩ := all2_one r
    exact ws_wits c hd hu hY (fun news => oddW w mean mg mb news aw a' st st' ok ok') hm hm') hc es rfl
theorem ws_bool {f : Addr} {need : Lg} {vs : List Value} {d u : Nat} {b : Bool} (c : Cx w mean mg mb A h₀ L kd ku) (hd : d ≤ kd) (hu : u ≤ ku) (S : ∀ news, SpecN d u w mean mg mb f (need ++ news) vs (fun r tl => tl = [] ∧ r = .bool b)) (hn : ∀ p ∈ need, p ∈ led) :
    Ws (model PR w) A h₀ L m Y (call (.ref f) vs) led (BoolR b) :=
  ws_spec c hd hu (Out := fun _ r tl => tl = [] ∧ r = .bool b) S hn fun r tl h' N ⟨e, e'⟩ => by
    subst e e'
    exact ⟨(fun p hp => nomatch hp), rfl⟩
theorem ev_less {pl : Sem Bool} (c : Cx w mean mg mb A h₀ L kd ku) (hd : 10 ≤ kd) (hu : 80 ≤ ku) (ho : Ev (model PR w) A h₀ L m Y env o led (WsR w st)) (he : Ev (model PR w) A h₀ L m Y env e led (WsR w st'))
    (hc : eval (.Call (.Attribute o "less" ap) [e] [] pos) env = (do
      let ov ← eval o env
      standAt ap.atName
      let (f, first) ← holding [ov] (getMethod ov "less" pl)
      callWith pos f first (backTo pos (starEach [e] env)) []) := by rfl)
    (es : starEach [e] env = (false, eval e env) :: starEach [] env := by rfl) : Ev (model PR w) A h₀ L m Y env (.Call (.Attribute o "less" ap) [e] [] pos) led (BoolR (lessB st st')) :=
  ev_wm c (mf_less rfl w) (fun _ => rfl) ho (sp_cons he sp_nil WsR.up es) (fun l aw vs hl ok hm r => by
    obtain ⟨v, rfl, a', rfl, ok', hm'⟩ := all2_one r
    exact ws_bool (need := wsLed w.params aw st ++ wsLed w.params a' st') c hd hu (fun news => by rw [List.append_assoc]; exact less w mean mg mb news aw a' st st' ok ok') (fun p hp => (List.mem_append.mp hp).elim (hm p) (hm' p))) hc es rfl
theorem ev_equal {pl : Sem Bool} (c : Cx w mean mg mb A h₀ L kd ku) (hd : 10 ≤ kd) (hu : 80 ≤ ku) (ho : Ev (model PR w) A h₀ L m Y env o led (WsR w st)) (he : Ev (model PR w) A h₀ L m Y env e led (WsR w st'))
    (hc : eval (.Call (.Attribute o "equal" ap) [e] [] pos) env = (do
      let ov ← eval o env
      standAt ap.atName
      let (f, first) ← holding [ov] (getMethod ov "equal" pl)
      callWith pos f first (backTo pos (starEach [e] env)) []) := by rfl)
    (es : starEach [e] env = (false, eval e env) :: starEach [] env := by rfl) : Ev (model PR w) A h₀ L m Y env (.Call (.Attribute o "equal" ap) [e] [] pos) led (BoolR (decide (st.ct = st'.ct ∧ st.b = st'.b))) :=
  ev_wm c (mf_equal rfl w) (fun _ => rfl) ho (sp_cons he sp_nil WsR.up es) (fun l aw vs hl ok hm r => by
    obtain ⟨v, rfl, a', rfl, ok', hm'⟩ := all2_one r
    exact ws_bool (need := wsLed w.params aw st ++ wsLed w.params a' st') c hd hu (fun news => by rw [List.append_assoc]; exact equal w mean mg mb news aw a' st st' ok ok') (fun p hp => (List.mem_append.mp hp).elim (hm p) (hm' p))) hc es rfl
end
end Mine
end
noncomputable section
open PySem PySem.W PyProof.Rows PySem.Calls PySem.Spec
set_option maxRecDepth 100000
set_option linter.unusedVariables false
namespace Mine
open LCg
/-- the figures of a short text are small -/
structure StB (k : Nat) (s : WSt) : Prop where
  hl : s.ct.length ≤ k
  hb0 : 0 ≤ s.b
  hb1 : s.b ≤ k
  hc : ∀ i, 0 ≤ s.ct.getD i 0 ∧ s.ct.getD i 0 ≤ k
theorem bump_get (ct : List Int) (k i : Nat) : (bump ct k).getD i 0 = if i = k then ct.getD k 0 + 1 else ct.getD i 0 := by
  have key : ∀ (l : List Int), k < l.length → (l.set k (l.getD k 0 + 1)).getD i 0 = if i = k then l.getD k 0 + 1 else l.getD i 0 := fun l hk => by
    rw [List.getD_eq_getElem?_getD, List.getElem?_set]
    by_cases h : k = i
    · subst h; simp [hk]
    · rw [if_neg h, if_neg (Ne.symm h), ← List.getD_eq_getElem?_getD]
  have rep : ∀ (n j : Nat), (ct ++ List.replicate n 0).getD j 0 = ct.getD j 0 := fun n j => by
    rw [List.getD_eq_getElem?_getD, List.getD_eq_getElem?_getD, List.getElem?_append]
    split
    · rfl
    · rename_i h
      rw [List.getElem?_eq_none (by omega : ct.length ≤ j), List.getElem?_replicate]
      split <;> rfl
  unfold bump
  split
  · rename_i h; exact key ct h
  · rename_i h
    rw [key _ (by simp; omega), rep, rep]
theorem StB.step {k : Nat} {s : WSt} (h : StB k s) (c : Nat) : StB (k + 1) (wsStep s c) := by
  obtain ⟨h1, h2, h3, h4⟩ := h
  unfold wsStep
  split
  · exact ⟨by dsimp only; omega, by dsimp only; omega, by dsimp only; omega, fun i => ⟨(h4 i).1, by have := (h4 i).2; dsimp only; omega⟩⟩
  · refine ⟨?_, Int.le_refl _, by dsimp only; omega, fun i => ?_⟩
    · dsimp only; rw [bump_len]; split <;> omega
    · dsimp only
      rw [bump_get]
      have h5 := h4 s.b.toNat
      have h6 := h4 i
      split <;> omega
theorem StB.up {k k' : Nat} {s : WSt} (h : StB k s) (hk : k ≤ k') : StB k' s := ⟨Nat.le_trans h.hl hk, h.hb0, by have := h.hb1; omega, fun i => ⟨(h.hc i).1, by have := (h.hc i).2; omega⟩⟩
theorem StB.run : ∀ (l : List Nat) {k : Nat} {s : WSt}, StB k s → StB (k + l.length) (wsRun l s)
  | [], k, s, h => h
  | c :: r, k, s, h => by
    unfold wsRun
    split
    · have := (h.step c).run r
      rw [List.length_cons, show k + (r.length + 1) = k + 1 + r.length from by omega]
      exact this
    · exact h.up (by omega)
theorem StB.zero : StB 0 ws0 := ⟨Nat.le_refl _, Int.le_refl _, Int.le_refl _, fun i => by simp [ws0]⟩
theorem ws_ok {a : WsA} {lead : Str} (hl : lead.length ≤ 10) (hi : IntsAre a.cvs (wsRun lead.cps.toList ws0).ct) : WsOk a (wsRun lead.cps.toList ws0) := by
  have h := StB.run lead.cps.toList StB.zero
  have e : lead.cps.toList.length = lead.length := by simp [Str.length]
  have h := h.up (k' := 10) (by omega)
  exact ⟨hi, h.hl, h.hb0, h.hb1, fun i => ⟨(h.hc i).1, by have := (h.hc i).2; omega⟩⟩
noncomputable abbrev stOf (x : Str) : WSt := wsRun x.cps.toList ws0
section
variable {w : World} {mean : ExcName → Option Value} {mg mb : Str → Option Value} {A : Around} {h₀ : Heap} {L : Addr} {m : Str → Option Value} {Y led : Lg} {env : Env} {pos ap : Pos} {f o e e' : Expr} {a b : Int} {R R1 R2 : Rp} {α : Type} {kd ku : Nat} {st st' : WSt}
theorem ev_col {x : Str} (c : Cx w mean mg mb A h₀ L kd ku) (hd : 5 ≤ kd) (hu : 40 ≤ ku) (hf : Ev (model PR w) A h₀ L m Y env f led (EqR (.ref 135))) (hx : Ev (model PR w) A h₀ L m Y env e led (StrR x)) (he : Ev (model PR w) A h₀ L m Y env e' led (IntR a)) (hl : x.length ≤ 10) (h1 : 1 ≤ a) (h2 : a ≤ 2000)
    (hc : eval (.Call f [e, e'] [] pos) env = (do callWith pos (← eval f env) [] (backTo pos (starEach [e, e'] env)) (backToKw pos (keywordEach [] env))) := by rfl)
    (he1 : starEach [e, e'] env = (false, eval e env) :: starEach [e'] env := by rfl) (he2 : starEach [e'] env = (false, eval e' env) :: starEach [] env := by rfl) (hp : (backTo pos (starEach [e'] env)).any (·.1) = false := by rfl) :
    Ev (model PR w) A h₀ L m Y env (.Call f [e, e'] [] pos) led (IntR ((KStt.codes x).foldl (colStep a) 0)) :=
  ev_callF c (gf_lawcolumn rfl w).2 hf (sp_cons hx (sp_cons he sp_nil IntR.up he2) StrR.up he1) (fun l vs hl' r => by
    obtain ⟨v, v', rfl, ⟨t, rfl⟩, ⟨t', rfl⟩⟩ := all2_two r
    exact ws_int (need := []) c hd hu (fun news => col w mean mg mb news x t a t' hl h1 h2) (fun p hp => nomatch hp)) hc he1 hp
theorem ev_wsNew {x : Str} (c : Cx w mean mg mb A h₀ L kd ku) (hd : 5 ≤ kd) (hu : 40 ≤ ku) (hf : Ev (model PR w) A h₀ L m Y env f led (EqR (.ref 117))) (hx : Ev (model PR w) A h₀ L m Y env e led (StrR x)) (hl : x.length ≤ 10)
    (hc : eval (.Call f [e] [] pos) env = (do callWith pos (← eval f env) [] (backTo pos (starEach [e] env)) (backToKw pos (keywordEach [] env))) := by rfl)
    (he1 : starEach [e] env = (false, eval e env) :: starEach [] env := by rfl) : Ev (model PR w) A h₀ L m Y env (.Call f [e] [] pos) led (WsR w (stOf x)) :=
  ev_callF c (gf_Whitespace rfl w).2 hf (sp_cons hx sp_nil StrR.up he1) (fun l vs hl' r => by
    obtain ⟨v, rfl, t, rfl⟩ := all2_one r
    refine ws_spec' c hd hu (ws w mean mg mb (Y ++ l) x t hl) fun r tl h' N o => ?_
    obtain ⟨aw, rfl, hlt, hi, rfl⟩ := o
    refine ⟨fun p hp hm => ?_, aw, rfl, ws_ok hl hi, fun p hp => List.mem_append_left _ hp⟩
    obtain ⟨q, hq, e⟩ := List.mem_map.mp hm
    obtain ⟨q1, q2, q3, q4⟩ := hlt q (List.mem_append_left _ hq)
    rw [e] at q1 q2 q3 q4
    simp only [List.mem_cons, List.not_mem_nil, or_false] at hp
    rcases hp with rfl | rfl | rfl | rfl
    · exact Nat.lt_irrefl _ q2
    · exact Nat.lt_irrefl _ q1
    · exact Nat.lt_irrefl _ q3
    · exact Nat.lt_irrefl _ q4) hc he1 rfl
end
end Mine
end
noncomputable section
open PySem PySem.W PyProof.Rows PySem.Calls PySem.Spec
set_option maxRecDepth 100000
set_option linter.unusedVariables false
namespace Mine
open LCg
section
variable {w : World} {mean : ExcName → Option Value} {mg mb : Str → Option Value} {A : Around} {h₀ : Heap} {L : Addr} {m : Str → Option Value} {Y led : Lg} {env : Env} {pos ap : Pos} {f o e e' : Expr} {a b : Int} {R R1 R2 : Rp} {α : Type} {kd ku : Nat} {st st' : WSt}
theorem ev_prods {ls is : List Int} (c : Cx w mean mg mb A h₀ L kd ku) (hd : 10 ≤ kd) (hu : 80 ≤ ku) (hY : PlainY Y) (hf : Ev (model PR w) A h₀ L m Y env f led (EqR (.ref 154))) (hx : Ev (model PR w) A h₀ L m Y env e led (ListR IntR ls)) (he : Ev (model PR w) A h₀ L m Y env e' led (ListR IntR is))
    (hl : ls.length = 4) (hil : is.length = 4) (hb : ∀ i, 0 ≤ ls.getD i 0 ∧ ls.getD i 0 ≤ 20000) (hi : ∀ i, 0 ≤ is.getD i 0 ∧ is.getD i 0 < 4)
    (hc : eval (.Call f [e, e'] [] pos) env = (do callWith pos (← eval f env) [] (backTo pos (starEach [e, e'] env)) (backToKw pos (keywordEach [] env))) := by rfl)
    (he1 : starEach [e, e'] env = (false, eval e env) :: starEach [e'] env := by rfl) (he2 : starEach [e'] env = (false, eval e' env) :: starEach [] env := by rfl) (hp : (backTo pos (starEach [e'] env)).any (·.1) = false := by rfl) :
    Ev (model PR w) A h₀ L m Y env (.Call f [e, e'] [] pos) led (ListR IntR (pr ls is 3)) :=
  ev_callF c (gf_lawproducts rfl w).2 hf (sp_cons hx (sp_cons he sp_nil (listI_up _) he2) (listI_up _) he1) (fun l vs hl' r => by
    obtain ⟨v, v', rfl, ⟨A1, vs1, n1, rfl, hm1, r1⟩, ⟨A2, vs2, n2, rfl, hm2, r2⟩⟩ := all2_two r
    refine ws_spec (need := [(A1, W.listOf vs1.toArray n1), (A2, W.listOf vs2.toArray n2)]) c hd hu (Out := fun _ r tl => ∃ D n ws, r = .ref D ∧ tl = [(D, W.listOf ws.toArray n)] ∧ IntsAre ws (pr ls is 3)) (fun news => prods w mean mg mb news A1 A2 n1 n2 vs1 vs2 ls is (all2_ints r1) (all2_ints r2) hl hil hb hi) (fun p hp => by
      simp only [List.mem_cons, List.not_mem_nil, or_false] at hp
      rcases hp with rfl | rfl
      · exact hm1
      · exact hm2) ?_
    rintro r tl h' N ⟨D, n, ws, rfl, rfl, hw⟩
    refine ⟨hY.fresh (h := h') (m := m) N (fun p hp => by rw [List.mem_singleton.mp hp]; rfl), D, ws, n, rfl, by simp, ints_all2 hw⟩) hc he1 hp
theorem all2_four {β : Type} {R : α → β → Prop} {a b c d : α} {vs : List β} (h : All2 R [a, b, c, d] vs) : ∃ v0 v1 v2 v3, vs = [v0, v1, v2, v3] ∧ R a v0 ∧ R b v1 ∧ R c v2 ∧ R d v3 := by
  cases h with
  | cons x0 r => cases r with
    | cons x1 r => cases r with
      | cons x2 r => cases r with
        | cons x3 r => cases r with
          | nil => exact ⟨_, _, _, _, rfl, x0, x1, x2, x3⟩
theorem ev_chains {u2 u3 : Int} (c : Cx w mean mg mb A h₀ L kd ku) (hd : 10 ≤ kd) (hu : 80 ≤ ku) (hY : PlainY Y) (hf : Ev (model PR w) A h₀ L m Y env f led (EqR (.ref 161))) (hx : Ev (model PR w) A h₀ L m Y env e led (ListR IntR [0, 0, u2, u3])) (h2 : u2 = 0 ∨ u2 = 1) (h3 : u3 = 0 ∨ u3 = 1 ∨ u3 = 2)
    (hc : eval (.Call f [e] [] pos) env = (do callWith pos (← eval f env) [] (backTo pos (starEach [e] env)) (backToKw pos (keywordEach [] env))) := by rfl)
    (he1 : starEach [e] env = (false, eval e env) :: starEach [] env := by rfl) : Ev (model PR w) A h₀ L m Y env (.Call f [e] [] pos) led (ListR (ListR IntR) (chl [0, 0, u2, u3] 3)) :=
  ev_callF c (gf_lawchains rfl w).2 hf (sp_cons hx sp_nil (listI_up _) he1) (fun l vs hl' r => by
    obtain ⟨v, rfl, ra⟩ := all2_one r
    exact ws_spec' c hd hu (chains w mean mg mb (Y ++ l) v u2 u3 (listI_up _ _ _ _ (fun p hp => List.mem_append_right _ hp) ra) h2 h3) fun r tl h' N ⟨hs, hr⟩ => ⟨hY.fresh (h := h') (m := m) N hs, tabR_up _ _ _ _ (fun p hp => List.mem_append_left _ hp) hr⟩) hc he1 rfl
theorem ev_sgn (c : Cx w mean mg mb A h₀ L kd ku) (hd : 10 ≤ kd) (hu : 80 ≤ ku) (hY : PlainY Y) (hf : Ev (model PR w) A h₀ L m Y env f led (EqR (.ref 140)))
    (hc : eval (.Call f [] [] pos) env = (do callWith pos (← eval f env) [] (backTo pos (starEach [] env)) (backToKw pos (keywordEach [] env))) := by rfl) : Ev (model PR w) A h₀ L m Y env (.Call f [] [] pos) led (SgR (toldS 4)) :=
  ev_callF0 c (gf_lawsigned rfl w).2 hf (fun l hl => ws_spec' c hd hu (sgn w mean mg mb (Y ++ l)) fun r tl h' N ⟨hs, hr⟩ => ⟨hY.fresh (h := h') (m := m) N hs, sgR_up _ _ _ _ (fun p hp => List.mem_append_left _ hp) hr⟩) hc
theorem ev_corners {tab : List (List Int)} {sg : List (List (List Int × Int))} (c : Cx w mean mg mb A h₀ L kd ku) (hd : 10 ≤ kd) (hu : 80 ≤ ku) (hY : PlainY Y) (hf : Ev (model PR w) A h₀ L m Y env f led (EqR (.ref 147))) (hx : Ev (model PR w) A h₀ L m Y env e led (TabR tab)) (he : Ev (model PR w) A h₀ L m Y env e' led (SgR sg))
    (hz : ∀ r ∈ tab, r.length ≤ 100) (ht : ∀ r c, -2 ^ 64 < cellT tab r c ∧ cellT tab r c < 2 ^ 64) (ho : ∀ os ∈ sg, ∀ o ∈ os, ∀ (i : Nat) (c : Int), o.1[i]? = some c → ∃ row : List Int, tab[i]? = some row ∧ 0 ≤ c ∧ c < row.length) (hs1 : sg.length ≤ 100) (hs2 : ∀ os ∈ sg, os.length ≤ 100) (hs3 : ∀ os ∈ sg, ∀ o ∈ os, o.1.length ≤ 100) (hs4 : tab.length ≤ 100)
    (hc : eval (.Call f [e, e'] [] pos) env = (do callWith pos (← eval f env) [] (backTo pos (starEach [e, e'] env)) (backToKw pos (keywordEach [] env))) := by rfl)
    (he1 : starEach [e, e'] env = (false, eval e env) :: starEach [e'] env := by rfl) (he2 : starEach [e'] env = (false, eval e' env) :: starEach [] env := by rfl) (hp : (backTo pos (starEach [e'] env)).any (·.1) = false := by rfl) :
    Ev (model PR w) A h₀ L m Y env (.Call f [e, e'] [] pos) led (ListR IntR (sg.map fun os => cornerF tab os 0)) :=
  ev_callF c (gf_lawcorners rfl w).2 hf (sp_cons hx (sp_cons he sp_nil (sgR_up _) he2) (tabR_up _) he1) (fun l vs hl' r => by
    obtain ⟨v, v', rfl, r1, r2⟩ := all2_two r
    refine ws_spec' c hd hu (corners w mean mg mb (Y ++ l) v v' tab sg (tabR_up _ _ _ _ .add r1) (sgR_up _ _ _ _ .add r2) hz ht ho hs1 hs2 hs3 hs4) fun r tl h' N o => ?_
    obtain ⟨D, vs, n, rfl, rfl, hw⟩ := o
    exact ⟨hY.fresh (h := h') (m := m) N (fun p hp => by rw [List.mem_singleton.mp hp]; rfl), D, vs, n, rfl, by simp, hw⟩) hc he1 hp
end
end Mine
end
noncomputable section
open PySem PySem.W PyProof.Rows PySem.Calls PySem.Spec
set_option maxRecDepth 100000
set_option maxHeartbeats 4000000
set_option linter.unusedVariables false
namespace Mine
open LCg
/-- the law's own text, as the heap has it -/
noncomputable def bodyOf (K : Frag) (a : Addr) : List Stmt := match K.lookup a with
  | some o => (match o.data with
    | .func fd => (match fd.body with
      | .stmts b => b
      | _ => [])
    | _ => [])
  | none => []
noncomputable def scopeOf (K : Frag) (a : Addr) : Scope := match K.lookup a with
  | some o => (match o.data with
    | .func fd => fd.scope
    | _ => default)
  | none => default
noncomputable abbrev lawB (w : World) : List Stmt := bodyOf (hd.heap_39 w.params) 173
noncomputable abbrev lawS (w : World) : Scope := scopeOf (hd.heap_39 w.params) 173
noncomputable abbrev lawE (w : World) (L : Addr) (cd : Value) : Env := envOfC "law" (lawS w) L 173 cd
noncomputable abbrev st (w : World) (i : Nat) : Stmt := (lawB w).getD i (.Pass default)
section
variable {w : World} {mean : ExcName → Option Value} {mg mb : Str → Option Value} {A : Around} {h₀ : Heap} {L : Addr} {m : Str → Option Value} {Y led : Lg} {kd ku : Nat} {s : Shared} {Q : Flow → Shared → Prop} {E : Value → Shared → Prop} {cd : Value}
/-- a source of members not told in full -/
structure ItS {α : Type} (prog : Program) (w : World) (A : Around) (h₀ : Heap) (L : Addr) (m : Str → Option Value) (Y : Lg) (env : Env) (iter target : Expr) (led' : Lg) (P : List α → Prop) (IR : α → Heap → Lg → Value → Prop) : Prop where
  go : ∀ (s : Shared) (Q E : Value → Shared → Prop), At h₀ L m Y led' s.heap →
    (∀ xs I h' tk' l1 fx ws Pv, P xs → At h₀ L m Y l1 h' → Sub led' l1 → SrcOk prog w A target h₀ L fx ws xs.length Pv I h' → (∀ p ∈ fx, p ∈ l1) → (∀ p ∈ Y ++ l1, p.1 ∉ ws.map (·.1)) → (ws.map (·.1)).Nodup →
      (∀ i v h l2, Sub l1 l2 → News h₀ L h l2 → Pv i v h → ∃ x, xs[i]? = some x ∧ IR x h l2 v) → Q (.ref I) { s with heap := h', toks := tk' }) →
    wpAny (model prog w) A (eval iter env) (fun xv s₁ => wpAny (model prog w) A (pyIter xv) Q E s₁) E s
theorem itS_list {prog : Program} {env : Env} {iter target : Expr} {α : Type} {R : α → Rp} {P : List α → Prop} (hh : A.handled = none) (x : Ev (model prog w) A h₀ L m Y env iter led (fun l v => ∃ xs, P xs ∧ ListR R xs l v)) (u : ∀ x, Up (R x)) : ∀ l', Sub led l' → ItS prog w A h₀ L m Y env iter target l' P (NameIR R) := by
  refine fun l' hs => ItS.mk fun s Q E at0 k => ?_
  refine (x l' hs).go s _ _ at0 fun v h1 t1 l1 at1 s1 r1 => ?_
  obtain ⟨xs, hP, a, vs, n, rfl, hm, r⟩ := r1
  refine it_list (target := target) hh at1.fr at1.ne (List.mem_append_right _ hm) rfl rfl fun h' S F N hlt => ?_
  rw [← r.length] at S
  refine k xs _ _ _ l1 _ _ _ hP ⟨F, N, at1.nd, at1.off⟩ s1 S (fun p hp => by rw [List.mem_singleton.mp hp]; exact hm) (fun p hp hq => ?_) (by simp) (fun i v h l2 s2 _ hv => ?_)
  · have := List.mem_singleton.mp hq
    exact absurd (hlt p hp) (by rw [this]; exact Nat.lt_irrefl _)
  · obtain ⟨x, hx, r⟩ := r.get' hv
    exact ⟨x, hx, u x _ _ _ s2 r⟩
theorem ev_compS {prog : Program} {env : Env} {α β : Type} {elt target iter : Expr} {ifs : List Expr} {scope : Scope} {cl : List (Str × Addr)} {pos : Pos} {IR : α → Heap → Lg → Value → Prop} {Own : Addr → Lg → Lg → α → Prop} {g : α → Option β} {Rb : β → Rp} {P : List α → Prop}
    (hit : ∀ l', Sub led l' → ItS prog w A h₀ L m Y env iter target l' P IR) (hsz : ∀ xs, P xs → xs.length ≤ sizeLine)
    (tgt : ∀ C, TgtOk prog w A h₀ L m target (cenvOf scope cl C env) C (cellAddrs (C + 1) scope.names) IR (Own C))
    (body : ∀ C Y' led' x, (∃ xs, P xs ∧ x ∈ xs) → Sub Y Y' → Sub led led' → Own C Y' led' x → Body (model prog w) A h₀ L m Y' (cenvOf scope cl C env) ifs elt led' (g x) Rb)
    (ub : ∀ y, Up (Rb y)) (hclos : closureFor scope env = pure cl := by rfl) (hkind : scope.kind = .function := by rfl) (hnames : ∀ y ∈ scope.names, y.2 = .local → scope.names.lookup y.1 = some .local := by decide) (hs : ∀ x, foldedSetIterable iter env x = pure x := by intro _; rfl) :
    Ev (model prog w) A h₀ L m Y env (.ListComp elt [⟨target, iter, ifs, 0⟩] scope pos) led (fun l v => ∃ xs, P xs ∧ ListR Rb (xs.filterMap g) l v) := by
  refine fun l' hsub => Ws.mk fun s Q E at0 k => ?_
  refine ListComp_B (h₀ := h₀) (L := L) (m := m) hclos hkind hnames ?_ hs
  refine (hit l' hsub).go s _ _ at0 fun xs I h' tk' l1 fx ws Pv hP at1 s1 S hfx hoff hnd hitem => ?_
  refine blk_ev (IR := IR) (Own := Own) (g := g) (Rb := Rb) at1 S (hsz xs hP) (fun p hp => List.mem_append_right _ (hfx p hp)) hoff hnd hitem tgt (fun C Y' led' x hx hy _ hl ho => body C Y' led' x ⟨xs, hP, hx⟩ hy (hsub.trans (s1.trans hl)) ho) ub fun D ys c hc ho hD r => ?_
  intro h tk F N
  refine k _ _ _ ((D, lst ys) :: c) ⟨F, fun p hp => N p ?_, at1.nd, fun p hp hm => ?_⟩ (s1.trans (hc.trans .cons)) ⟨xs, hP, D, ys, _, rfl, .head _, r.mono fun b v h => ub b _ _ _ .cons h⟩
  · rcases List.mem_append.mp hp with hp | hp
    · simp [hp]
    · rcases List.mem_cons.mp hp with rfl | hp <;> simp [*]
  · rcases List.mem_cons.mp hp with rfl | hp
    · obtain ⟨q, hq, e⟩ := List.mem_map.mp hm
      exact hD q (List.mem_append_left _ hq) e
    · exact ho p hp hm
/-- what a member of cells is -/
noncomputable def CellRp (_ : Unit) : Rp := fun l v => ∃ i : Int, (0 ≤ i ∧ i < 10 ^ 9) ∧ IntR i l v
theorem CellRp.up (u : Unit) : Up (CellRp u) := fun _ _ _ _ h => h
theorem sum_mod : ∀ (ns : List Int), 0 ≤ (ns.map fun x : Int => x % 1000000).sum ∧ (ns.map fun x : Int => x % 1000000).sum ≤ 1000000 * (ns.length : Int)
  | [] => by simp
  | n :: ns => by
    have := sum_mod ns
    simp only [List.map_cons, List.sum_cons, List.length_cons]
    omega
noncomputable def ModR : Rp := fun l v => ∃ xs : List Int, xs.length ≤ 60 ∧ ListR IntR (xs.filterMap fun x : Int => some (x % 1000000)) l v
theorem ModR.up : Up ModR := fun _ _ _ hs ⟨xs, hp, r⟩ => ⟨xs, hp, listI_up _ _ _ _ hs r⟩
theorem s0 (c : Cx w mean mg mb A h₀ L kd ku) (at0 : At h₀ L m Y led s.heap) {d : Addr} {vs : List Value} {ns : List Int} (hd : h₀.IsList d vs.toArray) (hi : IntsAre vs ns) (hsz : ns.length ≤ sizeLine) (hs : CellV Y (L + 1) (.ref d)) (hc : HasCell Y (L + 2))
    (k : ∀ v h' tk' led' Y', SetC (L + 2) v Y Y' → At h₀ L m Y' led' h' → Sub led led' → ListR CellRp [(), (), (), ()] led' v → Q .next { s with heap := h', toks := tk' }) :
    Wp (model PR w) A (exec (st w 0) (lawE w L cd)) Q E s := by
  refine ex_cell (R := ListR CellRp [(), (), (), ()]) at0 ?_ hc k
  refine ev_comp (xs := enumL [40, 102, 10003, 11]) (g := fun _ => some ()) (Rb := CellRp) rfl rfl (by decide) (it_enumT (R := IntR) c.hh (nm_built c (bf_enumerate rfl w).1 (bf_enumerate rfl w).2) (ev_tup (sp_cons ev_int (sp_cons ev_int (sp_cons ev_int (sp_cons ev_int sp_nil IntR.up) IntR.up) IntR.up) IntR.up) (ups_cons IntR.up (ups_cons IntR.up (ups_cons IntR.up (ups_cons IntR.up ups_nil))))) (fun _ => IntR.up)) (Nat.le_of_ble_eq_true rfl)
    (fun C => tgt_pair c.hh (fun _ => IntR.up) (fun _ => IntR.up) rfl rfl rfl (by decide) (by decide) (by decide)) (fun C Y' led' x hx hY hN hl ho => ?_) CellRp.up
  obtain ⟨o1, o2⟩ := ho
  obtain ⟨hx1, hx2⟩ : (0 ≤ x.1 ∧ x.1 < 4) ∧ (0 ≤ x.2 ∧ x.2 ≤ 10003) := by
    simp only [enumL, List.zipIdx_cons, List.zipIdx_nil, List.map_cons, List.map_nil, List.mem_cons, List.not_mem_nil, or_false] at hx
    rcases hx with rfl | rfl | rfl | rfl <;> decide
  refine ⟨ifs_none, ?_⟩
  refine ev_bin (R2 := fun l v => ∃ i : Int, (0 ≤ i ∧ i ≤ 60000000) ∧ IntR i l v) (o2 _) (ev_b1 (R := ModR) ModR.up (nm_built c (bf_sum rfl w).1 (bf_sum rfl w).2) ?inner ?call) IntR.up ?add
  case inner =>
    exact ev_compS (P := fun xs : List Int => xs.length ≤ 60) (g := fun x : Int => some (x % 1000000)) (Rb := IntR) (itS_list c.hh (Ev.imp (ev_some60 (ev_first60 hd hi hsz (nm_cl EqR.up (hs.sub hY) rfl)) (pt_some (o1 _)) (pt_some ev_int) (by decide)) fun l v _ h => h) (fun _ => IntR.up)) (fun xs hp => Nat.le_trans hp (by decide))
      (fun C => tgt_name (fun _ => IntR.up) rfl rfl (by decide)) (fun C Y2 l2 x _ hY2 hl2 own => ⟨ifs_none, ev_mod (own _) ev_int (by decide)⟩) (fun _ => IntR.up)
  case call =>
    rintro l v hl ⟨xs, hp, r⟩
    refine (ws_sum c.hh r).imp fun l' v' _ r' => ⟨_, ?_, r'⟩
    have h1 := sum_mod xs
    have e : (xs.filterMap fun x : Int => some (x % 1000000)) = xs.map fun x : Int => x % 1000000 := by simp
    rw [e]
    omega
  case add =>
    rintro l a b hl ⟨t, rfl⟩ ⟨i, hi, t', rfl⟩
    exact Ws.mk fun s Q E at0 k => add_int (k _ _ _ _ at0 .rfl ⟨x.2 + i, by omega, _, rfl⟩)
end
end Mine
end
noncomputable section
open PySem PySem.W PyProof.Rows PySem.Calls PySem.Spec
set_option maxRecDepth 100000
set_option maxHeartbeats 4000000
set_option linter.unusedVariables false
namespace Mine
open LCg
/-- the places of a lead -/
noncomputable def placesL (c : Int) : List Int := (List.range (c % 10 % 4).toNat).map fun i : Nat => 1 + (i : Int)
noncomputable def signL (c p : Int) : Str := Txt.item " \t" (c / 10 ^ p.toNat % 2)
noncomputable def leadF (c : Int) : Str := Txt.join "" ((placesL c).filterMap fun p => some (signL c p)) ++ " "
section
variable {w : World} {mean : ExcName → Option Value} {mg mb : Str → Option Value} {A : Around} {h₀ : Heap} {L : Addr} {m : Str → Option Value} {Y led : Lg} {kd ku : Nat} {s : Shared} {Q : Flow → Shared → Prop} {E : Value → Shared → Prop} {cd : Value}
theorem places_le {c p : Int} (h : p ∈ placesL c) : 1 ≤ p ∧ p ≤ 3 := by
  obtain ⟨i, hi, rfl⟩ := List.mem_map.mp h
  have := List.mem_range.mp hi
  omega
theorem ten_pow {p : Int} (h1 : 1 ≤ p) (h2 : p ≤ 3) : 0 < (10 : Int) ^ p.toNat ∧ (10 : Int) ^ p.toNat < 1073741824 := by
  have : p = 1 ∨ p = 2 ∨ p = 3 := by omega
  rcases this with rfl | rfl | rfl <;> decide
theorem signs_len : ∀ (l : List Int) (f : Int → Str), (∀ p ∈ l, (f p).length ≤ 1) → ((l.filterMap fun p => some (f p)).map fun x => x.length).sum ≤ l.length
  | [], _, _ => by simp
  | p :: l, f, h => by
    have h1 := signs_len l f fun q hq => h q (.tail _ hq)
    have h2 := h p (.head _)
    have e : ((p :: l).filterMap fun p => some (f p)) = f p :: l.filterMap fun p => some (f p) := rfl
    rw [e, List.map_cons, List.sum_cons, List.length_cons]
    omega
theorem item_len1 (x : Str) (i : Int) : (Txt.item x i).length = 1 := rfl
theorem item_len (x : Str) (i : Int) : (Txt.item x i).length ≤ 1 := Nat.le_of_eq (item_len1 x i)
theorem lead_join (c : Int) : JoinOk "" ((placesL c).filterMap fun p => some (signL c p)) = true := by
  refine joinOk_of_weight ?_ (by decide)
  have h1 := signs_len (placesL c) (signL c) fun p _ => item_len _ _
  have h2 : (placesL c).length ≤ 3 := by simp [placesL]; omega
  have h3 : ((placesL c).filterMap fun p => some (signL c p)).length = (placesL c).length := by simp
  omega
theorem places_len (c : Int) : (placesL c).length ≤ 3 := by simp [placesL]; omega
theorem join_len (c : Int) : (Txt.join "" ((placesL c).filterMap fun p => some (signL c p))).length ≤ 3 := by
  have h := KT.join_ones ((placesL c).filterMap fun p => some (signL c p)) fun x hx => by
    obtain ⟨p, _, e⟩ := List.mem_filterMap.mp hx
    cases e
    exact item_len1 _ _
  have h3 : ((placesL c).filterMap fun p => some (signL c p)).length = (placesL c).length := by simp
  have := places_len c
  exact Nat.le_trans (Nat.le_of_eq h) (by omega)
theorem s1 (c : Cx w mean mg mb A h₀ L kd ku) (at0 : At h₀ L m Y led s.heap) {c0 c1 c2 c3 : Int} (hp : ∀ c ∈ [c0, c1, c2, c3], 0 ≤ c ∧ c < 10 ^ 9) {vc : Value} (hc : CellV Y (L + 2) vc) (hr : ListR IntR [c0, c1, c2, c3] led vc)
    (k : ∀ v h' tk' led', At h₀ L (fun z => if z = "leads" then some v else m z) Y led' h' → Sub led led' → ListR StrR [leadF c0, leadF c1, leadF c2, leadF c3] led' v → Q .next { s with heap := h', toks := tk' }) :
    Wp (model PR w) A (exec (st w 1) (lawE w L cd)) Q E s := by
  refine ex_compL (xs := [c0, c1, c2, c3]) (g := fun c => some (leadF c)) (Rb := StrR) at0 (it_ofList c.hh (nm_cl (listI_up _) hc hr) (fun _ => IntR.up)) (Nat.le_of_ble_eq_true rfl)
    (fun C => tgt_cell (cl := []) rfl rfl rfl) (fun C Y' led' x hx hY hN hl ho => ?_) (fun _ => StrR.up) k
  obtain ⟨hx0, hx1⟩ := hp x hx
  obtain ⟨v, hv, rv⟩ := ho
  refine ⟨ifs_none, ev_cat (ev_strJoin ev_str (ev_comp (xs := placesL x) (g := fun p => some (signL x p)) (Rb := StrR) rfl rfl (by decide) (it_ofRange (n := (x % 10 % 4).toNat) c.hh (ev_range2 (nm_built c (bf_range rfl w).1 (bf_range rfl w).2) ev_int (ev_add ev_int (ev_mod (ev_mod (nm_cl IntR.up hv rv) ev_int (by decide)) ev_int (by decide)))) (small_one (by omega) (by omega) (by omega) (by omega)) (by rw [rangeSize_nat]; omega)) ?_ (fun C2 => tgt_name (fun _ => IntR.up) rfl rfl (by decide)) (fun C2 Y2 l2 p hp2 hY2 hN2 hl2 own => ?_) (fun _ => StrR.up)) (lead_join x)) ev_str (Nat.le_trans (Nat.add_le_add_right (join_len x) 1) (by decide))⟩
  · have h100 : (100 : Nat) ≤ sizeLine := by decide
    simp [placesL]
    omega
  · obtain ⟨hp1, hp2⟩ := places_le hp2
    obtain ⟨t1, t2⟩ := ten_pow hp1 hp2
    refine ⟨ifs_none, ev_itemS ev_str (ev_mod (ev_div (nm_cl IntR.up (hv.sub hY2) (IntR.up _ _ _ hl2 rv)) (ev_pow ev_int (own _) (by omega) (by omega) (by decide)) t1 t2) ev_int (by decide)) (by omega) ?_ (by decide)⟩
    show _ < (2 : Int)
    omega
end
end Mine
end
noncomputable section
open PySem PySem.W PyProof.Rows PySem.Calls PySem.Spec
set_option maxRecDepth 100000
set_option maxHeartbeats 4000000
set_option linter.unusedVariables false
namespace Mine
open LCg
theorem two (x : Int) : x % 2 = 0 ∨ x % 2 = 1 := by omega
theorem mod3 (x : Int) : x % 3 = 0 ∨ x % 3 = 1 ∨ x % 3 = 2 := by omega
noncomputable def upF (c p : Int) : Int := c / 10000 % 10 % p
/-- the least common upper of two, as the text finds it -/
noncomputable def meetF (ch : List (List Int)) (x y : Nat) : Int := (((ch.getD x []).filter fun o => (ch.getD y []).any fun z => z == o)[0]?).getD 0
noncomputable def chainsF (u2 u3 : Int) : List (List Int) := chl [0, 0, u2, u3] 3
theorem meet_some : ∀ u2 ∈ [(0 : Int), 1], ∀ u3 ∈ [(0 : Int), 1, 2], ∀ x, x < 4 → ∀ y, y < 4 → (((chainsF u2 u3).getD x []).filter fun o => ((chainsF u2 u3).getD y []).any fun z => z == o)[0]? = some (meetF (chainsF u2 u3) x y) := by decide
theorem chains_len : ∀ u2 ∈ [(0 : Int), 1], ∀ u3 ∈ [(0 : Int), 1, 2], (chainsF u2 u3).length = 4 ∧ ∀ ch ∈ chainsF u2 u3, ch.length ≤ 4 := by decide
noncomputable def meetsF (u2 u3 : Int) : List (List Int) := (List.range 4).map fun x => (List.range 4).map fun y => meetF (chainsF u2 u3) x y
section
variable {w : World} {mean : ExcName → Option Value} {mg mb : Str → Option Value} {A : Around} {h₀ : Heap} {L : Addr} {m : Str → Option Value} {Y led : Lg} {kd ku : Nat} {s : Shared} {Q : Flow → Shared → Prop} {E : Value → Shared → Prop} {cd : Value}
theorem body_if {β : Type} {M : Model} {cenv : Env} {t elt : Expr} {b : Bool} {y : β} {Rb : β → Rp} (ht : Te M A h₀ L m Y cenv t led b) (he : b = true → Ev M A h₀ L m Y cenv elt led (Rb y)) : Body M A h₀ L m Y cenv [t] elt led (if b = true then some y else none) Rb := by
  cases b with
  | false => exact ifs_one ht
  | true => exact ⟨ifs_one ht, he rfl⟩
theorem filt_if {α : Type} (p : α → Bool) : ∀ l : List α, (l.filterMap fun o => if p o = true then some o else none) = l.filter p
  | [] => rfl
  | o :: l => by
    have ih := filt_if p l
    cases h : p o with
    | true => simp [h, ih]
    | false => simp [h, ih]
theorem Ev.eqL {α : Type} {M : Model} {env : Env} {e : Expr} {R : α → Rp} {xs ys : List α} (x : Ev M A h₀ L m Y env e led (ListR R xs)) (h : xs = ys) : Ev M A h₀ L m Y env e led (ListR R ys) := h ▸ x
theorem s2 (c : Cx w mean mg mb A h₀ L kd ku) (at0 : At h₀ L m Y led s.heap) {c0 c1 c2 c3 : Int} {vc : Value} (hc : CellV Y (L + 2) vc) (hr : ListR IntR [c0, c1, c2, c3] led vc) (hu : HasCell Y (L + 3))
    (k : ∀ v h' tk' led' Y', SetC (L + 3) v Y Y' → At h₀ L m Y' led' h' → Sub led led' → ListR IntR [0, 0, upF c2 2, upF c3 3] led' v → Q .next { s with heap := h', toks := tk' }) :
    Wp (model PR w) A (exec (st w 2) (lawE w L cd)) Q E s := by
  refine ex_cell (R := ListR IntR ([0] ++ [upF c1 1, upF c2 2, upF c3 3])) at0 (ev_join (fun _ => IntR.up) (ev_list (R := IntR) (xs := [0]) (sp_cons ev_int sp_nil IntR.up) (fun _ => IntR.up)) ?_ (Nat.le_of_ble_eq_true rfl)) hu fun v h' tk' led' Y' hY at1 hl r => ?_
  · refine Ev.eqL (xs := ([(1 : Int), 2, 3]).filterMap fun p => some (upF (([c0, c1, c2, c3] : List Int).getD p.toNat 0) p)) ?_ rfl
    refine ev_comp (xs := [(1 : Int), 2, 3]) (g := fun p : Int => some (upF (([c0, c1, c2, c3] : List Int).getD p.toNat 0) p)) (Rb := IntR) rfl rfl (by decide) (it_ofTup (R := IntR) c.hh (ev_tup (sp_cons ev_int (sp_cons ev_int (sp_cons ev_int sp_nil IntR.up) IntR.up) IntR.up) (ups_cons IntR.up (ups_cons IntR.up (ups_cons IntR.up ups_nil)))) (fun _ => IntR.up)) (by decide)
      (fun C => tgt_name (fun _ => IntR.up) rfl rfl (by decide)) (fun C Y' led' p hp hY hN hl own => ⟨ifs_none, ?_⟩) (fun _ => IntR.up)
    have hp3 : (1 ≤ p ∧ p ≤ 3) ∧ ([c0, c1, c2, c3] : List Int)[p.toNat]? = some (([c0, c1, c2, c3] : List Int).getD p.toNat 0) := by
      simp only [List.mem_cons, List.not_mem_nil, or_false] at hp
      rcases hp with rfl | rfl | rfl <;> exact ⟨by decide, rfl⟩
    exact ev_mod (ev_mod (ev_div (ev_item (fun _ => IntR.up) (nm_cl (listI_up _) (hc.sub hY) (listI_up _ _ _ _ hl hr)) (own _) (by omega) hp3.2 (by omega)) ev_int (by decide) (by decide)) ev_int (by decide)) (own _) (by omega)
  · refine k v h' tk' led' Y' hY at1 hl ?_
    have e : upF c1 1 = 0 := by unfold upF; omega
    rw [e] at r
    exact r
theorem s3 (c : Cx w mean mg mb A h₀ L kd ku) (hd : 10 ≤ kd) (hu : 80 ≤ ku) (pl : PlainY Y) (at0 : At h₀ L m Y led s.heap) {u2 u3 : Int} {vu : Value} (hv : CellV Y (L + 3) vu) (hr : ListR IntR [0, 0, u2, u3] led vu) (h2 : u2 = 0 ∨ u2 = 1) (h3 : u3 = 0 ∨ u3 = 1 ∨ u3 = 2) (hc : HasCell Y (L + 4))
    (k : ∀ v v' h' tk led' Y', SetC (L + 4) v Y Y' → At h₀ L (fun z => if z = "signed" then some v' else m z) Y' led' h' → Sub led led' → ListR (ListR IntR) (chainsF u2 u3) led' v → SgR (toldS 4) led' v' → Q .next { s with heap := h', toks := tk }) :
    Wp (model PR w) A (exec (st w 3) (lawE w L cd)) Q E s :=
  ex_twoCL c.hh at0 hc (ev_chains c hd hu pl (nm_glob c (gf_lawchains rfl w).1) (nm_cl (listI_up _) hv hr) h2 h3) (ev_sgn c hd hu pl (nm_glob c (gf_lawsigned rfl w).1)) (ListR.up listI_up) (sgR_up _) k
theorem s4 (c : Cx w mean mg mb A h₀ L kd ku) (at0 : At h₀ L m Y led s.heap) {u2 u3 : Int} {vh : Value} (hv : CellV Y (L + 4) vh) (hr : ListR (ListR IntR) (chainsF u2 u3) led vh) (h2 : u2 = 0 ∨ u2 = 1) (h3 : u3 = 0 ∨ u3 = 1 ∨ u3 = 2) (hc : HasCell Y (L + 5))
    (k : ∀ v h' tk' led' Y', SetC (L + 5) v Y Y' → At h₀ L m Y' led' h' → Sub led led' → ListR (ListR IntR) (meetsF u2 u3) led' v → Q .next { s with heap := h', toks := tk' }) :
    Wp (model PR w) A (exec (st w 4) (lawE w L cd)) Q E s := by
  have m2 : u2 ∈ [(0 : Int), 1] := by simp; exact h2
  have m3 : u3 ∈ [(0 : Int), 1, 2] := by simp; exact h3
  obtain ⟨cl1, cl2⟩ := chains_len u2 m2 u3 m3
  have h100 : (100 : Nat) ≤ sizeLine := by decide
  have uch : Up (ListR (ListR IntR) (chainsF u2 u3)) := ListR.up listI_up
  have row : ∀ x : Nat, x < 4 → (chainsF u2 u3)[x]? = some ((chainsF u2 u3).getD x []) := fun x hx => by
    rw [List.getD_eq_getElem?_getD, List.getElem?_eq_getElem (by omega)]
    rfl
  have nat4 : ∀ z : Int, z ∈ (List.range 4).map (fun i : Nat => 0 + (i : Int)) → ∃ i : Nat, i < 4 ∧ z = (i : Int) := fun z hz => by
    obtain ⟨i, hi, e⟩ := List.mem_map.mp hz
    exact ⟨i, List.mem_range.mp hi, by omega⟩
  refine ex_cell (R := ListR (ListR IntR) (meetsF u2 u3)) at0 ?_ hc k
  refine Ev.eqL (xs := ((List.range 4).map fun i : Nat => 0 + (i : Int)).filterMap fun x : Int => some (((List.range 4).map fun i : Nat => 0 + (i : Int)).filterMap fun y : Int => some (meetF (chainsF u2 u3) x.toNat y.toNat))) ?_ (by rfl)
  refine ev_comp (xs := (List.range 4).map fun i : Nat => 0 + (i : Int)) (g := fun x : Int => some (((List.range 4).map fun i : Nat => 0 + (i : Int)).filterMap fun y => some (meetF (chainsF u2 u3) x.toNat y.toNat))) (Rb := ListR IntR) rfl rfl (by decide) (it_ofRange c.hh (ev_range1 (nm_built c (bf_range rfl w).1 (bf_range rfl w).2) ev_int) (by decide) (by decide)) (by decide)
    (fun C => tgt_cell rfl rfl rfl) (fun C Y' led' x hx hY hN hl own => ⟨ifs_none, ?_⟩) listI_up
  obtain ⟨vx, hvx, rx⟩ := own
  obtain ⟨i, hi, rfl⟩ := nat4 x hx
  refine ev_comp (xs := (List.range 4).map fun i : Nat => 0 + (i : Int)) (g := fun y : Int => some (meetF (chainsF u2 u3) (i : Int).toNat y.toNat)) (Rb := IntR) rfl rfl (by decide) (it_ofRange c.hh (ev_range1 (nm_built c (bf_range rfl w).1 (bf_range rfl w).2) ev_int) (by decide) (by decide)) (by decide)
    (fun C => tgt_cell rfl rfl rfl) (fun C2 Y2 l2 y hy hY2 hN2 hl2 own2 => ⟨ifs_none, ?_⟩) (fun _ => IntR.up)
  obtain ⟨vy, hvy, ry⟩ := own2
  obtain ⟨j, hj, rfl⟩ := nat4 y hy
  refine ev_item (xs := ((chainsF u2 u3).getD i []).filterMap fun o => if ((chainsF u2 u3).getD j []).any (fun z => z == o) then some o else none) (fun _ => IntR.up) ?_ ev_int (by decide) ?_ (by decide)
  · refine ev_comp (xs := (chainsF u2 u3).getD i []) (g := fun o => if ((chainsF u2 u3).getD j []).any (fun z => z == o) then some o else none) (Rb := IntR) rfl rfl (by decide) (it_ofList c.hh (ev_item listI_up (nm_cl uch ((hv.sub hY).sub hY2) (uch _ _ _ (hl.trans hl2) hr)) (nm_cl IntR.up (hvx.sub hY2) (IntR.up _ _ _ hl2 rx)) (by omega) (row i hi) (by omega)) (fun _ => IntR.up)) ?_
      (fun C => tgt_name (fun _ => IntR.up) rfl rfl (by decide)) (fun C3 Y3 l3 o ho hY3 hN3 hl3 own3 => ?_) (fun _ => IntR.up)
    · have := cl2 _ (List.mem_of_getElem? (row i hi))
      omega
    · exact body_if (te_cmp (own3 _) (ev_item listI_up (nm_cl uch (((hv.sub hY).sub hY2).sub hY3) (uch _ _ _ ((hl.trans hl2).trans hl3) hr)) (nm_cl IntR.up (hvy.sub hY3) (IntR.up _ _ _ hl3 ry)) (by omega) (row j hj) (by omega)) IntR.up fun l a b hs ra rb => ws_in ra rb) fun _ => own3 _
  · rw [filt_if]
    exact meet_some u2 m2 u3 m3 i hi j hj
end
end Mine
end
noncomputable section
open PySem PySem.W PyProof.Rows PySem.Calls PySem.Spec
set_option maxRecDepth 100000
set_option maxHeartbeats 4000000
set_option linter.unusedVariables false
namespace Mine
open LCg
theorem str_app_len (x y : Str) : (x ++ y).length = x.length + y.length := by
  show (x.cps ++ y.cps).size = _
  simp [Str.length]
/-- the text that a Whitespace is made of -/
noncomputable def fullF (l : Str) (e : Nat) : Str := l ++ chr1 e ++ " \t"
noncomputable def stF (l : Str) (e : Nat) : WSt := stOf (fullF l e)
noncomputable def spacesF (l0 l1 l2 l3 : Str) : List WSt := [stF l0 120, stF l1 10, stF l2 13, stF l3 35]
noncomputable def pairsF (sp : List WSt) (u2 u3 : Int) : List (WSt × WSt) := [(sp.getD 0 ws0, sp.getD 1 ws0), (sp.getD u2.toNat ws0, sp.getD 2 ws0), (sp.getD u3.toNat ws0, sp.getD 3 ws0)]
noncomputable def lowsF (ps : List (WSt × WSt)) : List (List (Int × Int × Int)) := ps.filterMap fun x => some (wits cLow x.1 x.2 (bound2 x.1 x.2).toNat)
noncomputable def oddsF (ps : List (WSt × WSt)) : List (List (Int × Int × Int)) := ps.filterMap fun x => some (wits cOdd x.1 x.2 (bound2 x.1 x.2).toNat)
noncomputable def boundsF (ps : List (WSt × WSt)) : List Int := ps.filterMap fun x => some (1 + max (run1 x.1) (run1 x.2))
theorem PlainO.noTup {o : Obj} (x : PlainO o) : NoTup o := fun vs n e => x.tup vs n e.symm
section
variable {w : World} {mean : ExcName → Option Value} {mg mb : Str → Option Value} {A : Around} {h₀ : Heap} {L : Addr} {m : Str → Option Value} {Y led : Lg} {kd ku : Nat} {s : Shared} {Q : Flow → Shared → Prop} {E : Value → Shared → Prop} {cd : Value}
noncomputable abbrev LeadsR (l0 l1 l2 l3 : Str) : Rp := ListR StrR [l0, l1, l2, l3]
theorem leadsR_up {l0 l1 l2 l3 : Str} : Up (LeadsR l0 l1 l2 l3) := ListR.up fun _ => StrR.up
theorem s5 (c : Cx w mean mg mb A h₀ L kd ku) (hd : 5 ≤ kd) (hu : 40 ≤ ku) (at0 : At h₀ L m Y led s.heap) {l0 l1 l2 l3 : Str} (hl : ∀ l ∈ [l0, l1, l2, l3], l.length ≤ 4) {vl : Value} (hv : m "leads" = some vl) (hr : LeadsR l0 l1 l2 l3 led vl) (hc : HasCell Y (L + 6))
    (k : ∀ v h' tk' led' Y', SetC (L + 6) v Y Y' → At h₀ L m Y' led' h' → Sub led led' → ListR (WsR w) (spacesF l0 l1 l2 l3) led' v → Q .next { s with heap := h', toks := tk' }) :
    Wp (model PR w) A (exec (st w 5) (lawE w L cd)) Q E s := by
  have h100 : (100 : Nat) ≤ sizeLine := by decide
  refine ex_cell (R := ListR (WsR w) (spacesF l0 l1 l2 l3)) at0 ?_ hc k
  refine Ev.imp (R := fun l v => ∃ xs : List (Str × Str), xs = [l0, l1, l2, l3].zip ((Str.ofString "x\n\r#").cps.toList.map chr1) ∧ ListR (WsR w) (xs.filterMap fun x : Str × Str => some (stOf (x.1 ++ x.2 ++ " \t"))) l v) ?_ ?_
  · refine ev_compS (P := fun xs => xs = [l0, l1, l2, l3].zip ((Str.ofString "x\n\r#").cps.toList.map chr1)) (g := fun x : Str × Str => some (stOf (x.1 ++ x.2 ++ " \t"))) (Rb := WsR w)
      (fun l' hs => ItS.mk fun s Q E at0 k => (it_zip (R := StrR) (xs := [l0, l1, l2, l3]) (y := Str.ofString "x\n\r#") c.hh (nm_built c (bf_zip rfl w).1 (bf_zip rfl w).2) (nm_loc leadsR_up hv (leadsR_up _ _ _ hs hr)) ev_str (fun _ => StrR.up) (by decide +kernel) rfl).go s Q E at0 fun I h' tk' l1 fx ws Pv a b c d e f g => k _ I h' tk' l1 fx ws Pv rfl a b c d e f g) (fun xs hp => by rw [hp]; simp; omega)
      (fun C => tgt_pair c.hh (fun _ => StrR.up) (fun _ => StrR.up) rfl rfl rfl (by decide) (by decide) (by decide)) (fun C Y' led' x hxs hY hl' own => ⟨ifs_none, ?_⟩) (fun _ => WsR.up)
    obtain ⟨xs, rfl, hx⟩ := hxs
    have hx1 : x.1.length ≤ 4 := hl _ (List.of_mem_zip hx).1
    have hx2 : x.2.length = 1 := by
      obtain ⟨cp, _, e⟩ := List.mem_map.mp (List.of_mem_zip hx).2
      rw [← e]
      rfl
    obtain ⟨o1, o2⟩ := own
    have h3 : (" \t" : Str).length = 2 := rfl
    exact ev_wsNew c hd hu (nm_glob c (gf_Whitespace rfl w).1) (ev_cat (ev_cat (o1 _) (o2 _) (by omega)) ev_str (by rw [str_app_len]; omega)) (by rw [str_app_len, str_app_len]; omega)
  · rintro l v hl' ⟨xs, rfl, r⟩
    exact r
theorem s6 (c : Cx w mean mg mb A h₀ L kd ku) (at0 : At h₀ L m Y led s.heap) {sp : List WSt} (hsp : sp.length = 4) {u2 u3 : Int} (h2 : u2 = 0 ∨ u2 = 1) (h3 : u3 = 0 ∨ u3 = 1 ∨ u3 = 2) {vs vu : Value} (hv : CellV Y (L + 6) vs) (hr : ListR (WsR w) sp led vs) (hvu : CellV Y (L + 3) vu) (hru : ListR IntR [0, 0, u2, u3] led vu)
    (k : ∀ v h' tk' led', At h₀ L (fun z => if z = "pairs" then some v else m z) Y led' h' → Sub led led' → ListR (PairR (WsR w) (WsR w)) (pairsF sp u2 u3) led' v → Q .next { s with heap := h', toks := tk' }) :
    Wp (model PR w) A (exec (st w 6) (lawE w L cd)) Q E s := by
  have usp : Up (ListR (WsR w) sp) := ListR.up fun _ => WsR.up
  refine ex_compL (xs := [(1 : Int), 2, 3]) (g := fun p : Int => some (sp.getD (([0, 0, u2, u3] : List Int).getD p.toNat 0).toNat ws0, sp.getD p.toNat ws0)) (Rb := PairR (WsR w) (WsR w)) at0 (it_ofTup (R := IntR) c.hh (ev_tup (sp_cons ev_int (sp_cons ev_int (sp_cons ev_int sp_nil IntR.up) IntR.up) IntR.up) (ups_cons IntR.up (ups_cons IntR.up (ups_cons IntR.up ups_nil)))) (fun _ => IntR.up)) (by decide)
    (fun C => tgt_name (fun _ => IntR.up) rfl rfl (by decide)) (fun C Y' led' p hp hY hN hl own => ⟨ifs_none, ?_⟩) (PairR.up (fun _ => WsR.up) (fun _ => WsR.up)) (fun v h' tk' led' a b r => k v h' tk' led' a b r)
  have hget : ∀ i : Nat, i < 4 → sp[i]? = some (sp.getD i ws0) := fun i hi => by
    rw [List.getD_eq_getElem?_getD, List.getElem?_eq_getElem (by omega)]
    rfl
  have hp3 : (1 ≤ p ∧ p ≤ 3) ∧ ([0, 0, u2, u3] : List Int)[p.toNat]? = some (([0, 0, u2, u3] : List Int).getD p.toNat 0) ∧ 0 ≤ ([0, 0, u2, u3] : List Int).getD p.toNat 0 ∧ ([0, 0, u2, u3] : List Int).getD p.toNat 0 < 3 := by
    simp only [List.mem_cons, List.not_mem_nil, or_false] at hp
    rcases hp with rfl | rfl | rfl
    · exact ⟨by decide, rfl, Int.le_refl 0, (by decide : (0 : Int) < 3)⟩
    · refine ⟨by decide, rfl, ?_⟩
      show 0 ≤ u2 ∧ u2 < 3
      omega
    · refine ⟨by decide, rfl, ?_⟩
      show 0 ≤ u3 ∧ u3 < 3
      omega
  obtain ⟨p1, p2, p3, p4⟩ := hp3
  refine ev_tup (sp_cons (ev_item (fun _ => WsR.up) (nm_cl usp (hv.sub hY) (usp _ _ _ hl hr)) (ev_item (fun _ => IntR.up) (nm_cl (listI_up _) (hvu.sub hY) (listI_up _ _ _ _ hl hru)) (own _) (by omega) p2 (by omega)) p3 (hget _ (by omega)) (by omega))
    (sp_cons (ev_item (fun _ => WsR.up) (nm_cl usp (hv.sub hY) (usp _ _ _ hl hr)) (own _) (by omega) (hget _ (by omega)) (by omega)) sp_nil WsR.up) WsR.up) (ups_cons WsR.up (ups_cons WsR.up ups_nil))
noncomputable abbrev PairsR (w : World) : List (WSt × WSt) → Rp := ListR (PairR (WsR w) (WsR w))
theorem pairR_up (x : WSt × WSt) : Up (PairR (WsR w) (WsR w) x) := PairR.up (fun _ => WsR.up) (fun _ => WsR.up) x
theorem pairsR_up (x : List (WSt × WSt)) : Up (PairsR w x) := ListR.up pairR_up
theorem witsR_up (x : List (Int × Int × Int)) : Up (ListR FigR x) := ListR.up FigR.up
theorem s7 (c : Cx w mean mg mb A h₀ L kd ku) (hd : 10 ≤ kd) (hu : 80 ≤ ku) (pl : PlainY Y) (at0 : At h₀ L m Y led s.heap) {ps : List (WSt × WSt)} (hps : ps.length ≤ 100) {vp : Value} (hv : m "pairs" = some vp) (hr : PairsR w ps led vp)
    (k : ∀ v h' tk' led', At h₀ L (fun z => if z = "lows" then some v else m z) Y led' h' → Sub led led' → ListR (ListR FigR) (lowsF ps) led' v → Q .next { s with heap := h', toks := tk' }) :
    Wp (model PR w) A (exec (st w 7) (lawE w L cd)) Q E s := by
  have h100 : (100 : Nat) ≤ sizeLine := by decide
  refine ex_compL (xs := ps) (g := fun x : WSt × WSt => some (wits cLow x.1 x.2 (bound2 x.1 x.2).toNat)) (Rb := ListR FigR) at0 (it_pairs (it_ofList c.hh (nm_loc (pairsR_up ps) hv hr) pairR_up)) (by omega)
    (fun C => tgt_pair c.hh (fun _ => WsR.up) (fun _ => WsR.up) rfl rfl rfl (by decide) (by decide) (by decide)) (fun C Y' led' x hx hY hN hl own => ⟨ifs_none, ?_⟩) witsR_up k
  exact ev_low c hd hu (fun q hq => (hN q hq).elim (fun h => (pl q h).noTup) id) (own.1 _) (own.2 _)
theorem s8 (c : Cx w mean mg mb A h₀ L kd ku) (hd : 10 ≤ kd) (hu : 80 ≤ ku) (pl : PlainY Y) (at0 : At h₀ L m Y led s.heap) {ps : List (WSt × WSt)} (hps : ps.length ≤ 100) {vp : Value} (hv : m "pairs" = some vp) (hr : PairsR w ps led vp)
    (k : ∀ v h' tk' led', At h₀ L (fun z => if z = "odds" then some v else m z) Y led' h' → Sub led led' → ListR (ListR FigR) (oddsF ps) led' v → Q .next { s with heap := h', toks := tk' }) :
    Wp (model PR w) A (exec (st w 8) (lawE w L cd)) Q E s := by
  have h100 : (100 : Nat) ≤ sizeLine := by decide
  refine ex_compL (xs := ps) (g := fun x : WSt × WSt => some (wits cOdd x.1 x.2 (bound2 x.1 x.2).toNat)) (Rb := ListR FigR) at0 (it_pairs (it_ofList c.hh (nm_loc (pairsR_up ps) hv hr) pairR_up)) (by omega)
    (fun C => tgt_pair c.hh (fun _ => WsR.up) (fun _ => WsR.up) rfl rfl rfl (by decide) (by decide) (by decide)) (fun C Y' led' x hx hY hN hl own => ⟨ifs_none, ?_⟩) witsR_up k
  exact ev_odd c hd hu (fun q hq => (hN q hq).elim (fun h => (pl q h).noTup) id) (own.1 _) (own.2 _)
theorem s9 (c : Cx w mean mg mb A h₀ L kd ku) (hd : 5 ≤ kd) (hu : 40 ≤ ku) (at0 : At h₀ L m Y led s.heap) {ps : List (WSt × WSt)} (hps : ps.length ≤ 100) {vp : Value} (hv : m "pairs" = some vp) (hr : PairsR w ps led vp)
    (k : ∀ v h' tk' led', At h₀ L (fun z => if z = "bounds" then some v else m z) Y led' h' → Sub led led' → ListR IntR (boundsF ps) led' v → Q .next { s with heap := h', toks := tk' }) :
    Wp (model PR w) A (exec (st w 9) (lawE w L cd)) Q E s := by
  have h100 : (100 : Nat) ≤ sizeLine := by decide
  refine ex_compL (xs := ps) (g := fun x : WSt × WSt => some (1 + max (run1 x.1) (run1 x.2))) (Rb := IntR) at0 (it_pairs (it_ofList c.hh (nm_loc (pairsR_up ps) hv hr) pairR_up)) (by omega)
    (fun C => tgt_pair c.hh (fun _ => WsR.up) (fun _ => WsR.up) rfl rfl rfl (by decide) (by decide) (by decide)) (fun C Y' led' x hx hY hN hl own => ⟨ifs_none, ?_⟩) (fun _ => IntR.up) k
  exact ev_add ev_int (ev_max2 c.hh (nm_built c (bf_max rfl w).1 (bf_max rfl w).2) (ev_longest c hd hu (own.1 _)) (ev_longest c hd hu (own.2 _)))
end
end Mine
end
noncomputable section
open PySem PySem.W PyProof.Rows PySem.Calls PySem.Spec
set_option maxRecDepth 100000
set_option maxHeartbeats 4000000
set_option linter.unusedVariables false
namespace Mine
open LCg
/-- data that equals itself -/
structure Sh (d : PyData) (n : Nat) : Prop where
  lay : d.canLay0 = true
  dep : d.depth ≤ n
  same : d.eqv d = true
theorem Sh.int (i : Int) : Sh (.int i) 0 := ⟨by simp [PyData.canLay0], by simp [PyData.depth], by simp [PyData.eqv]⟩
theorem Sh.bool (i : Bool) : Sh (.bool i) 0 := ⟨by simp [PyData.canLay0], by simp [PyData.depth], by simp [PyData.eqv]⟩
theorem Sh.str (x : Str) (h : PyData.strOk x = true) : Sh (.str x) 0 := ⟨by simp [PyData.canLay0, h], by simp [PyData.depth], by simp [PyData.eqv]⟩
theorem Sh.all {n : Nat} : ∀ {ds : List PyData}, (∀ d ∈ ds, Sh d n) → PyData.canLayAll0 ds = true ∧ PyData.depthAll ds ≤ n ∧ PyData.eqvAll ds ds = true
  | [], _ => ⟨by simp [PyData.canLayAll0], by simp [PyData.depthAll], by simp [PyData.eqvAll]⟩
  | d :: ds, h => by
    obtain ⟨a, b, c⟩ := Sh.all (ds := ds) fun x hx => h x (.tail _ hx)
    have z := h d (.head _)
    refine ⟨by simp [PyData.canLayAll0, z.lay, a], ?_, by simp [PyData.eqvAll, z.same, c]⟩
    have := z.dep
    simp only [PyData.depthAll]
    omega
theorem Sh.list {n : Nat} {ds : List PyData} (h : ∀ d ∈ ds, Sh d n) : Sh (.list ds) (n + 1) := by
  obtain ⟨a, b, c⟩ := Sh.all h
  exact ⟨by simp [PyData.canLay0, a], by simp only [PyData.depth]; omega, by simp [PyData.eqv, c]⟩
theorem Sh.tup {n : Nat} {ds : List PyData} (h : ∀ d ∈ ds, Sh d n) : Sh (.tuple ds) (n + 1) := by
  obtain ⟨a, b, c⟩ := Sh.all h
  exact ⟨by simp [PyData.canLay0, a], by simp only [PyData.depth]; omega, by simp [PyData.eqv, c]⟩
theorem Sh.map {α : Type} {n : Nat} {f : α → PyData} {xs : List α} (h : ∀ x ∈ xs, Sh (f x) n) : Sh (.list (xs.map f)) (n + 1) := Sh.list fun d hd => by
  obtain ⟨x, hx, rfl⟩ := List.mem_map.mp hd
  exact h x hx
theorem Sh.shaped {d : PyData} {n : Nat} (x : Sh d n) (h : n ≤ 64) : SeqAt.shaped d = true := by
  have := x.dep
  simp [SeqAt.shaped, x.lay]
  omega
noncomputable def rowF (ls : List Str) (size : Int) : List Int := ls.filterMap fun x => some ((KStt.codes x).foldl (colStep size) 0)
noncomputable def tabF (row : List Int) (mt : List (List Int)) : List (List Int) := (List.range 4).map fun x => (List.range 4).map fun y => row.getD ((mt.getD x []).getD y 0).toNat 0
noncomputable def cornersF (tab : List (List Int)) : List Int := (toldS 4).map fun os => cornerF tab os 0
noncomputable def levsF (sp : List WSt) (size : Int) : List Int := sp.filterMap fun st => some (level st size)
noncomputable def figsF (fs : List (Int × Int × Int)) : List Int := fs.filterMap fun f => some f.1
noncomputable def nearF (n : Int) (fs : List (Int × Int × Int)) : Bool := (figsF fs).any fun x => x == n
noncomputable def sizesF (cs : List Int) : List Int := [1, 2, 3, 4, 5, 7 + cs.sum % 1000]
/-- the table of codes is among the entries -/
noncomputable def TabIn (P : Addr) (Y : Lg) : Prop := ∃ ps : Array Value, (P, tabObj ps) ∈ Y ∧ TriplesOk ps.toList
theorem TabIn.left {P : Addr} {X Y : Lg} (x : TabIn P Y) : TabIn P (X ++ Y) := let ⟨ps, h, t⟩ := x; ⟨ps, List.mem_append_right _ h, t⟩
theorem TabIn.set {P c : Addr} {v : Value} {Y Y' : Lg} (x : TabIn P Y) (h : SetC c v Y Y') (hn : P ≠ c) : TabIn P Y' := let ⟨ps, h1, t⟩ := x; ⟨ps, h.mem h1 hn, t⟩
/-- what the law knows after its first ten lines -/
structure Bag (w : World) (L P : Addr) (ls : List Str) (sp : List WSt) (cs : List Int) (u2 u3 : Int) (m : Str → Option Value) (Y led : Lg) : Prop where
  leads : ∃ v, m "leads" = some v ∧ ListR StrR ls led v
  signed : ∃ v, m "signed" = some v ∧ SgR (toldS 4) led v
  pairs : ∃ v, m "pairs" = some v ∧ PairsR w (pairsF sp u2 u3) led v
  lows : ∃ v, m "lows" = some v ∧ ListR (ListR FigR) (lowsF (pairsF sp u2 u3)) led v
  odds : ∃ v, m "odds" = some v ∧ ListR (ListR FigR) (oddsF (pairsF sp u2 u3)) led v
  bounds : ∃ v, m "bounds" = some v ∧ ListR IntR (boundsF (pairsF sp u2 u3)) led v
  cells : ∃ v, CellV Y (L + 2) v ∧ ListR IntR cs led v
  ups : ∃ v, CellV Y (L + 3) v ∧ ListR IntR [0, 0, u2, u3] led v
  meets : ∃ v, CellV Y (L + 5) v ∧ ListR (ListR IntR) (meetsF u2 u3) led v
  spaces : ∃ v, CellV Y (L + 6) v ∧ ListR (WsR w) sp led v
  has : ∀ i : Nat, 7 ≤ i → i ≤ 12 → HasCell Y (L + i)
  plain : PlainY Y
  tab : TabIn P Y
  offP : ∀ i : Nat, P ≠ L + i
section
variable {w : World} {L P : Addr} {ls : List Str} {sp : List WSt} {cs : List Int} {u2 u3 : Int} {m : Str → Option Value} {Y led : Lg}
theorem figs_up (x : List (Int × Int × Int)) : Up (ListR FigR x) := witsR_up x
theorem ls_up : Up (ListR StrR ls) := ListR.up fun _ => StrR.up
theorem sp_up : Up (ListR (WsR w) sp) := ListR.up fun _ => WsR.up
theorem rowsR_up (x : List (List (Int × Int × Int))) : Up (ListR (ListR FigR) x) := ListR.up figs_up
theorem ex_up {R : Rp} {P : Value → Prop} {led led' : Lg} (u : Up R) (s : Sub led led') (x : ∃ v, P v ∧ R led v) : ∃ v, P v ∧ R led' v := let ⟨v, h, r⟩ := x; ⟨v, h, u _ _ _ s r⟩
theorem Bag.up {led' : Lg} (b : Bag w L P ls sp cs u2 u3 m Y led) (s : Sub led led') : Bag w L P ls sp cs u2 u3 m Y led' :=
  ⟨ex_up ls_up s b.leads, ex_up (sgR_up _) s b.signed, ex_up (pairsR_up _) s b.pairs, ex_up (rowsR_up _) s b.lows, ex_up (rowsR_up _) s b.odds, ex_up (listI_up _) s b.bounds, ex_up (listI_up _) s b.cells, ex_up (listI_up _) s b.ups, ex_up (tabR_up _) s b.meets, ex_up sp_up s b.spaces, b.has, b.plain, b.tab, b.offP⟩
theorem ex_map {R : Rp} {P P' : Value → Prop} (f : ∀ v, P v → P' v) (x : ∃ v, P v ∧ R led v) : ∃ v, P' v ∧ R led v := let ⟨v, h, r⟩ := x; ⟨v, f v h, r⟩
theorem Bag.loc {x : Str} {v : Value} (b : Bag w L P ls sp cs u2 u3 m Y led) (hx : x ∉ (["leads", "signed", "pairs", "lows", "odds", "bounds"] : List Str)) : Bag w L P ls sp cs u2 u3 (fun z => if z = x then some v else m z) Y led := by
  simp only [List.mem_cons, List.not_mem_nil, or_false, not_or] at hx
  obtain ⟨h1, h2, h3, h4, h5, h6⟩ := hx
  exact ⟨ex_map (fun _ h => (if_neg (Ne.symm h1)).trans h) b.leads, ex_map (fun _ h => (if_neg (Ne.symm h2)).trans h) b.signed, ex_map (fun _ h => (if_neg (Ne.symm h3)).trans h) b.pairs, ex_map (fun _ h => (if_neg (Ne.symm h4)).trans h) b.lows, ex_map (fun _ h => (if_neg (Ne.symm h5)).trans h) b.odds, ex_map (fun _ h => (if_neg (Ne.symm h6)).trans h) b.bounds, b.cells, b.ups, b.meets, b.spaces, b.has, b.plain, b.tab, b.offP⟩
theorem Bag.set {i : Nat} {v : Value} {Y' : Lg} (b : Bag w L P ls sp cs u2 u3 m Y led) (h : SetC (L + i) v Y Y') (hi : 7 ≤ i) : Bag w L P ls sp cs u2 u3 m Y' led := by
  have ne : ∀ j : Nat, j ≤ 6 → @Ne Nat (L + j) (L + i) := fun j hj e => by
    have : j = i := Nat.add_left_cancel e
    omega
  exact ⟨b.leads, b.signed, b.pairs, b.lows, b.odds, b.bounds, ex_map (fun _ x => h.old x (ne 2 (by omega))) b.cells, ex_map (fun _ x => h.old x (ne 3 (by omega))) b.ups, ex_map (fun _ x => h.old x (ne 5 (by omega))) b.meets, ex_map (fun _ x => h.old x (ne 6 (by omega))) b.spaces, fun j h1 h2 => h.has (b.has j h1 h2), b.plain.set h, b.tab.set h (b.offP i), b.offP⟩
theorem Bag.left {X : Lg} (b : Bag w L P ls sp cs u2 u3 m Y led) (hX : ∀ p ∈ X, ∃ T, p.2.cls = .type T ∧ NoSeq T) : Bag w L P ls sp cs u2 u3 m (X ++ Y) led :=
  ⟨b.leads, b.signed, b.pairs, b.lows, b.odds, b.bounds, ex_map (fun _ x => x.left) b.cells, ex_map (fun _ x => x.left) b.ups, ex_map (fun _ x => x.left) b.meets, ex_map (fun _ x => x.left) b.spaces, fun j h1 h2 => (b.has j h1 h2).left, PlainY.app hX b.plain, b.tab.left, b.offP⟩
end
end Mine
end
noncomputable section
open PySem PySem.W PyProof.Rows PySem.Calls PySem.Spec
set_option maxRecDepth 100000
set_option maxHeartbeats 4000000
set_option linter.unusedVariables false
namespace Mine
open LCg
theorem sizes_ok {cs : List Int} {a : Int} (h : a ∈ sizesF cs) : 1 ≤ a ∧ a ≤ 2000 := by
  unfold sizesF at h
  simp only [List.mem_cons, List.not_mem_nil, or_false] at h
  rcases h with rfl | rfl | rfl | rfl | rfl | rfl
  iterate 5 decide
  exact ⟨Int.le_trans (by decide) (Int.add_le_add_left (Int.emod_nonneg _ (by decide)) 7), Int.le_trans (Int.add_le_add_left (Int.le_of_lt (Int.emod_lt_of_pos _ (by decide))) 7) (by decide)⟩
theorem ups_ok {u2 u3 x : Int} (h2 : u2 = 0 ∨ u2 = 1) (h3 : u3 = 0 ∨ u3 = 1 ∨ u3 = 2) (hx : x = 0 ∨ x = 0 ∨ x = u2 ∨ x = u3) : 0 ≤ x ∧ x < 4 := by omega
theorem told_ok : (∀ os ∈ toldS 4, ∀ o ∈ os, o.1.length ≤ 100) ∧ (∀ os ∈ toldS 4, os.length ≤ 100) ∧ (toldS 4).length ≤ 100 := by decide +kernel
theorem told_in : ∀ os ∈ toldS 4, ∀ o ∈ os, o.1.length ≤ 4 ∧ ∀ c ∈ o.1, 0 ≤ c ∧ c < 4 := by decide +kernel
theorem tab_len (row : List Int) (mt : List (List Int)) : (tabF row mt).length = 4 := by simp [tabF]
theorem tab_get (row : List Int) (mt : List (List Int)) (i : Nat) (h : i < 4) : (tabF row mt)[i]? = some ((List.range 4).map fun y => row.getD ((mt.getD i []).getD y 0).toNat 0) := by
  simp [tabF, h]
theorem told_row {row : List Int} {mt : List (List Int)} : ∀ os ∈ toldS 4, ∀ o ∈ os, ∀ (i : Nat) (c : Int), o.1[i]? = some c → ∃ r : List Int, (tabF row mt)[i]? = some r ∧ 0 ≤ c ∧ c < r.length := fun os ho o hm i c hi => by
  obtain ⟨h1, h2⟩ := told_in os ho o hm
  have h3 := (List.getElem?_eq_some_iff.mp hi).1
  obtain ⟨h4, h5⟩ := h2 c (List.mem_of_getElem? hi)
  exact ⟨_, tab_get row mt i (by omega), h4, by simpa using h5⟩
theorem getD_all {P : Int → Prop} {l : List Int} (h : ∀ x ∈ l, P x) (h0 : P 0) (i : Nat) : P (l.getD i 0) := by
  rw [List.getD_eq_getElem?_getD]
  cases hx : l[i]? with
  | none => exact h0
  | some x => exact h x (List.mem_of_getElem? hx)
theorem tab_all {P : Int → Prop} {row : List Int} {mt : List (List Int)} (h : ∀ x ∈ row, P x) (h0 : P 0) (r : Nat) (c : Int) : P (cellT (tabF row mt) r c) := by
  refine getD_all (fun y hy => ?_) h0 _
  rw [List.getD_eq_getElem?_getD] at hy
  cases hr : (tabF row mt)[r]? with
  | none => rw [hr] at hy; exact nomatch hy
  | some x =>
    rw [hr] at hy
    obtain ⟨i, _, rfl⟩ := List.mem_map.mp (List.mem_of_getElem? hr)
    obtain ⟨j, _, rfl⟩ := List.mem_map.mp hy
    exact getD_all h h0 _
theorem meets_ok : ∀ u2 ∈ [(0 : Int), 1], ∀ u3 ∈ [(0 : Int), 1, 2], ∀ x, x < 4 → ((meetsF u2 u3)[x]? = some ((meetsF u2 u3).getD x [])) ∧ ∀ y, y < 4 → ((meetsF u2 u3).getD x [])[y]? = some (((meetsF u2 u3).getD x []).getD y 0) ∧ 0 ≤ ((meetsF u2 u3).getD x []).getD y 0 ∧ ((meetsF u2 u3).getD x []).getD y 0 < 4 := by decide +kernel
theorem get_some {α : Type} {l : List α} {i : Nat} {d : α} (h : i < l.length) : l[i]? = some (l.getD i d) := by
  rw [List.getD_eq_getElem?_getD, List.getElem?_eq_getElem h]
  rfl
section
variable {w : World} {mean : ExcName → Option Value} {mg mb : Str → Option Value} {A : Around} {h₀ : Heap} {L P : Addr} {m : Str → Option Value} {Y led : Lg} {kd ku : Nat} {s : Shared} {Q : Flow → Shared → Prop} {E : Value → Shared → Prop} {cd : Value} {ls : List Str} {sp : List WSt} {cs : List Int} {u2 u3 : Int}
theorem s10 (c : Cx w mean mg mb A h₀ L kd ku) (hd : 10 ≤ kd) (hu : 80 ≤ ku) (hE : PassesOwn (model PR w) A (lawE w L cd) E) (at0 : At h₀ L m Y led s.heap) (b : Bag w L P ls sp cs u2 u3 m Y led) (hls : ∀ l ∈ ls, l.length ≤ 10) (hl4 : ls.length = 4) (hsp : sp.length = 4) (h2 : u2 = 0 ∨ u2 = 1) (h3 : u3 = 0 ∨ u3 = 1 ∨ u3 = 2)
    (hrow : ∀ a ∈ sizesF cs, ∀ r ∈ rowF ls a, 0 ≤ r ∧ r ≤ 20000) (hlev : ∀ a ∈ sizesF cs, ∀ r ∈ levsF sp a, 0 ≤ r ∧ r ≤ 20000)
    (hco : ∀ a ∈ sizesF cs, cornersF (tabF (rowF ls a) (meetsF u2 u3)) = pr (levsF sp a) [0, 0, u2, u3] 3)
    (hcb : ∀ a ∈ sizesF cs, ∀ r ∈ pr (levsF sp a) [0, 0, u2, u3] 3, -2 ^ 64 < r ∧ r < 2 ^ 64)
    (hlow : ∀ p, p < 3 → ((lowsF (pairsF sp u2 u3)).getD p []).length ≤ 100) (hodd : ∀ p, p < 3 → ((oddsF (pairsF sp u2 u3)).getD p []).length ≤ 100)
    (hnm : ∀ a ∈ sizesF cs, ∀ p : Nat, p < 3 → (pr (levsF sp a) [0, 0, u2, u3] 3).getD p 0 ≠ 0 →
      [nearF (min a ((boundsF (pairsF sp u2 u3)).getD p 0)) ((lowsF (pairsF sp u2 u3)).getD p []), nearF (min a ((boundsF (pairsF sp u2 u3)).getD p 0)) ((oddsF (pairsF sp u2 u3)).getD p [])] =
      [decide ((pr (levsF sp a) [0, 0, u2, u3] 3).getD p 0 * (pr (levsF sp a) [0, 0, u2, u3] 3).getD (p + 1) 0 ≤ 0), (pr (levsF sp a) [0, 0, u2, u3] 3).getD p 0 * (pr (levsF sp a) [0, 0, u2, u3] 3).getD (p + 1) 0 != 0])
    (k : ∀ m' Y' led' h' tk', At h₀ L m' Y' led' h' → Sub led led' → Y'.map (·.1) = Y.map (·.1) → Bag w L P ls sp cs u2 u3 m' Y' led' → Q .next { s with heap := h', toks := tk' }) :
    Wp (model PR w) A (exec (st w 10) (lawE w L cd)) Q E s := by
  have h100 : (100 : Nat) ≤ sizeLine := by decide
  have m2 : u2 ∈ [(0 : Int), 1] := by simp; exact h2
  have m3 : u3 ∈ [(0 : Int), 1, 2] := by simp; exact h3
  have nat4 : ∀ z : Int, z ∈ (List.range 4).map (fun i : Nat => 0 + (i : Int)) → ∃ i : Nat, i < 4 ∧ z = (i : Int) := fun z hz => by
    obtain ⟨i, hi, e⟩ := List.mem_map.mp hz
    exact ⟨i, List.mem_range.mp hi, by omega⟩
  obtain ⟨vc, hvc, rvc⟩ := b.cells
  refine ex_for at0 (it_ofTup (R := IntR) (xs := sizesF cs) c.hh (ev_tup (sp_cons ev_int (sp_cons ev_int (sp_cons ev_int (sp_cons ev_int (sp_cons ev_int (sp_cons (ev_add ev_int (ev_mod (ev_sum c.hh (nm_built c (bf_sum rfl w).1 (bf_sum rfl w).2) (nm_cl (listI_up _) hvc rvc)) ev_int (by decide))) sp_nil IntR.up) IntR.up) IntR.up) IntR.up) IntR.up) IntR.up) (ups_cons IntR.up (ups_cons IntR.up (ups_cons IntR.up (ups_cons IntR.up (ups_cons IntR.up (ups_cons IntR.up ups_nil))))))) (fun _ => IntR.up))
    (fun i m Y led => Bag w L P ls sp cs u2 u3 m Y led) (fun led' hs => b.up hs) ?turn ?done (hE := hE)
  case done =>
    intro m' Y' led' h' tk' hs hmap hb at1
    exact k m' Y' led' h' tk' at1 hs hmap hb
  case turn =>
    intro i a its m₁ Y₁ led₁ v h tk hx hl hmap hb hcl at1 hir
    have ha : a ∈ sizesF cs := List.mem_of_getElem? hx
    obtain ⟨ha1, ha2⟩ := sizes_ok ha
    refine tg_cl at1 (hb.has 9 (by decide) (by decide)).left fun h' Y' hY at2 => hideT at2 fun Qa sa at2 ka hQa => ?_
    obtain ⟨Y₂, rfl, hY2⟩ := hY.under ((hb.has 9 (by decide) (by decide)).apart at1)
    have hb2 := hb.set hY2 (by decide)
    have hB := hb2.left hcl
    have hS : CellV (its ++ Y₂) (L + 9) v := hY.new
    try dsimp only
    obtain ⟨vl, hvl, rvl⟩ := hB.leads
    refine ex_cons (ex_cell (R := ListR IntR (rowF ls a)) at2 ?row (hB.has 10 (by decide) (by decide)) fun vr h3 tk3 led3 Y3' hY3 at3 s3 r3 => ?_)
    case row =>
      refine ev_comp (xs := ls) (g := fun x : Str => some ((KStt.codes x).foldl (colStep a) 0)) (Rb := IntR) rfl rfl (by decide) (it_ofList c.hh (nm_loc ls_up hvl rvl) (fun _ => StrR.up)) (by omega)
        (fun C => tgt_name (fun _ => StrR.up) rfl rfl (by decide)) (fun C Y' led' x hx hY hN hl own => ⟨ifs_none, ?_⟩) (fun _ => IntR.up)
      exact ev_col c (by omega) (by omega) (nm_glob c (gf_lawcolumn rfl w).1) (own _) (nm_cl IntR.up (hS.sub hY) (IntR.up _ _ _ hl hir)) (hls x hx) ha1 ha2
    obtain ⟨Y3, rfl, hY3'⟩ := hY3.under ((hb2.has 10 (by decide) (by decide)).apart at2)
    have hb3 := (hb2.up s3).set hY3' (by decide)
    have hB3 := hb3.left hcl
    have hS3 : CellV (its ++ Y3) (L + 9) v := hY3.old hS (by intro e; exact absurd (Nat.add_left_cancel e) (by decide))
    have hir3 : IntR a led3 v := IntR.up _ _ _ s3 hir
    have hR3 : CellV (its ++ Y3) (L + 10) vr := hY3.new
    obtain ⟨vm, hvm, rvm⟩ := hB3.meets
    obtain ⟨vg, hvg, rvg⟩ := hB3.signed
    obtain ⟨vu, hvu, rvu⟩ := hB3.ups
    obtain ⟨vs, hvs, rvs⟩ := hB3.spaces
    have hrow' := hrow a ha
    have hrl : (rowF ls a).length = 4 := by simp [rowF, hl4]
    refine ex_cons (ex_loc (R := ListR IntR (cornersF (tabF (rowF ls a) (meetsF u2 u3)))) at3 ?corn fun vk h4 tk4 led4 at4 s4 r4 => ?_)
    case corn =>
      refine ev_corners c hd hu hB3.plain (nm_glob c (gf_lawcorners rfl w).1) ?_ (nm_loc (sgR_up _) hvg rvg) (fun r hr => ?_) (fun r c => tab_all (P := fun x => -2 ^ 64 < x ∧ x < 2 ^ 64) (fun x hx => by have := hrow' x hx; omega) (by decide) r c) told_row told_ok.2.2 told_ok.2.1 told_ok.1 (by rw [tab_len]; omega)
      · refine Ev.eqL (xs := ((List.range 4).map fun i : Nat => 0 + (i : Int)).filterMap fun x : Int => some (((List.range 4).map fun i : Nat => 0 + (i : Int)).filterMap fun y : Int => some ((rowF ls a).getD (((meetsF u2 u3).getD x.toNat []).getD y.toNat 0).toNat 0))) ?_ rfl
        refine ev_comp (xs := (List.range 4).map fun i : Nat => 0 + (i : Int)) (g := fun x : Int => some (((List.range 4).map fun i : Nat => 0 + (i : Int)).filterMap fun y : Int => some ((rowF ls a).getD (((meetsF u2 u3).getD x.toNat []).getD y.toNat 0).toNat 0))) (Rb := ListR IntR) rfl rfl (by decide) (it_ofRange c.hh (ev_range1 (nm_built c (bf_range rfl w).1 (bf_range rfl w).2) ev_int) (by decide) (by decide)) (by decide)
          (fun C => tgt_cell rfl rfl rfl) (fun C Y' led' x hx hY hN hl own => ⟨ifs_none, ?_⟩) listI_up
        obtain ⟨vx, hvx, rx⟩ := own
        obtain ⟨i, hi, rfl⟩ := nat4 x hx
        refine ev_comp (xs := (List.range 4).map fun i : Nat => 0 + (i : Int)) (g := fun y : Int => some ((rowF ls a).getD (((meetsF u2 u3).getD i []).getD y.toNat 0).toNat 0)) (Rb := IntR) rfl rfl (by decide) (it_ofRange c.hh (ev_range1 (nm_built c (bf_range rfl w).1 (bf_range rfl w).2) ev_int) (by decide) (by decide)) (by decide)
          (fun C => tgt_name (fun _ => IntR.up) rfl rfl (by decide)) (fun C2 Y2 l2 y hy hY2 hN2 hl2 own2 => ⟨ifs_none, ?_⟩) (fun _ => IntR.up)
        obtain ⟨j, hj, rfl⟩ := nat4 y hy
        obtain ⟨q1, q2⟩ := meets_ok u2 m2 u3 m3 i hi
        obtain ⟨q3, q4, q5⟩ := q2 j hj
        exact ev_item (fun _ => IntR.up) (nm_cl (listI_up _) ((hR3.sub hY).sub hY2) (listI_up _ _ _ _ (hl.trans hl2) r3)) (ev_item (fun _ => IntR.up) (ev_item listI_up (nm_cl (tabR_up _) ((hvm.sub hY).sub hY2) (tabR_up _ _ _ _ (hl.trans hl2) rvm)) (nm_cl IntR.up (hvx.sub hY2) (IntR.up _ _ _ hl2 rx)) (by omega) q1 (by omega)) (own2 _) (by omega) q3 (by omega)) q4 (get_some (by omega)) (by omega)
      · obtain ⟨i, _, rfl⟩ := List.mem_map.mp hr
        simp
    rw [hco a ha] at r4
    have hb4 := (hb3.up s4).loc (x := "corners") (v := vk) (by decide)
    have hB4 := hb4.left hcl
    obtain ⟨vu, hvu, rvu⟩ := hB4.ups
    obtain ⟨vs, hvs, rvs⟩ := hB4.spaces
    have hir4 : IntR a led4 v := IntR.up _ _ _ s4 hir3
    have hlv : (levsF sp a).length = 4 := by simp [levsF, hsp]
    refine ex_cons (ex_if (c := false) at4 (te_cmp (R1 := ListR IntR (pr (levsF sp a) [0, 0, u2, u3] 3)) (R2 := ListR IntR (pr (levsF sp a) [0, 0, u2, u3] 3)) (nm_loc (listI_up _) (if_pos rfl) r4)
      (ev_prods (ls := levsF sp a) c hd hu hB4.plain (nm_glob c (gf_lawproducts rfl w).1) ?lev (nm_cl (listI_up _) hvu rvu) hlv rfl (getD_all (hlev a ha) (by decide)) (getD_all (P := fun x => 0 ≤ x ∧ x < 4) (fun x hx => ?_) (by decide))) (listI_up _) fun l v1 v2 hl r1 r2 => ?_) fun h5 tk5 led5 at5 s5 => ?_)
    case lev =>
      refine ev_comp (xs := sp) (g := fun x : WSt => some (level x a)) (Rb := IntR) rfl rfl (by decide) (it_ofList c.hh (nm_cl sp_up hvs rvs) (fun _ => WsR.up)) (by omega)
        (fun C => tgt_name (fun _ => WsR.up) rfl rfl (by decide)) (fun C Y' led' x hx hY hN hl own => ⟨ifs_none, ?_⟩) (fun _ => IntR.up)
      exact ev_indent c (by omega) (by omega) (own _) (nm_cl IntR.up (hS3.sub hY) (IntR.up _ _ _ hl hir4)) ha1 ha2
    · simp only [List.mem_cons, List.not_mem_nil, or_false] at hx
      exact ups_ok ‹u2 = 0 ∨ u2 = 1› ‹u3 = 0 ∨ u3 = 1 ∨ u3 = 2› hx
    · have sh : Sh (.list ((pr (levsF sp a) [0, 0, u2, u3] 3).map .int)) 1 := Sh.map fun x _ => Sh.int x
      refine (ws_neD (by have := c.units; omega) (ListR.dat (fun _ => IntR.dat) _) (ListR.dat (fun _ => IntR.dat) _) (sh.shaped (by decide)) (sh.shaped (by decide)) r1 r2).imp fun l v hl r => ?_
      rw [sh.same] at r
      exact r
    simp only [Bool.false_eq_true, if_false]
    refine ex_nil ?_
    dsimp only
    have hb5 := hb4.up s5
    refine ex_cons (ex_for at5 (it_ofRange (n := 3) c.hh (ev_range1 (nm_built c (bf_range rfl w).1 (bf_range rfl w).2) ev_int) (by decide) (by decide))
      (fun j m Y led => ∃ Y4, Y = its ++ Y4 ∧ Y4.map (·.1) = Y3.map (·.1) ∧ Bag w L P ls sp cs u2 u3 m Y4 led ∧ CellV (its ++ Y4) (L + 9) v ∧ m "corners" = some vk)
      (fun led' hs => ⟨Y3, rfl, rfl, hb5.up hs, hS3, rfl⟩) ?turn2 ?done2 (hE := hE))
    case done2 =>
      rintro m' Y' led' h6 tk6 hs hmap2 ⟨Y4, rfl, e4, hb6, _, _⟩ at6
      dsimp only
      exact ex_nil (hQa _ _ ⟨m', Y4, led', ka, at6, s3.trans (s4.trans (s5.trans hs)), e4.trans (hY3'.map.trans (hY2.map.trans hmap)), hb6⟩)
    case turn2 =>
      rintro j p its2 m₂ Y₂ led₂ v6 h6 tk6 hx2 hl2 hmap2 ⟨Y4, rfl, e4, hb6, hS6, hk6⟩ hcl2 at6 hir2
      obtain ⟨p, hp3, rfl⟩ : ∃ i : Nat, i < 3 ∧ p = (i : Int) := by
        obtain ⟨i, hi, e⟩ := List.mem_map.mp (List.mem_of_getElem? hx2)
        exact ⟨i, List.mem_range.mp hi, by omega⟩
      obtain ⟨tp, rfl⟩ := hir2
      refine tg_loc at6 fun h7 at7 => hideT at7 fun Qb sb at7 kb hQb => ?_
      try dsimp only
      have hcl3 : ∀ p ∈ its2 ++ its, ∃ T, p.2.cls = .type T ∧ NoSeq T := fun p hp => (List.mem_append.mp hp).elim (hcl2 p) (hcl p)
      have hb7 := hb6.loc (x := "place") (v := .int (p : Int) tp) (by decide)
      have hB7 := hb7.left hcl3
      rw [← List.append_assoc] at at7
      have hS7 : CellV ((its2 ++ its) ++ Y4) (L + 9) v := by rw [List.append_assoc]; exact hS6.left
      have hir7 : IntR a led₂ v := IntR.up _ _ _ (s4.trans (s5.trans hl2)) hir3
      obtain ⟨vb, hvb, rvb⟩ := hB7.bounds
      have r7 : ListR IntR (pr (levsF sp a) [0, 0, u2, u3] 3) led₂ vk := listI_up _ _ _ _ (s5.trans hl2) r4
      have hpl : (pr (levsF sp a) [0, 0, u2, u3] 3).length = 4 := pr_len _ _ 3
      have hps : (pairsF sp u2 u3).length = 3 := rfl
      have hbl : (boundsF (pairsF sp u2 u3)).length = 3 := rfl
      have hcb' := getD_all (hcb a ha) (by decide)
      refine ex_cons (ex_twoCL (R := IntR (min a ((boundsF (pairsF sp u2 u3)).getD p 0))) (R' := IntR ((pr (levsF sp a) [0, 0, u2, u3] 3).getD p 0 * (pr (levsF sp a) [0, 0, u2, u3] 3).getD (p + 1) 0)) c.hh at7 (hB7.has 11 (by decide) (by decide)) ?near ?tn IntR.up IntR.up fun vn vt h8 tk8 led8 Y8' hY8 at8 s8 r8 r8' => ?_)
      case near =>
        exact ev_min2 c.hh (nm_built c (bf_min rfl w).1 (bf_min rfl w).2) (nm_cl IntR.up hS7 hir7) (ev_item (fun _ => IntR.up) (nm_loc (listI_up _) hvb rvb) (nm_loc IntR.up (if_pos rfl) ⟨tp, rfl⟩) (by omega) (get_some (by omega)) (by omega))
      case tn =>
        exact ev_mul (ev_item (fun _ => IntR.up) (nm_loc (listI_up _) ((if_neg (by decide)).trans hk6) r7) (nm_loc IntR.up (if_pos rfl) ⟨tp, rfl⟩) (by omega) (get_some (by omega)) (by omega))
          (ev_item (fun _ => IntR.up) (nm_loc (listI_up _) ((if_neg (by decide)).trans hk6) r7) (ev_add (nm_loc IntR.up (if_pos rfl) ⟨tp, rfl⟩) ev_int) (by omega) (get_some (by omega)) (by omega)) (IntMulOk.of_right (intBits_le_64 (hcb' (p + 1)).1 (hcb' (p + 1)).2))
      obtain ⟨Y5, rfl, hY5⟩ := hY8.under ((hb7.has 11 (by decide) (by decide)).apart at7)
      dsimp only
      have hb8 := ((hb7.up s8).set hY5 (by decide)).loc (x := "turn") (v := vt) (by decide)
      have hB8 := hb8.left hcl3
      have hS8 : CellV ((its2 ++ its) ++ Y5) (L + 9) v := hY8.old hS7 (by intro e; exact absurd (Nat.add_left_cancel e) (by decide))
      have hN8 : CellV ((its2 ++ its) ++ Y5) (L + 11) vn := hY8.new
      obtain ⟨vw, hvw, rvw⟩ := hB8.lows
      obtain ⟨vo, hvo, rvo⟩ := hB8.odds
      have hll : (lowsF (pairsF sp u2 u3)).length = 3 := rfl
      have hol : (oddsF (pairsF sp u2 u3)).length = 3 := rfl
      have hpv : (if ("place" : Str) = "turn" then some vt else if ("place" : Str) = "place" then some (.int (p : Int) tp) else m₂ "place") = some (.int (p : Int) tp) := by rw [if_neg (by decide), if_pos rfl]
      refine ex_cons (ex_compL (xs := [(lowsF (pairsF sp u2 u3)).getD p [], (oddsF (pairsF sp u2 u3)).getD p []]) (g := fun f : List (Int × Int × Int) => some (nearF (min a ((boundsF (pairsF sp u2 u3)).getD p 0)) f)) (Rb := BoolR) at8
        (it_ofTup (R := ListR FigR) c.hh (ev_tup (sp_cons (ev_item figs_up (nm_loc (rowsR_up _) hvw rvw) (nm_loc IntR.up hpv ⟨tp, rfl⟩) (by omega) (get_some (by omega)) (by omega)) (sp_cons (ev_item figs_up (nm_loc (rowsR_up _) hvo rvo) (nm_loc IntR.up hpv ⟨tp, rfl⟩) (by omega) (get_some (by omega)) (by omega)) sp_nil (figs_up _)) (figs_up _)) (ups_cons (figs_up _) (ups_cons (figs_up _) ups_nil))) figs_up) (by exact Nat.le_of_ble_eq_true rfl)
        (fun C => tgt_name figs_up rfl rfl (by decide)) (fun C Y' led' f hf hY hN hl own => ⟨ifs_none, ?_⟩) (fun _ => BoolR.up) fun v9 h9 tk9 led9 at9 s9 r9 => ?_)
      · have hfl : f.length ≤ 100 := by
          simp only [List.mem_cons, List.not_mem_nil, or_false] at hf
          rcases hf with rfl | rfl
          · exact hlow p hp3
          · exact hodd p hp3
        refine ev_cmp (nm_cl IntR.up (hN8.sub hY) (IntR.up _ _ _ hl r8)) (ev_comp (xs := f) (g := fun x : Int × Int × Int => some x.1) (Rb := IntR) rfl rfl (by decide) (it_ofList c.hh (own _) FigR.up) (by omega)
          (fun C => tgt_name FigR.up rfl rfl (by decide)) (fun C2 Y2 l2 x hx hY2 hN2 hl2 own2 => ⟨ifs_none, ev_itemT (ups_cons IntR.up (ups_cons IntR.up (ups_cons IntR.up ups_nil))) (own2 _) ev_int (by decide) rfl⟩) (fun _ => IntR.up)) IntR.up fun l a b hs ra rb => ws_in ra rb
      · have hk9 : (if ("corners" : Str) = "named" then some v9 else if ("corners" : Str) = "turn" then some vt else if ("corners" : Str) = "place" then some (.int (p : Int) tp) else m₂ "corners") = some vk := by rw [if_neg (by decide), if_neg (by decide), if_neg (by decide)]; exact hk6
        have hp9 : (if ("place" : Str) = "named" then some v9 else if ("place" : Str) = "turn" then some vt else if ("place" : Str) = "place" then some (.int (p : Int) tp) else m₂ "place") = some (.int (p : Int) tp) := by rw [if_neg (by decide), if_neg (by decide), if_pos rfl]
        have ht9 : (if ("turn" : Str) = "named" then some v9 else if ("turn" : Str) = "turn" then some vt else if ("turn" : Str) = "place" then some (.int (p : Int) tp) else m₂ "turn") = some vt := by rw [if_neg (by decide), if_pos rfl]
        have hb9 := (hb8.up s9).loc (x := "named") (v := v9) (by decide)
        have e9 := hnm a ha p hp3
        refine ex_cons (ex_if (c := false) at9 (te_and_cons (b := (pr (levsF sp a) [0, 0, u2, u3] 3).getD p 0 != 0) (te_cmp (ev_item (fun _ => IntR.up) (nm_loc (listI_up _) hk9 (listI_up _ _ _ _ (s8.trans s9) r7)) (nm_loc IntR.up hp9 ⟨tp, rfl⟩) (by omega) (get_some (by omega)) (by omega)) ev_int IntR.up fun l a b hs ra rb => ws_neI ra rb)
          (fun hne => te_and_cons (b := false) (te_cmp (R1 := ListR BoolR [nearF (min a ((boundsF (pairsF sp u2 u3)).getD p 0)) ((lowsF (pairsF sp u2 u3)).getD p []), nearF (min a ((boundsF (pairsF sp u2 u3)).getD p 0)) ((oddsF (pairsF sp u2 u3)).getD p [])]) (R2 := ListR BoolR [decide ((pr (levsF sp a) [0, 0, u2, u3] 3).getD p 0 * (pr (levsF sp a) [0, 0, u2, u3] 3).getD (p + 1) 0 ≤ 0), (pr (levsF sp a) [0, 0, u2, u3] 3).getD p 0 * (pr (levsF sp a) [0, 0, u2, u3] 3).getD (p + 1) 0 != 0])
            (nm_loc (ListR.up fun _ => BoolR.up) (if_pos rfl) r9) (ev_list (R := BoolR) (sp_cons (ev_cmp (nm_loc IntR.up ht9 (IntR.up _ _ _ s9 r8')) ev_int IntR.up fun l a b hs ra rb => ws_leI ra rb) (sp_cons (ev_cmp (nm_loc IntR.up ht9 (IntR.up _ _ _ s9 r8')) ev_int IntR.up fun l a b hs ra rb => ws_neI ra rb) sp_nil BoolR.up) BoolR.up) (fun _ => BoolR.up)) (ListR.up fun _ => BoolR.up) fun l v1 v2 hl r1 r2 => ?_) (fun h => nomatch h) (fun _ => rfl)) (fun _ => rfl)) fun h10 tk10 led10 at10 s10 => ?_)
        · rw [← e9 (by simpa using hne)] at r2
          have sh : Sh (.list ([nearF (min a ((boundsF (pairsF sp u2 u3)).getD p 0)) ((lowsF (pairsF sp u2 u3)).getD p []), nearF (min a ((boundsF (pairsF sp u2 u3)).getD p 0)) ((oddsF (pairsF sp u2 u3)).getD p [])].map .bool)) 1 := Sh.map fun x _ => Sh.bool x
          refine (ws_neD (by have := c.units; omega) (ListR.dat (fun _ => BoolR.dat) _) (ListR.dat (fun _ => BoolR.dat) _) (sh.shaped (by decide)) (sh.shaped (by decide)) r1 r2).imp fun l v hl r => ?_
          rw [sh.same] at r
          exact r
        · simp only [Bool.false_eq_true, if_false]
          refine ex_nil ?_
          dsimp only
          refine ex_nil (hQb _ _ ?_)
          refine ⟨_, its ++ Y5, led10, kb, by rw [← List.append_assoc]; exact at10, s8.trans (s9.trans s10), by simp [hY5.map, e4], Y5, rfl, hY5.map.trans e4, hb9.up s10, ?_, hk9⟩
          obtain ⟨o, ho, hod⟩ := hS6
          refine ⟨o, ?_, hod⟩
          rcases List.mem_append.mp ho with ho | ho
          · exact List.mem_append_left _ ho
          · exact List.mem_append_right _ (hY5.mem ho (by intro e; exact absurd (Nat.add_left_cancel e) (by decide)))
end
end Mine
end
noncomputable section
open PySem PySem.W PyProof.Rows PySem.Calls PySem.Spec
set_option maxRecDepth 100000
set_option maxHeartbeats 4000000
set_option linter.unusedVariables false
namespace Mine
open LCg Builtin Builtin.ObjectAttr
/-- a frame is put upon another: the lower one becomes an entry -/
theorem At.enter {h₀ h h₁ : Heap} {L L2 : Addr} {m m2 : Str → Option Value} {Y led : Lg} {oL : Obj} (x : At h₀ L m Y led h) (hL : h.get? L = some oL) (hk : ∀ b o, h.get? b = some o → h₁.get? b = some o) (hn2 : h₁.Ns L2 m2) (hL2 : h.objs.size ≤ L2) :
    At h₀ L2 m2 ((L, oL) :: Y) led h₁ := by
  have hlt : ∀ b o, h.get? b = some o → @LT.lt Nat _ b L2 := fun b o e => Nat.lt_of_lt_of_le (Heap.lt_size e) hL2
  have hLn : h₀.get? L = none := Heap.get?_none_of_le x.fr.above
  refine ⟨⟨hn2, fun b o e => hk b o (x.fr.keep b o e), Nat.le_trans x.fr.above (Nat.le_of_lt (hlt _ _ hL))⟩, fun p hp => ?_, ?_, fun p hp hm => ?_⟩
  · rcases List.mem_cons.mp hp with rfl | hp
    · exact ⟨hk _ _ hL, Nat.ne_of_lt (hlt _ _ hL), hLn⟩
    · have z := x.ne p hp
      exact ⟨hk _ _ z.1, Nat.ne_of_lt (hlt _ _ z.1), z.2.2⟩
  · refine List.nodup_cons.mpr ⟨fun hm => ?_, x.nd⟩
    obtain ⟨q, hq, e⟩ := List.mem_map.mp hm
    exact (x.ne q (List.mem_append_left _ hq)).2.1 e
  · rcases List.mem_cons.mp hm with e | hm
    · exact (x.ne p (List.mem_append_right _ hp)).2.1 e
    · exact x.off p hp hm
/-- and taken off again -/
theorem At.leave {h₀ h : Heap} {L L2 : Addr} {m m2 : Str → Option Value} {Y led : Lg} {oL : Obj} (x : At h₀ L2 m2 ((L, oL) :: Y) led h) (hm : NsObj oL m) (ha : h₀.objs.size ≤ L) : At h₀ L m Y led h := by
  have nd := x.nd
  rw [List.map_cons, List.nodup_cons] at nd
  have zL := x.ne (L, oL) (.head _)
  refine ⟨⟨hm.ns zL.1, x.fr.keep, ha⟩, fun p hp => ?_, nd.2, fun p hp hq => x.off p hp (.tail _ hq)⟩
  have z := x.ne p (.tail _ hp)
  refine ⟨z.1, fun e => ?_, z.2.2⟩
  rcases List.mem_append.mp hp with hp | hp
  · exact nd.1 (e ▸ List.mem_map.mpr ⟨p, hp, rfl⟩)
  · exact x.off p hp (by rw [e]; exact .head _)
theorem At.own {h₀ h : Heap} {L : Addr} {m : Str → Option Value} {Y led : Lg} (x : At h₀ L m Y led h) : ∃ oL, h.get? L = some oL ∧ NsObj oL m := ns_obj x.fr.ns
section
variable {prog : Program} {w : World} {A : Around} {E : Value → Shared → Prop} {h : Heap} {g : Array GenState} {d : Drawn} {t : Nat} {os : OsState}
variable {nm q : Str} {C N x : Addr} {bs bm : List Value} {sn : List Str} {sub : List Value} {ab : Bool} {col : Option Bool} {dd : Option Addr} {k0 k1 k2 k3 k5 : Option Value} {B newId sa owner : String}
  {mN : Str → Option Value} {name : Str} {v : Value} {o : Obj}
/-- what the first store of an attribute leaves -/
noncomputable def First (h h' : Heap) (x : Addr) (o : Obj) (name : Str) (v : Value) : Prop :=
  h'.get? x = some { o with dict := some h.objs.size } ∧ h'.Ns1 h.objs.size (fun y => if y = name then some v else none) ∧ ∀ b ob, b ≠ x → h.get? b = some ob → h'.get? b = some ob
theorem first_entry {tk : Tok} {Q : Fin → Shared → Prop} (SF : StoreFacts B bm sa owner)
    (hC : h.get? C = some (excClassObj nm q C N bs bm true sn sub ab col dd k0 k1 k2 k3 k5 newId)) (hn : h.Ns N mN) (hna : mN name = none)
    (hB : typeLookup (.type B) name = pure none) (hx : h.get? x = some o) (hc : o.cls = .ref C) (hnc : ∀ c, o.data ≠ .cls c) (hdn : o.dict = none)
    (hq : ∀ h' tk', First h h' x o name v → Q (.done (.ret .none)) ⟨h', g, d, tk', os⟩) :
    wpAny (model prog w) A (Builtin.«object.__setattr__» ⟨[.ref x, .str name tk, v], []⟩) Q E ⟨h, g, d, t, os⟩ := by
  have hp := SF.passes (.ref x)
  have hx1 : (h.push { cls := .type "dict", data := .dict #[] }).get? x = some o := Heap.get?_push_of_some _ hx
  have hxs : x ≠ h.objs.size := Nat.ne_of_lt (Heap.lt_size hx)
  unfold Builtin.«object.__setattr__»
  repeat (first | rw [refuse_eq] | (rw [refuseLoop_ref, hp]) | (with_reducible refine wpAny_loadPart_at hx ?_; rw [hc]) | with_reducible refine wpAny_mroOf_exc hC ?_ | (with_reducible refine wpAny_typeLookup_exc hC hn SF.mro hB ?_; rw [hna]) | wp_step)
  rw [hdn, if_neg (by simp [typeHasDict])]
  split
  · rename_i e
    cases e
  split
  · rename_i c e
    exact absurd e (hnc c)
  refine wpAny_bind (wpAny_alloc' (wpAny_bind (wpAny_update' hx1 (wpAny_pure ?_))))
  have hD : ((h.push { cls := .type "dict", data := .dict #[] }).update x fun o => { cls := o.cls, dict := some h.objs.size, data := o.data, slots := o.slots }).get? h.objs.size = some { cls := .type "dict", data := .dict #[] } :=
    (Heap.get?_update_ne _ _ _ _ hxs.symm).trans (Heap.get?_push_at rfl rfl)
  show wpAny _ _ (storeInDict h.objs.size (.str name tk) name v) _ _ _
  unfold storeInDict newKeyGuard
  refine wpAny_bind (wpAny_pure (wpAny_bind (wpAny_nsSet1 (Heap.Ns1.of_empty ⟨_, #[], _, hD, rfl, fun e he => absurd he (by simp), fun _ => rfl⟩) fun h' hn' hs => ?_)))
  obtain ⟨oD, esD, epD, hoD, hdD, hcD⟩ := hn'.count (Within.cons name v Within.nil)
  refine wpAny_bind (wpAny_lookBehind hoD (by rw [hdD]; exact pastItsLine_dict (Nat.le_trans hcD (by rw [List.length_cons, List.length_nil, sizeLine_eq]; omega))) ?_)
  wp_walk
  refine hq h' _ ⟨(hs.2 x hxs).trans (Heap.get?_update_self _ hx1 ?_), hn', fun b ob hb e => (hs.2 b (Nat.ne_of_lt (Heap.lt_size e))).trans ((Heap.get?_update_ne _ _ _ _ hb).trans (Heap.get?_push_of_some _ e))⟩
  have hfr := (Heap.get?_some_iff.mp hx).2
  obtain ⟨oc, od, odt, osl⟩ := o
  cases odt <;> first | rfl | exact hfr
theorem first_attr {Q : Unit → Shared → Prop} (SF : StoreFacts B bm sa owner)
    (hC : h.get? C = some (excClassObj nm q C N bs bm true sn sub ab col dd k0 k1 k2 k3 k5 newId)) (hn : h.Ns N mN) (hns : mN "__setattr__" = none) (hna : mN name = none)
    (hB : typeLookup (.type B) name = pure none) (hx : h.get? x = some o) (hc : o.cls = .ref C) (hnc : ∀ c, o.data ≠ .cls c) (hdn : o.dict = none)
    (hq : ∀ h' tk', First h h' x o name v → Q () ⟨h', g, d, tk', os⟩) :
    wpAny (model prog w) A (setAttr (.ref x) name v) Q E ⟨h, g, d, t, os⟩ := by
  have f3 := SF.slot.bind (.ref x)
  unfold setAttr callSpecial? specialOf
  repeat (any_goals (first | assumption | (with_reducible refine wpAny_loadPart_at hx ?_; rw [hc]) | (with_reducible refine wpAny_typeLookup_exc hC hn SF.mro SF.slot.lookup ?_; rw [hns]) | wp_step))
  refine codeAny_call_builtin SF.slot.plain SF.entry (wpAny_check_sa SF hC hx hc (first_entry SF hC hn hna hB hx hc hnc hdn fun h' tk' hF => ?_))
  repeat (any_goals (first | assumption | wp_step))
  exact hq h' tk' hF
end
end Mine
end
noncomputable section
open PySem PySem.W PyProof.Rows PySem.Calls PySem.Spec
set_option maxRecDepth 100000
set_option maxHeartbeats 4000000
set_option linter.unusedVariables false
namespace Mine
open LCg
theorem cls52 : PySem.Challenge.rw_tc0103_01 = PySem.Challenge.rw_tc0103_01 → ∀ w : World, ∃ nm q N bs sn sub ab col dd k0 k1 k2 k3 k5, (hd.heap_39 w.params).lookup 52 = some (excClassObj nm q 52 N bs [.type "Exception", .type "BaseException", .type "object"] true sn sub ab col dd k0 k1 k2 k3 k5 "Exception.__new__") ∧
    (nsOkIn (hd.heap_39 w.params) N = true ∧ nsIn (hd.heap_39 w.params) N "__init__" = some (some (.ref 28)) ∧ nsIn (hd.heap_39 w.params) N "__setattr__" = some none) := by
  k_fill
  intro _ w
  exact ⟨_, _, _, _, _, _, _, _, _, _, _, _, _, _, rfl, by first | k_exc | kernel_rfl | k_is, by k_is, by k_is⟩
theorem cls52n : PySem.Challenge.rw_tc0103_01 = PySem.Challenge.rw_tc0103_01 → ∀ w : World, nsIn (hd.heap_39 w.params) 51 (Str.ofString "lineno") = some none ∧ nsIn (hd.heap_39 w.params) 51 (Str.ofString "msg") = some none ∧ nsIn (hd.heap_39 w.params) 51 (Str.ofString "line") = some none ∧ nsIn (hd.heap_39 w.params) 51 (Str.ofString "get_lineno") = some (some (.ref 35)) ∧ nsIn (hd.heap_39 w.params) 51 (Str.ofString "get_msg") = some (some (.ref 42)) ∧ nsIn (hd.heap_39 w.params) 51 (Str.ofString "get_line") = some (some (.ref 49))
   ∧ nsIn (hd.heap_39 w.params) mainGlobals (Str.ofString "NannyNag") = some (some (.ref 52)) ∧ keepIn (hd.heap_39 w.params) (.ref 52) = true := by
  k_fill
  intro _ w
  exact ⟨by k_is, by k_is, by k_is, by k_is, by k_is, by k_is, by k_is, by k_is⟩
end Mine
end
noncomputable section
open PySem PySem.W PyProof.Rows PySem.Calls PySem.Spec
set_option maxRecDepth 100000
set_option maxHeartbeats 4000000
set_option linter.unusedVariables false
namespace Mine
open LCg
theorem ns_some_of {K : Frag} {h : Heap} {N : Addr} {mg : Str → Option Value} {n : Str} {v : Value} (X : K.In h) (G : h.Ns N mg) (e : nsIn K N n = some (some v)) : mg n = some v := by
  obtain ⟨o, es, ep, ho, hd, _, hf⟩ := G
  unfold nsIn at e
  split at e
  · rename_i c d es' n' sl q
    have z := X _ _ q
    rw [ho] at z
    cases z
    cases hd
    split at e
    · rename_i en he
      cases e
      rw [← hf]
      unfold nsFind findBy
      rw [← Array.find?_toList, he]
      rfl
    · split at e <;> cases e
  · cases e
/-- the class NannyNag as it lies -/
structure NagCls (h : Heap) (N : Addr) (mN : Str → Option Value) : Prop where
  obj : ∃ nm q bs sn sub ab col dd k0 k1 k2 k3 k5, h.get? 52 = some (excClassObj nm q 52 N bs [.type "Exception", .type "BaseException", .type "object"] true sn sub ab col dd k0 k1 k2 k3 k5 "Exception.__new__")
  ns : h.Ns N mN
  init : mN "__init__" = some (.ref 28)
  setattr : mN "__setattr__" = none
  lineno : mN "lineno" = none
  msg : mN "msg" = none
  line : mN "line" = none
  getLineno : mN "get_lineno" = some (.ref 35)
  getMsg : mN "get_msg" = some (.ref 42)
  getLine : mN "get_line" = some (.ref 49)
theorem nag_cls {w : World} {h : Heap} (X : (hd.heap_39 w.params).In h) : ∃ mN, NagCls h 51 mN := by
  obtain ⟨nm, q, N, bs, sn, sub, ab, col, dd, k0, k1, k2, k3, k5, e, h1, h2, h3⟩ := cls52 rfl w
  obtain ⟨a1, a2, a3, a4, a5, a6, _, _⟩ := cls52n rfl w
  obtain rfl : N = 51 := by
    have z : (hd.heap_39 w.params).lookup 52 = _ := rfl
    have := Option.some.inj (z.symm.trans e)
    injection this with _ _ hh _
    injection hh with hh
    exact (congrArg (fun c : ClassData => c.ns) hh).symm
  have G : h.Ns 51 (h.nsMap 51) := .of_isNs (isNs_of_in X h1)
  exact ⟨_, ⟨_, _, _, _, _, _, _, _, _, _, _, _, _, X _ _ e⟩, G, ns_some_of X G h2, ns_none_of X G h3, ns_none_of X G a1, ns_none_of X G a2, ns_none_of X G a3, ns_some_of X G a4, ns_some_of X G a5, ns_some_of X G a6⟩
/-- a dict of attributes as it lies -/
noncomputable def NsO1 (o : Obj) (m : Str → Option Value) : Prop := ∃ es ep, o.data = .dict es ep ∧ StrKeys es ∧ UniqKeys es ∧ ∀ name, nsFind es name = m name
theorem ns1_obj {h : Heap} {C : Addr} {m : Str → Option Value} (x : h.Ns1 C m) : ∃ o, h.get? C = some o ∧ NsO1 o m := let ⟨o, es, ep, e, hd, r⟩ := x; ⟨o, e, es, ep, hd, r⟩
theorem NsO1.ns {h : Heap} {C : Addr} {o : Obj} {m : Str → Option Value} (x : NsO1 o m) (e : h.get? C = some o) : h.Ns1 C m := let ⟨es, ep, hd, r⟩ := x; ⟨o, es, ep, e, hd, r⟩
section
variable {w : World} {A : Around} {h₀ : Heap} {L : Addr} {m : Str → Option Value} {Y led : Lg} {s : Shared} {Q : Unit → Shared → Prop} {E : Value → Shared → Prop} {e D : Addr} {oe od : Obj} {vs : Array Value} {name : Str} {v : Value} {mA : Str → Option Value}
theorem st_first (X : (hd.heap_39 w.params).In h₀) (at0 : At h₀ L m ((e, oe) :: Y) led s.heap) (hc : oe.cls = .ref 52) (hdn : oe.dict = none) (hdt : oe.data = .fields vs) (hB : typeLookup (.type "Exception") name = pure none)
    (hna : ∀ {h mN}, NagCls h 51 mN → mN name = none) (k : ∀ D h' tk od, At h₀ L m ((e, { oe with dict := some D }) :: (D, od) :: Y) led h' → NsO1 od (fun y => if y = name then some v else none) → Q () { s with heap := h', toks := tk }) :
    wpAny (model PR w) A (setAttr (.ref e) name v) Q E s := by
  obtain ⟨mN, hN⟩ := nag_cls (X.keeps at0.fr.keep)
  obtain ⟨nm, q, bs, sn, sub, ab, col, dd, k0, k1, k2, k3, k5, hC⟩ := hN.obj
  obtain ⟨hh, g, d, t, os⟩ := s
  have he := at0.ne (e, oe) (.head _)
  have nd := at0.nd
  rw [List.map_cons, List.nodup_cons] at nd
  refine first_attr PySem.F.store_Exception hC hN.ns hN.setattr (hna hN) hB he.1 hc (fun c => by rw [hdt]; intro q; cases q) hdn fun h' tk' hF => ?_
  obtain ⟨f1, f2, f3⟩ := hF
  obtain ⟨od, f4, f5⟩ := ns1_obj f2
  have hlt := at0.lt
  have hLs : @LT.lt Nat _ L hh.objs.size := at0.fr.ns.lt
  have ns1 : ∀ p ∈ Y ++ led, p.1 ≠ e := fun p hp q => by
    rcases List.mem_append.mp hp with hp | hp
    · exact nd.1 (q ▸ List.mem_map.mpr ⟨p, hp, rfl⟩)
    · exact at0.off p hp (by rw [q]; exact .head _)
  refine k hh.objs.size h' tk' od ⟨⟨at0.fr.ns.at' fun o eo => f3 _ o (Ne.symm he.2.1) eo, fun b o eo => f3 b o (fun q => by rw [q, he.2.2] at eo; cases eo) (at0.fr.keep b o eo), at0.fr.above⟩, fun p hp => ?_, ?_, fun p hp hm => ?_⟩ f5
  · rcases List.mem_append.mp hp with hp | hp
    · rcases List.mem_cons.mp hp with rfl | hp
      · exact ⟨f1, he.2⟩
      rcases List.mem_cons.mp hp with rfl | hp
      · refine ⟨f4, Nat.ne_of_gt hLs, ?_⟩
        refine Heap.get?_none_of_le (Nat.le_trans at0.fr.above (Nat.le_of_lt hLs))
      · have z := at0.ne p (.tail _ (List.mem_append_left _ hp))
        exact ⟨f3 _ _ (ns1 p (List.mem_append_left _ hp)) z.1, z.2⟩
    · have z := at0.ne p (.tail _ (List.mem_append_right _ hp))
      exact ⟨f3 _ _ (ns1 p (List.mem_append_right _ hp)) z.1, z.2⟩
  · simp only [List.map_cons]
    refine List.nodup_cons.mpr ⟨fun hm => ?_, List.nodup_cons.mpr ⟨fun hm => ?_, nd.2⟩⟩
    · rcases List.mem_cons.mp hm with q | hm
      · have z := Heap.lt_size he.1
        rw [q] at z
        exact Nat.lt_irrefl _ z
      · exact nd.1 hm
    · obtain ⟨p, hp, q⟩ := List.mem_map.mp hm
      have z := hlt p (.tail _ (List.mem_append_left _ hp))
      rw [q] at z
      exact Nat.lt_irrefl _ z
  · have z := hlt p (.tail _ (List.mem_append_right _ hp))
    rcases List.mem_cons.mp hm with q | hm
    · exact at0.off p hp (by rw [q]; exact .head _)
    rcases List.mem_cons.mp hm with q | hm
    · rw [q] at z
      exact Nat.lt_irrefl _ z
    · exact at0.off p hp (.tail _ hm)
theorem st_next {ns : List Str} (X : (hd.heap_39 w.params).In h₀) (at0 : At h₀ L m ((e, oe) :: (D, od) :: Y) led s.heap) (hc : oe.cls = .ref 52) (hdn : oe.dict = some D) (hdt : oe.data = .fields vs) (hod : NsO1 od mA) (hB : typeLookup (.type "Exception") name = pure none)
    (hna : ∀ {h mN}, NagCls h 51 mN → mN name = none) (hw : Within mA ns) (hsz : ns.length ≤ sizeLine)
    (k : ∀ h' tk od' oe', oe'.cls = .ref 52 → oe'.dict = some D → oe'.data = .fields vs → At h₀ L m ((e, oe') :: (D, od') :: Y) led h' → NsO1 od' (fun y => if y = name then some v else mA y) → Q () { s with heap := h', toks := tk }) :
    wpAny (model PR w) A (setAttr (.ref e) name v) Q E s := by
  obtain ⟨mN, hN⟩ := nag_cls (X.keeps at0.fr.keep)
  obtain ⟨nm, q, bs, sn, sub, ab, col, dd, k0, k1, k2, k3, k5, hC⟩ := hN.obj
  obtain ⟨hh, g, d, t, os⟩ := s
  have he := at0.ne (e, oe) (.head _)
  have hD := at0.ne (D, od) (.tail _ (.head _))
  have nd := at0.nd
  simp only [List.map_cons] at nd
  obtain ⟨nd1, nd2⟩ := List.nodup_cons.mp nd
  obtain ⟨nd3, nd4⟩ := List.nodup_cons.mp nd2
  have hDe : D ≠ e := fun q => nd1 (by rw [← q]; exact .head _)
  have he52 : e ≠ 52 := fun q => by
    obtain ⟨_, _, _, _, _, _, _, _, _, _, _, _, _, hC0⟩ := (nag_cls X).choose_spec.obj
    have z := he.2.2
    dsimp only at z
    rw [q, hC0] at z
    cases z
  refine store_attr PySem.F.store_Exception hC hN.ns hN.setattr (hna hN) hB he52 ⟨oe, he.1, hc, (fun c => by rw [hdt]; intro q; cases q), .inr ⟨D, hdn, hDe, hod.ns hD.1⟩⟩ (fun h' tk' I hk hs => ?_) hw hsz
  obtain ⟨o1, e1, e2, e3, e4, e5⟩ := hs oe he.1
  have hk' : ∀ b o, b ≠ e → b ≠ D → hh.get? b = some o → h'.get? b = some o := fun b o h1 h2 eo => hk b o h1 (fun o₀ dx z1 z2 => by
    obtain rfl := Option.some.inj (he.1.symm.trans z1)
    obtain rfl := Option.some.inj (hdn.symm.trans z2)
    exact h2) eo
  have f2 : h'.Ns1 D (fun y => if y = name then some v else mA y) := by
    obtain ⟨o', z1, _, _, z4⟩ := I
    obtain rfl := Option.some.inj (e1.symm.trans z1)
    rcases z4 with ⟨z5, _⟩ | ⟨d', z5, _, z6⟩
    · rw [e5 D hdn] at z5
      cases z5
    · obtain rfl := Option.some.inj ((e5 D hdn).symm.trans z5)
      exact z6
  obtain ⟨od', f4, f5⟩ := ns1_obj f2
  have n1 : ∀ p ∈ Y ++ led, p.1 ≠ e ∧ p.1 ≠ D := fun p hp => by
    rcases List.mem_append.mp hp with hp | hp
    · exact ⟨fun q => nd1 (.tail _ (q ▸ List.mem_map.mpr ⟨p, hp, rfl⟩)), fun q => nd3 (q ▸ List.mem_map.mpr ⟨p, hp, rfl⟩)⟩
    · exact ⟨fun q => at0.off p hp (by rw [q]; exact .head _), fun q => at0.off p hp (by rw [q]; exact .tail _ (.head _))⟩
  refine k h' tk' od' o1 (e2.trans hc) (e5 D hdn) (e3.trans hdt) ⟨⟨at0.fr.ns.at' fun o eo => hk' _ o (Ne.symm he.2.1) (Ne.symm hD.2.1) eo, fun b o eo => hk' b o (fun q => by rw [q, he.2.2] at eo; cases eo) (fun q => by rw [q, hD.2.2] at eo; cases eo) (at0.fr.keep b o eo), at0.fr.above⟩, fun p hp => ?_, at0.nd, at0.off⟩ f5
  rcases List.mem_append.mp hp with hp | hp
  · rcases List.mem_cons.mp hp with rfl | hp
    · exact ⟨e1, he.2⟩
    rcases List.mem_cons.mp hp with rfl | hp
    · exact ⟨f4, hD.2⟩
    · have z := at0.ne p (.tail _ (.tail _ (List.mem_append_left _ hp)))
      have n := n1 p (List.mem_append_left _ hp)
      exact ⟨hk' _ _ n.1 n.2 z.1, z.2⟩
  · have z := at0.ne p (.tail _ (.tail _ (List.mem_append_right _ hp)))
    have n := n1 p (List.mem_append_right _ hp)
    exact ⟨hk' _ _ n.1 n.2 z.1, z.2⟩
end
end Mine
end
noncomputable section
open PySem PySem.W PyProof.Rows PySem.Calls PySem.Spec
set_option maxRecDepth 100000
set_option maxHeartbeats 4000000
set_option linter.unusedVariables false
namespace Mine
open LCg
theorem At.perm {h₀ h : Heap} {L : Addr} {m : Str → Option Value} {Y Y' led : Lg} (x : At h₀ L m Y led h) (p : Y.Perm Y') : At h₀ L m Y' led h :=
  ⟨x.fr, fun q hq => x.ne q ((List.mem_append.mp hq).elim (fun h => List.mem_append_left _ (p.mem_iff.mpr h)) fun h => List.mem_append_right _ h), (p.map (·.1)).nodup_iff.mp x.nd, fun q hq hm => x.off q hq ((p.map (·.1)).mem_iff.mpr hm)⟩
theorem loc_of {binds : List (Str × Value)} {names : List (Str × NameKind)} (h : (binds.all fun y => names.lookup y.1 == some .local) = true) : ∀ x ∈ binds, names.lookup x.1 = some .local := fun x hx => eq_of_beq (List.all_eq_true.mp h x hx)
theorem all2_three {R R' R2 : Rp} {lg : Lg} {vs : List Value} (h : All2 (fun R v => R lg v) [R, R', R2] vs) : ∃ v v' v2, vs = [v, v', v2] ∧ R lg v ∧ R' lg v' ∧ R2 lg v2 := by
  cases h with | cons a h => cases h with | cons b h => cases h with | cons c h => cases h with | nil => exact ⟨_, _, _, rfl, a, b, c⟩
theorem asg_attr {M : Model} {A : Around} {h₀ : Heap} {L : Addr} {m : Str → Option Value} {Y led : Lg} {env : Env} {s : Shared} {Q : Unit → Shared → Prop} {E : Value → Shared → Prop} {o : Expr} {attr : Str} {pos : Pos} {v x : Value} (at0 : At h₀ L m Y led s.heap) (ho : Ev M A h₀ L m Y env o led (EqR x))
    (k : ∀ h' tk led', At h₀ L m Y led' h' → Sub led led' → wpAny M A (setAttr x attr v) Q E { s with heap := h', toks := tk }) : wpAny M A (assign (.Attribute o attr pos) env v) Q E s := by
  rw [assign_Attribute]
  refine wpAny_bind (wpAny_holding ((ho led .rfl).go s _ _ at0 fun y h' tk led' at1 s1 r1 => wpAny_bind (wpAny_standAt (wpAny_bind (wpAny_holding ?_)))))
  cases r1
  exact wpAny_mono (k h' tk led' at1 s1) (fun _ _ z => wpAny_release' z) fun _ _ z => z
noncomputable def nagAttrs (v1 v2 v3 : Value) : Str → Option Value := fun y => if y = "line" then some v3 else if y = "msg" then some v2 else if y = "lineno" then some v1 else none
section
variable {w : World} {p : Program} {loose : List Str} {mean : ExcName → Option Value} {mg mb : Str → Option Value} {A : Around} {h₀ : Heap} {L : Addr} {m : Str → Option Value} {Y led : Lg} {s : Shared} {Q : Value → Shared → Prop} {E : Value → Shared → Prop} {e D : Addr} {oe od : Obj} {vs : Array Value} {v1 v2 v3 : Value}
theorem init28 (X : (hd.heap_39 w.params).In h₀) (T : Top p loose mean mg mb h₀) (hh : A.handled = none) (hdp : A.depth < recursionLimit) (at0 : At h₀ L m ((e, oe) :: Y) led s.heap) (hc : oe.cls = .ref 52) (hdn : oe.dict = none) (hdt : oe.data = .fields vs)
    (k : ∀ D h' tk od oe' led', oe'.cls = .ref 52 → oe'.dict = some D → oe'.data = .fields vs → At h₀ L m ((e, oe') :: (D, od) :: Y) led' h' → Sub led led' → NsO1 od (nagAttrs v1 v2 v3) → Q .none { s with heap := h', toks := tk }) :
    wpAny (model PR w) A (call (.ref 28) [.ref e, v1, v2, v3]) Q E s := by
  have X' := X.keeps at0.fr.keep
  have T' := T.keeps at0.fr.keep
  obtain ⟨oL, hL, hoL⟩ := at0.own
  have hLa := at0.fr.above
  refine wpAny_call (codeAny_call_def hdp (X' 28 _ rfl) rfl T'.nolimit (codeRec_of X' (by rfl)) rfl (BindsTo.of_eq rfl) (by decide) (loc_of rfl) fun h₁ hn hk => ?_)
  have at1 := (at0.enter hL hk hn (Nat.le_refl _)).perm (List.Perm.swap _ _ _)
  generalize s.heap.objs.size = L2 at at1 ⊢
  refine wpAny_execs_cons ?_
  refine Assign_Tuple ((ev_tup (sp_cons (nm_loc (R := EqR v1) EqR.up rfl rfl) (sp_cons (nm_loc (R := EqR v2) EqR.up rfl rfl) (sp_cons (nm_loc (R := EqR v3) EqR.up rfl rfl) sp_nil EqR.up) EqR.up) EqR.up) (ups_cons EqR.up (ups_cons EqR.up (ups_cons EqR.up ups_nil)))) led .rfl |>.go _ _ _ at1 fun v h2 t2 l2 at2 s2 r2 => ?_) rfl rfl
  obtain ⟨T2, vs2, n2, rfl, hm2, r2⟩ := r2
  obtain ⟨x1, x2, x3, rfl, e1, e2, e3⟩ := all2_three r2
  cases e1
  cases e2
  cases e3
  refine assign_Tuple_tuple hh ⟨_, (at2.stay _ hm2).1, rfl, n2, rfl⟩ rfl rfl fun h3 hx3 => ?_
  have at3 := at2.extNew hx3
  refine assignInOrder_cons (asg_attr at3 (nm_loc (R := EqR (.ref e)) EqR.up rfl rfl) fun h4 t4 l4 at4 s4 => ?_)
  refine st_first X at4 hc hdn hdt (by rw [typeLookup_type, builtinLookup_eq_fast]; kernel_rfl) (fun h => h.lineno) fun D h5 t5 od at5 hod => ?_
  refine assignInOrder_cons (asg_attr at5 (nm_loc (R := EqR (.ref e)) EqR.up rfl rfl) fun h6 t6 l6 at6 s6 => ?_)
  refine st_next (ns := ["lineno"]) X at6 (by exact hc) rfl (by exact hdt) hod (by rw [typeLookup_type, builtinLookup_eq_fast]; kernel_rfl) (fun h => h.msg) (by within_ways) (by decide) fun h7 t7 od7 oe7 c7 d7 z7 at7 hod7 => ?_
  refine assignInOrder_cons (asg_attr at7 (nm_loc (R := EqR (.ref e)) EqR.up rfl rfl) fun h8 t8 l8 at8 s8 => ?_)
  refine st_next (ns := ["msg", "lineno"]) X at8 c7 d7 z7 hod7 (by rw [typeLookup_type, builtinLookup_eq_fast]; kernel_rfl) (fun h => h.line) (by within_ways) (by decide) fun h9 t9 od9 oe9 c9 d9 z9 at9 hod9 => ?_
  refine assignInOrder_nil ?_
  refine wpAny_execs_nil ?_
  refine k D h9 t9 od9 oe9 l8 c9 d9 z9 ?_ (s2.trans (s4.trans (s6.trans s8))) hod9
  exact (at9.perm ((List.Perm.cons _ (List.Perm.swap _ _ _)).trans (List.Perm.swap _ _ _))).leave hoL hLa
end
end Mine
end
noncomputable section
open PySem PySem.W PyProof.Rows PySem.Calls PySem.Spec
set_option maxRecDepth 100000
set_option maxHeartbeats 4000000
set_option linter.unusedVariables false
namespace Mine
open LCg
/-- a new object beside the entries -/
theorem At.addNew {h₀ h h' : Heap} {L e : Addr} {m : Str → Option Value} {Y led : Lg} {o : Obj} (x : At h₀ L m Y led h) (hk : ∀ b ob, h.get? b = some ob → h'.get? b = some ob) (hn : h.get? e = none) (he : h'.get? e = some o) : At h₀ L m ((e, o) :: Y) led h' := by
  have x' := x.keeps hk
  have heL : e ≠ L := fun q => by
    obtain ⟨oL, hL, _⟩ := x.own
    rw [q, hL] at hn
    cases hn
  have hne : ∀ p ∈ Y ++ led, p.1 ≠ e := fun p hp q => by
    have z := (x.ne p hp).1
    rw [q, hn] at z
    cases z
  refine ⟨x'.fr, fun p hp => ?_, ?_, fun p hp hm => ?_⟩
  · rcases List.mem_cons.mp hp with rfl | hp
    · refine ⟨he, heL, ?_⟩
      cases hq : h₀.get? e with
      | none => rfl
      | some o' =>
        rw [x.fr.keep e o' hq] at hn
        cases hn
    · exact x'.ne p hp
  · refine List.nodup_cons.mpr ⟨fun hm => ?_, x.nd⟩
    obtain ⟨q, hq, e1⟩ := List.mem_map.mp hm
    exact hne q (List.mem_append_left _ hq) e1
  · rcases List.mem_cons.mp hm with q | hm
    · exact hne p (List.mem_append_right _ hp) q
    · exact x.off p hp hm
theorem tc_weight (as : List Value) (C : Addr) : (Code.builtin "type.__call__" ⟨.ref C :: as, []⟩).weight ≤ 1 := by
  simp [Code.weight, Code.frames, Code.isFrame, Code.isCreation, Code.isGuard, guardIds, Code.isCaller]
section
variable {w : World} {p : Program} {loose : List Str} {mean : ExcName → Option Value} {mg mb : Str → Option Value} {A : Around} {h₀ : Heap} {L : Addr} {m : Str → Option Value} {Y led : Lg} {s : Shared} {Q : Value → Shared → Prop} {E : Value → Shared → Prop} {e D : Addr} {oe od : Obj} {vs : Array Value} {v1 v2 v3 : Value}
theorem new52 (X : (hd.heap_39 w.params).In h₀) (T : Top p loose mean mg mb h₀) (hh : A.handled = none) (hdp : A.depth + 1 < recursionLimit) (at0 : At h₀ L m Y led s.heap)
    (k : ∀ e D t h' tk od oe' led', oe'.cls = .ref 52 → oe'.dict = some D → oe'.data = .fields #[.ref t, .none, .none, .none, .bool false, .none] → At h₀ L m ((e, oe') :: (D, od) :: Y) led' h' → Sub led led' → NsO1 od (nagAttrs v1 v2 v3) → Q (.ref e) { s with heap := h', toks := tk }) :
    wpAny (model PR w) A (call (.ref 52) [v1, v2, v3]) Q E s := by
  have X' := X.keeps at0.fr.keep
  obtain ⟨mN, hN⟩ := nag_cls X'
  obtain ⟨nm, q, bs, sn, sub, ab, col, dd, k0, k1, k2, k3, k5, hC⟩ := hN.obj
  obtain ⟨hh', g, d, t, os⟩ := s
  refine wpAny_call_exc_init PySem.F.excBase_Exception hC hN.ns hN.init (X' 28 _ rfl) rfl fun h1 e hm => ?_
  obtain ⟨t, f1, _, _⟩ := hm.there
  have at1 := at0.addNew hm.keeps hm.new f1
  refine init28 X T (by exact hh) (by exact Nat.lt_of_le_of_lt (Nat.add_le_add_left (tc_weight _ _) _) hdp) at1 rfl rfl rfl fun D h2 tk od oe' led' c1 c2 c3 at2 s2 n2 => ?_
  exact ⟨rfl, k e D t h2 tk od oe' led' c1 c2 c3 at2 s2 n2⟩
end
end Mine
end
noncomputable section
open PySem PySem.W PyProof.Rows PySem.Calls PySem.Spec
set_option maxRecDepth 100000
set_option maxHeartbeats 4000000
set_option linter.unusedVariables false
namespace Mine
open LCg
theorem At.slots {h₀ h h' : Heap} {L2 L : Addr} {m : Str → Option Value} {Y led : Lg} {oL : Obj} (x : At h₀ L2 m ((L, oL) :: Y) led h) (hs : Heap.SlotsOnly [L2, L] h h') : ∃ sl, At h₀ L2 m ((L, { oL with slots := sl }) :: Y) led h' := by
  have zL := x.ne (L, oL) (.head _)
  have nd := x.nd
  rw [List.map_cons, List.nodup_cons] at nd
  obtain ⟨sl, eL⟩ := hs.2.2 _ _ zL.1
  obtain ⟨o2, es, ep, e2, hd, r⟩ := x.fr.ns
  obtain ⟨sl2, e2'⟩ := hs.2.2 _ _ e2
  have keep : ∀ b o, b ≠ L2 → b ≠ L → h.get? b = some o → h'.get? b = some o := fun b o h1 h2 e => by
    rw [hs.2.1 b (by simp [h1, h2]), e]
  refine ⟨sl, ⟨⟨_, es, ep, e2', hd, r⟩, fun b o e => keep b o (fun q => ?_) (fun q => ?_) (x.fr.keep b o e), x.fr.above⟩, fun p hp => ?_, x.nd, x.off⟩
  · rw [q, Heap.get?_none_of_le x.fr.above] at e
    cases e
  · rw [q, zL.2.2] at e
    cases e
  · rcases List.mem_append.mp hp with hp | hp
    · rcases List.mem_cons.mp hp with rfl | hp
      · exact ⟨eL, zL.2⟩
      · have z := x.ne p (List.mem_append_left _ (.tail _ hp))
        exact ⟨keep _ _ z.2.1 (fun q => nd.1 (q ▸ List.mem_map.mpr ⟨p, hp, rfl⟩)) z.1, z.2⟩
    · have z := x.ne p (List.mem_append_right _ hp)
      exact ⟨keep _ _ z.2.1 (fun q => x.off p hp (by rw [q]; exact .head _)) z.1, z.2⟩
section
variable {M : Model} {w : World} {A : Around} {h₀ : Heap} {L L2 : Addr} {m : Str → Option Value} {Y led : Lg} {s : Shared} {Q : Unit → Shared → Prop} {E : Value → Shared → Prop} {e D : Addr} {oe oL : Obj} {env envL : Env} {t : Value}
theorem note52 (hfr : A.frames = some [env, envL]) (hf : env.frame = some L2) (hfL : envL.frame = some L) (hk : env.scope.kind ≠ .module) (hkL : envL.scope.kind ≠ .module) (hoL : ∀ vs, oL.data ≠ .fields vs)
    (at0 : At h₀ L2 m ((L, oL) :: (e, oe) :: Y) led s.heap) (hd : oe.data = .fields #[t, .none, .none, .none, .bool false, .none])
    (k : ∀ h' sl T oT ts, oT.data = .fields ts → 3 < ts.size → At h₀ L2 m ((L, { oL with slots := sl }) :: (e, { oe with data := .fields #[t, .ref T, .none, .none, .bool false, .none] }) :: (T, oT) :: Y) led h' → Q () { s with heap := h' }) :
    wpAny M A (noteFrame (.ref e) env) Q E s := by
  have ze := at0.ne (e, oe) (.tail _ (.head _))
  have zL := at0.ne (L, oL) (.head _)
  obtain ⟨o2, es, ep, e2, hd2, r⟩ := at0.fr.ns
  have hL0 := Heap.get?_none_of_le at0.fr.above
  have hl : s.heap.FunFrames h₀ [env, envL] := ⟨hk, ⟨L2, o2, hf, hL0, e2, fun vs q => by rw [hd2] at q; cases q⟩, hkL, ⟨L, oL, hfL, zL.2.2, zL.1, hoL⟩, trivial⟩
  unfold noteFrame
  simp only [hf]
  refine wpAny_bind (wpAny_field ze.1 hd (x := .none) rfl ?_)
  rw [if_neg (by decide)]
  refine wpAny_bind (wpAny_frameOf_fun hfr hl hf fun h₁ hs₁ => ?_)
  obtain ⟨sl, at1⟩ := at0.slots (by simpa [hf, hfL] using hs₁)
  refine wpAny_bind (wpAny_entryPlaceOf fun pl hpl => ?_)
  unfold EntryCells.newEntry newFields
  refine wpAny_bind (wpAny_newObj_type ?_ (hpl.sizeOk5 _ _ _ _ _))
  have at2 := at1.addNew (fun b ob hb => Heap.get?_push_of_some _ hb) (Heap.get?_none_of_le (Nat.le_refl _)) (Heap.get?_push_size h₁ (o := { cls := .type "traceback", dict := none, data := .fields ([Value.none, .ref L2, .none, rawInt L2, .none] ++ (if pl.isEmpty then List.replicate 6 Value.none else pl)).toArray }) rfl)
  have ze2 := at2.ne (e, oe) (.tail _ (.tail _ (.head _)))
  refine wpAny_setField ze2.1 hd (by simp) ?_
  have at3 := At.set (Y1 := [_, _]) at2 (Heap.SameBut.update _ e _) (Heap.get?_update_self _ ze2.1 (Obj.isFreed_of_fields (Obj.data_mapFields hd (·.setIfInBounds 1 (Value.ref h₁.objs.size)))))
  obtain ⟨c, d, dt, sl'⟩ := oe
  obtain rfl : dt = _ := hd
  have at4 := at3.perm ((List.Perm.swap _ _ _).trans (List.Perm.cons _ (List.Perm.swap _ _ _)))
  refine k _ sl h₁.objs.size { cls := .type "traceback", dict := none, data := .fields ([Value.none, .ref L2, .none, rawInt L2, .none] ++ (if pl.isEmpty then List.replicate 6 Value.none else pl)).toArray } _ rfl ?_ at4
  simp only [List.size_toArray, List.length_append, List.length_cons, List.length_nil]
  omega
end
end Mine
end
noncomputable section
open PySem PySem.W PyProof.Rows PySem.Calls PySem.Spec
set_option maxRecDepth 100000
set_option maxHeartbeats 4000000
set_option linter.unusedVariables false
namespace Mine
open LCg Builtin Builtin.ObjectAttr
section
variable {prog : Program} {w : World} {A : Around} {E : Value → Shared → Prop} {h : Heap} {g : Array GenState} {d : Drawn} {t : Nat} {os : OsState} {a dx : Addr} {o : Obj}
  {nm q : Str} {C N : Addr} {bs : List Value} {hdct : Bool} {sn : List Str} {sub : List Value} {ab : Bool} {col : Option Bool} {dd : Option Addr} {k0 k1 k2 k3 k5 : Option Value} {newId : String} {mN mA : Str → Option Value} {name : Str} {v : Value}
theorem exc_check {M : Model} {nameV : Value} {Q : Unit → Shared → Prop} (hC : h.get? C = some (excClassObj nm q C N bs [.type "Exception", .type "BaseException", .type "object"] true sn sub ab col dd k0 k1 k2 k3 k5 newId))
    (hx : h.get? a = some o) (hc : o.cls = .ref C) (hq : Q () ⟨h, g, d, t, os⟩) : wpAny M A (checkBuiltinCall "BaseException.__getattribute__" ⟨[.ref a, nameV], []⟩) Q E ⟨h, g, d, t, os⟩ := by
  have hk : builtinKind "BaseException.__getattribute__" = some .slot := by decide +kernel
  have hsplit : splitId "BaseException.__getattribute__" = some ("BaseException", "__getattribute__") := by decide +kernel
  have hcB : (Value.ref C :: [.type "Exception", .type "BaseException", .type "object"]).contains (.type "BaseException") = true := by rw [List.contains_cons]; simp
  have ha := F.args_bexc_ga (.ref a) nameV
  simp only [checkBuiltinCall, hk, hsplit]
  refine wpAny_bind ?_
  · unfold isInstance
    repeat (first | (with_reducible refine wpAny_loadPart_at hx ?_; rw [hc]) | (with_reducible refine wpAny_isSubtype_exc hC ?_; rw [hcB]) | wp_step)
    exact hq
theorem exc_entry {tk : Tok} {Q : Fin → Shared → Prop} (hC : h.get? C = some (excClassObj nm q C N bs [.type "Exception", .type "BaseException", .type "object"] true sn sub ab col dd k0 k1 k2 k3 k5 newId))
    (hn : h.Ns N mN) (hna : mN name = none) (hB : typeLookup (.type "Exception") name = pure none) (hx : h.get? a = some o) (hc : o.cls = .ref C) (hnc : ∀ c, o.data ≠ .cls c) (hdx : o.dict = some dx) (hns : h.Ns dx mA) (hv : mA name = some v)
    (hq : Q (.done (.ret v)) ⟨h, g, d, t, os⟩) : wpAny (model prog w) A (Builtin.«object.__getattribute__» ⟨[.ref a, .str name tk], []⟩) Q E ⟨h, g, d, t, os⟩ := by
  unfold Builtin.«object.__getattribute__»
  repeat (any_goals (first | assumption | (with_reducible refine wpAny_loadPart_at hx ?_; rw [hc]) | (with_reducible refine wpAny_typeLookup_exc hC hn F.excBase_Exception.mroIs hB ?_; rw [hna]) | wp_step))
  split
  · rename_i c hcd
    exact absurd hcd (hnc c)
  unfold instanceDict
  repeat (first | (with_reducible refine wpAny_loadPart_at hx ?_; rw [hc]) | with_reducible refine wpAny_loadPart_at hC ?_ | wp_step)
  rw [hdx]
  repeat (first | (with_reducible refine wpAny_nsGet hns ?_; rw [hv]) | wp_step)
  exact hq
theorem exc_attr {expr : Bool} {Q : Value → Shared → Prop} (hC : h.get? C = some (excClassObj nm q C N bs [.type "Exception", .type "BaseException", .type "object"] true sn sub ab col dd k0 k1 k2 k3 k5 newId))
    (hn : h.Ns N mN) (hng : mN "__getattribute__" = none) (hnh : mN "__getattr__" = none) (hna : mN name = none) (hB : typeLookup (.type "Exception") name = pure none) (hx : h.get? a = some o) (hc : o.cls = .ref C) (hnc : ∀ c, o.data ≠ .cls c) (hdx : o.dict = some dx) (hns : h.Ns dx mA) (hv : mA name = some v)
    (hh : handedOut v = pure v) (hq : Q v ⟨h, g, d, t + 1, os⟩) : wpAny (model prog w) A (getAttr (.ref a) name expr) Q E ⟨h, g, d, t, os⟩ := by
  have f3 := F.attr_Exception.ga.bind (.ref a)
  have hx0 : (expr && onTheHeap (Value.builtin "BaseException.__getattribute__")) = false := by cases expr <;> rfl
  have hx2 : (Value.builtin "BaseException.__getattribute__" == Value.builtin "object.__getattribute__") = false := by decide +kernel
  have hx1 : (onTheHeap (Value.ref C) && Value.builtin "BaseException.__getattribute__" == Value.builtin "object.__getattribute__") = false := by rw [hx2]; rfl
  unfold getAttr getAttrBy
  repeat (any_goals (first | assumption | (with_reducible refine wpAny_loadPart_at hx ?_; rw [hc]) | (with_reducible refine wpAny_typeLookup_exc hC hn F.excBase_Exception.mroIs F.attr_Exception.ga.lookup ?_; rw [hng]) | (with_reducible refine wpAny_typeLookup_exc hC hn F.excBase_Exception.mroIs F.attrBase_Exception.noGetattr ?_; rw [hnh]) | wp_step))
  refine codeAny_call_builtin F.attr_Exception.ga.plain F.entry_bexc_ga (exc_check hC hx hc (exc_entry hC hn hna hB hx hc hnc hdx hns hv ?_))
  repeat (any_goals (first | assumption | (show wpAny _ _ (handedOut v) _ _ _; rw [hh]) | wp_step))
theorem exc_method {pl : Sem Bool} {f : Addr} {ofn : Obj} {Q : Value × List Value → Shared → Prop} (hC : h.get? C = some (excClassObj nm q C N bs [.type "Exception", .type "BaseException", .type "object"] true sn sub ab col dd k0 k1 k2 k3 k5 newId))
    (hn : h.Ns N mN) (hng : mN "__getattribute__" = none) (hnh : mN "__getattr__" = none) (hf : mN name = some (.ref f)) (hfo : h.get? f = some ofn) (hfc : ofn.cls = .type "function") {y : Option Value} (hB : typeLookup (.type "Exception") name = pure y)
    (hx : h.get? a = some o) (hc : o.cls = .ref C) (hdx : o.dict = some dx) (hns : h.Ns dx mA) (hsh : mA name = none) (hq : Q (.ref f, [.ref a]) ⟨h, g, d, t, os⟩) :
    wpAny (model prog w) A (getMethod (.ref a) name pl) Q E ⟨h, g, d, t, os⟩ := by
  have hcan : (Manifest.canonical "BaseException.__getattribute__" != "object.__getattribute__") = false := by decide +kernel
  unfold getMethod specialOf
  repeat (first | (with_reducible refine wpAny_loadPart_at hx ?_; rw [hc]) | (with_reducible refine wpAny_typeLookup_exc hC hn F.excBase_Exception.mroIs F.attr_Exception.ga.lookup ?_; rw [hng]) | (with_reducible refine wpAny_typeLookup_exc hC hn F.excBase_Exception.mroIs F.attrBase_Exception.noGetattr ?_; rw [hnh]) | (with_reducible refine wpAny_typeLookup_exc hC hn F.excBase_Exception.mroIs hB ?_; rw [hf]) | (with_reducible refine wpAny_typeOf (T := "function") ⟨_, hfo, hfc⟩ ?_) | simp only [hcan, Bool.false_eq_true, if_false] | wp_step)
  rw [hdx]
  repeat (first | (with_reducible refine wpAny_nsGet hns ?_; rw [hsh]) | wp_step)
  exact hq
end
end Mine
end
noncomputable section
open PySem PySem.W PyProof.Rows PySem.Calls PySem.Spec
set_option maxRecDepth 100000
set_option maxHeartbeats 4000000
set_option linter.unusedVariables false
namespace Mine
open LCg
theorem cls52g : PySem.Challenge.rw_tc0103_01 = PySem.Challenge.rw_tc0103_01 → ∀ w : World, nsIn (hd.heap_39 w.params) 51 (Str.ofString "__getattribute__") = some none ∧ nsIn (hd.heap_39 w.params) 51 (Str.ofString "__getattr__") = some none := by
  k_fill
  intro _ w
  exact ⟨by k_is, by k_is⟩
section
variable {M : Model} {w : World} {A : Around} {h₀ : Heap} {L L2 : Addr} {m : Str → Option Value} {Y led : Lg} {s : Shared} {Q : Unit → Shared → Prop} {E : Value → Shared → Prop} {e D : Addr} {oe oL : Obj} {env envL : Env} {t : Value}
/-- the mark of a flight is taken off -/
theorem flight52 {X1 : Addr × Obj} {T : Addr} {oT : Obj} {ts : Array Value} (at0 : At h₀ L2 m (X1 :: (e, oe) :: (T, oT) :: Y) led s.heap) (hd : oe.data = .fields #[t, .ref T, .none, .none, .bool false, .none]) (hT : oT.data = .fields ts) (h3 : 3 < ts.size)
    (k : ∀ h' oT' ts', oT'.data = .fields ts' → 3 < ts'.size → At h₀ L2 m (X1 :: (e, oe) :: (T, oT') :: Y) led h' → Q () { s with heap := h' }) : wpAny M A (setFlight (.ref e) none) Q E s := by
  have ze := at0.ne (e, oe) (.tail _ (.head _))
  have zT := at0.ne (T, oT) (.tail _ (.tail _ (.head _)))
  unfold setFlight
  refine wpAny_bind (wpAny_field ze.1 hd (x := .ref T) rfl ?_)
  rw [if_pos (show (Value.ref T != Value.none) = true from by simp)]
  refine wpAny_setField zT.1 hT h3 ?_
  exact k _ _ _ (Obj.data_mapFields hT _) (by simpa using h3) (At.set (Y1 := [X1, (e, oe)]) at0 (Heap.SameBut.update _ T _) (Heap.get?_update_self _ zT.1 (Obj.isFreed_of_fields (Obj.data_mapFields hT _))))
/-- raise of a NannyNag -/
theorem raise52 {x : Sem Value} {Q : Flow → Shared → Prop} (hh : A.handled = none)
    (h : wpAny M A x (fun v s₁ => ∃ e D t sl mN, v = .ref e ∧ NagCls s₁.heap 51 mN ∧ s₁.heap.get? e = some ⟨.ref 52, some D, .fields #[.ref t, .none, .none, .none, .bool false, .none], sl⟩ ∧ E (.ref e) s₁) E s) :
    wpAny M A (raiseStmt env (some x) none) Q E s := by
  have hcB : (Value.ref 52 :: [.type "Exception", .type "BaseException", .type "object"]).contains (.type "BaseException") = true := by simp
  unfold raiseStmt
  refine wpAny_bind (wpAny_mono h (fun v s₁ h₁ => ?_) fun _ _ x => x)
  obtain ⟨e, D, t, sl, mN, rfl, hN, he, hE⟩ := h₁
  obtain ⟨nm, q, bs, sn, sub, ab, col, dd, k0, k1, k2, k3, k5, hC⟩ := hN.obj
  obtain ⟨hp, g, d, tk, os⟩ := s₁
  repeat (first | with_reducible refine wpAny_loadPart_at he ?_ | with_reducible refine wpAny_loadPart_at hC ?_ | (with_reducible refine wpAny_isSubtype_exc hC ?_; rw [hcB]) | wp_step)
  exact wpAny_raiseNew_none hh hE
end
section
variable {w : World} {p : Program} {loose : List Str} {mean : ExcName → Option Value} {mg mb : Str → Option Value} {A : Around} {h₀ : Heap} {L : Addr} {m : Str → Option Value} {Y led : Lg} {s : Shared} {Q : Value → Shared → Prop} {E : Value → Shared → Prop} {e D : Addr} {oe od : Obj} {vs : Array Value} {v : Value} {mA : Str → Option Value} {env : Env} {name : Str} {pos : Pos} {o : Expr}
theorem get_attr52 (X : (hd.heap_39 w.params).In h₀) (at0 : At h₀ L m Y led s.heap) (he : (e, oe) ∈ Y) (hD : (D, od) ∈ Y) (hc : oe.cls = .ref 52) (hdn : oe.dict = some D) (hdt : oe.data = .fields vs) (hod : NsO1 od mA) (hv : mA name = some v) (hB : typeLookup (.type "Exception") name = pure none)
    (hna : ∀ {h mN}, NagCls h 51 mN → mN name = none) (hh : handedOut v = pure v) {expr : Bool} (hq : ∀ tk, Q v { s with toks := tk }) : wpAny (model PR w) A (getAttr (.ref e) name expr) Q E s := by
  obtain ⟨mN, hN⟩ := nag_cls (X.keeps at0.fr.keep)
  obtain ⟨nm, q, bs, sn, sub, ab, col, dd, k0, k1, k2, k3, k5, hC⟩ := hN.obj
  have X' := X.keeps at0.fr.keep
  obtain ⟨g1, g2⟩ := cls52g rfl w
  have ze := at0.y _ he
  have zD := at0.y _ hD
  obtain ⟨hp, g, d, tk, os⟩ := s
  obtain ⟨es, ep, f1, f2, _, f3⟩ := hod
  exact exc_attr hC hN.ns (ns_none_of X' hN.ns g1) (ns_none_of X' hN.ns g2) (hna hN) hB ze.1 hc (fun c => by rw [hdt]; intro q; cases q) hdn ⟨od, es, ep, zD.1, f1, f2, f3⟩ hv hh (hq _)
theorem get_meth52 {pl : Sem Bool} {f : Addr} {Q : Value × List Value → Shared → Prop} (X : (hd.heap_39 w.params).In h₀) (at0 : At h₀ L m Y led s.heap) (he : (e, oe) ∈ Y) (hD : (D, od) ∈ Y) (hc : oe.cls = .ref 52) (hdn : oe.dict = some D) (hod : NsO1 od mA) (hsh : mA name = none) (hB : typeLookup (.type "Exception") name = pure none)
    (hf : ∀ {h mN}, NagCls h 51 mN → mN name = some (.ref f)) {ofn : Obj} (hfo : (hd.heap_39 w.params).lookup f = some ofn) (hfc : ofn.cls = .type "function") (hq : Q (.ref f, [.ref e]) s) :
    wpAny (model PR w) A (getMethod (.ref e) name pl) Q E s := by
  obtain ⟨mN, hN⟩ := nag_cls (X.keeps at0.fr.keep)
  obtain ⟨nm, q, bs, sn, sub, ab, col, dd, k0, k1, k2, k3, k5, hC⟩ := hN.obj
  have X' := X.keeps at0.fr.keep
  obtain ⟨g1, g2⟩ := cls52g rfl w
  have ze := at0.y _ he
  have zD := at0.y _ hD
  obtain ⟨hp, g, d, tk, os⟩ := s
  obtain ⟨es, ep, f1, f2, _, f3⟩ := hod
  exact exc_method hC hN.ns (ns_none_of X' hN.ns g1) (ns_none_of X' hN.ns g2) (hf hN) (X' _ _ hfo) hfc hB ze.1 hc hdn ⟨od, es, ep, zD.1, f1, f2, f3⟩ hsh hq
end
end Mine
end
noncomputable section
open PySem PySem.W PyProof.Rows PySem.Calls PySem.Spec
set_option maxRecDepth 100000
set_option maxHeartbeats 4000000
set_option linter.unusedVariables false
namespace Mine
open LCg
section
variable {w : World} {p : Program} {loose : List Str} {mean : ExcName → Option Value} {mg mb : Str → Option Value} {A : Around} {h₀ : Heap} {L : Addr} {m : Str → Option Value} {Y led : Lg} {s : Shared} {Q : Value → Shared → Prop} {E : Value → Shared → Prop} {e D : Addr} {oe od : Obj} {vs : Array Value} {v v1 v2 v3 : Value} {mA : Str → Option Value}
theorem ret_attr {prog : Program} {env : Env} {n attr : Str} {np pos rp : Pos} {x : Value} {Q : Flow → Shared → Prop} (at0 : At h₀ L m Y led s.heap) (ho : Ev (model prog w) A h₀ L m Y env (.Name n np) led (EqR x))
    (k : ∀ h' tk led', At h₀ L m Y led' h' → Sub led led' → wpAny (model prog w) A (getAttr x attr true) (fun v s => Q (.ret v) s) E { s with heap := h', toks := tk }) : wpAny (model prog w) A (exec (.Return (some (.Attribute (.Name n np) attr pos)) rp) env) Q E s :=
  wpAny_Return_some (Attribute_name ((ho led .rfl).go _ _ _ at0 fun v h2 t2 l2 at2 s2 r2 => by cases r2; exact k h2 t2 l2 at2 s2))
/-- a NannyNag with its three attributes -/
structure Nagged (Y : Lg) (e : Addr) (v1 v2 v3 : Value) : Prop where
  at_ : ∃ D oe od vs, (e, oe) ∈ Y ∧ (D, od) ∈ Y ∧ oe.cls = .ref 52 ∧ oe.dict = some D ∧ oe.data = .fields vs ∧ NsO1 od (nagAttrs v1 v2 v3)
theorem get35 (X : (hd.heap_39 w.params).In h₀) (T : Top p loose mean mg mb h₀) (hdp : A.depth < recursionLimit) (at0 : At h₀ L m Y led s.heap) (N : Nagged Y e v1 v2 v3) (hh : handedOut v1 = pure v1)
    (k : ∀ h' tk led', At h₀ L m Y led' h' → Sub led led' → Q v1 { s with heap := h', toks := tk }) : wpAny (model PR w) A (call (.ref 35) [.ref e]) Q E s := by
  obtain ⟨D, oe, od, vs, n1, n2, n3, n4, n5, n6⟩ := N.at_
  have X' := X.keeps at0.fr.keep
  have T' := T.keeps at0.fr.keep
  obtain ⟨oL, hL, hoL⟩ := at0.own
  have hLa := at0.fr.above
  refine wpAny_call (codeAny_call_def hdp (X' 35 _ rfl) rfl T'.nolimit (codeRec_of X' (by rfl)) rfl (BindsTo.of_eq rfl) (by decide) (loc_of rfl) fun h₁ hn hk => ?_)
  have at1 := at0.enter hL hk hn (Nat.le_refl _)
  generalize s.heap.objs.size = L2 at at1 ⊢
  refine wpAny_execs_cons (ret_attr at1 (nm_loc (R := EqR (.ref e)) EqR.up rfl rfl) fun h2 t2 l2 at2 s2 => ?_)
  refine get_attr52 X at2 (.tail _ n1) (.tail _ n2) n3 n4 n5 n6 rfl (by rw [typeLookup_type, builtinLookup_eq_fast]; kernel_rfl) (fun h => h.lineno) hh fun tk => ?_
  exact k h2 tk l2 (at2.leave hoL hLa) s2
theorem get42 (X : (hd.heap_39 w.params).In h₀) (T : Top p loose mean mg mb h₀) (hdp : A.depth < recursionLimit) (at0 : At h₀ L m Y led s.heap) (N : Nagged Y e v1 v2 v3) (hh : handedOut v2 = pure v2)
    (k : ∀ h' tk led', At h₀ L m Y led' h' → Sub led led' → Q v2 { s with heap := h', toks := tk }) : wpAny (model PR w) A (call (.ref 42) [.ref e]) Q E s := by
  obtain ⟨D, oe, od, vs, n1, n2, n3, n4, n5, n6⟩ := N.at_
  have X' := X.keeps at0.fr.keep
  have T' := T.keeps at0.fr.keep
  obtain ⟨oL, hL, hoL⟩ := at0.own
  have hLa := at0.fr.above
  refine wpAny_call (codeAny_call_def hdp (X' 42 _ rfl) rfl T'.nolimit (codeRec_of X' (by rfl)) rfl (BindsTo.of_eq rfl) (by decide) (loc_of rfl) fun h₁ hn hk => ?_)
  have at1 := at0.enter hL hk hn (Nat.le_refl _)
  generalize s.heap.objs.size = L2 at at1 ⊢
  refine wpAny_execs_cons (ret_attr at1 (nm_loc (R := EqR (.ref e)) EqR.up rfl rfl) fun h2 t2 l2 at2 s2 => ?_)
  refine get_attr52 X at2 (.tail _ n1) (.tail _ n2) n3 n4 n5 n6 rfl (by rw [typeLookup_type, builtinLookup_eq_fast]; kernel_rfl) (fun h => h.msg) hh fun tk => ?_
  exact k h2 tk l2 (at2.leave hoL hLa) s2
theorem get49 (X : (hd.heap_39 w.params).In h₀) (T : Top p loose mean mg mb h₀) (hdp : A.depth < recursionLimit) (at0 : At h₀ L m Y led s.heap) (N : Nagged Y e v1 v2 v3) (hh : handedOut v3 = pure v3)
    (k : ∀ h' tk led', At h₀ L m Y led' h' → Sub led led' → Q v3 { s with heap := h', toks := tk }) : wpAny (model PR w) A (call (.ref 49) [.ref e]) Q E s := by
  obtain ⟨D, oe, od, vs, n1, n2, n3, n4, n5, n6⟩ := N.at_
  have X' := X.keeps at0.fr.keep
  have T' := T.keeps at0.fr.keep
  obtain ⟨oL, hL, hoL⟩ := at0.own
  have hLa := at0.fr.above
  refine wpAny_call (codeAny_call_def hdp (X' 49 _ rfl) rfl T'.nolimit (codeRec_of X' (by rfl)) rfl (BindsTo.of_eq rfl) (by decide) (loc_of rfl) fun h₁ hn hk => ?_)
  have at1 := at0.enter hL hk hn (Nat.le_refl _)
  generalize s.heap.objs.size = L2 at at1 ⊢
  refine wpAny_execs_cons (ret_attr at1 (nm_loc (R := EqR (.ref e)) EqR.up rfl rfl) fun h2 t2 l2 at2 s2 => ?_)
  refine get_attr52 X at2 (.tail _ n1) (.tail _ n2) n3 n4 n5 n6 rfl (by rw [typeLookup_type, builtinLookup_eq_fast]; kernel_rfl) (fun h => h.line) hh fun tk => ?_
  exact k h2 tk l2 (at2.leave hoL hLa) s2
end
end Mine
end
noncomputable section
open PySem PySem.W PyProof.Rows PySem.Calls PySem.Spec
set_option maxRecDepth 100000
set_option maxHeartbeats 4000000
set_option linter.unusedVariables false
namespace Mine
open LCg
theorem At.frame' {h₀ h h' : Heap} {L : Addr} {m m' : Str → Option Value} {Y led : Lg} (q : At h₀ L m Y led h) (hn : h'.Ns L m') (hs : Heap.SameBut L h h') : At h₀ L m' Y led h' :=
  ⟨q.fr.set hn hs, q.ne.set hs, q.nd, q.off⟩
section
variable {w : World} {p : Program} {loose : List Str} {mean : ExcName → Option Value} {mg mb : Str → Option Value} {A : Around} {h₀ : Heap} {L : Addr} {m : Str → Option Value} {Y led : Lg} {s : Shared} {Q : Value → Shared → Prop} {E : Value → Shared → Prop} {e D : Addr} {oe od : Obj} {vs : Array Value} {v v1 v2 v3 : Value} {env : Env} {x : Str} {pos : Pos}
theorem nm_globT {M : Model} (X : (hd.heap_39 w.params).In h₀) (T : Top p loose mean mg mb h₀) (e : nsIn (hd.heap_39 w.params) mainGlobals x = some (some v)) (hg : env.globals = mainGlobals := by rfl) (hk : env.scope.kind = .function := by rfl) (hx : env.kindOf x = some .globalImplicit := by rfl)
    (hdb : (x == ("__debug__" : Str)) = false := by decide) : Ev M A h₀ L m Y env (.Name x pos) led (EqR v) := fun l hl => Ws.mk fun s Q E at0 k =>
  nameG_K at0.fr X (topRead_of T) e (k _ _ _ l at0 .rfl rfl) hg hk hx hdb
theorem ev_run {M : Model} {ex : Expr} {R : Rp} {Q : Value → Shared → Prop} (at0 : At h₀ L m Y led s.heap) (ho : Ev M A h₀ L m Y env ex led R) (k : ∀ v h' tk led', At h₀ L m Y led' h' → Sub led led' → R led' v → Q v { s with heap := h', toks := tk }) : wpAny M A (eval ex env) Q E s := (ho led .rfl).go _ _ _ at0 k
/-- nag.get_…() -/
theorem ev_get {pl : Sem Bool} {f : Addr} {ap : Pos} {o : Expr} {name : Str} (X : (hd.heap_39 w.params).In h₀) (ho : Ev (model PR w) A h₀ L m Y env o led (EqR (.ref e))) (N : Nagged Y e v1 v2 v3) (hkp : keepIn (hd.heap_39 w.params) (.ref f) = true) (hsh : nagAttrs v1 v2 v3 name = none) (hB : typeLookup (.type "Exception") name = pure none)
    (hf : ∀ {h mN}, NagCls h 51 mN → mN name = some (.ref f)) {ofn : Obj} (hfo : (hd.heap_39 w.params).lookup f = some ofn) (hfc : ofn.cls = .type "function")
    (h : ∀ {led' : Lg} {s : Shared} {Q : Value → Shared → Prop} {E : Value → Shared → Prop}, At h₀ L m Y led' s.heap → (∀ h' tk led'', At h₀ L m Y led'' h' → Sub led' led'' → Q v { s with heap := h', toks := tk }) → wpAny (model PR w) A (call (.ref f) [.ref e]) Q E s)
    (hc : eval (.Call (.Attribute o name ap) [] [] pos) env = (do
      let ov ← eval o env
      standAt ap.atName
      let (f, first) ← holding [ov] (getMethod ov name pl)
      callWith pos f first (backTo pos (starEach [] env)) []) := by rfl) : Ev (model PR w) A h₀ L m Y env (.Call (.Attribute o name ap) [] [] pos) led (EqR v) := fun l hl => Ws.mk fun s Q E at0 k =>
  MethodCall_ (pl := pl) ((ho l hl).go s _ _ at0 fun v' h1 t1 l1 at1 s1 r1 => by
    obtain ⟨D, oe, od, vs, n1, n2, n3, n4, n5, n6⟩ := N.at_
    cases r1
    refine get_meth52 X at1 n1 n2 n3 n4 n6 hsh hB hf hfo hfc ?_
    refine callWith_K0 (X.keeps at1.fr.keep) hkp ?_
    exact h at1 fun h2 t2 l2 at2 s2 => k v h2 t2 l2 at2 (s1.trans s2) rfl) hc
/-- raise NannyNag(…) -/
theorem ex_raise52 {f e1 : Expr} {es : List Expr} {cp rp : Pos} {Q : Flow → Shared → Prop} (X : (hd.heap_39 w.params).In h₀) (T : Top p loose mean mg mb h₀) (hh : A.handled = none) (hdp : A.depth + 1 < recursionLimit) (at0 : At h₀ L m Y led s.heap)
    (hf : Ev (model PR w) A h₀ L m Y env f led (EqR (.ref 52))) (hs : Sp (model PR w) A h₀ L m Y env cp (e1 :: es) led [EqR v1, EqR v2, EqR v3])
    (k : ∀ e D t h' tk od oe' led', oe'.cls = .ref 52 → oe'.dict = some D → oe'.data = .fields #[.ref t, .none, .none, .none, .bool false, .none] → At h₀ L m ((e, oe') :: (D, od) :: Y) led' h' → Sub led led' → NsO1 od (nagAttrs v1 v2 v3) → E (.ref e) { s with heap := h', toks := tk })
    (hc : eval (.Call f (e1 :: es) [] cp) env = (do callWith cp (← eval f env) [] (backTo cp (starEach (e1 :: es) env)) (backToKw cp (keywordEach [] env))) := by rfl)
    (he : starEach (e1 :: es) env = (false, eval e1 env) :: starEach es env := by rfl) (hp : (backTo cp (starEach es env)).any (·.1) = false := by rfl) :
    wpAny (model PR w) A (exec (.Raise (some (.Call f (e1 :: es) [] cp)) none rp) env) Q E s := by
  have cls := cls52n rfl w
  rw [arm_exec_Raise]
  refine wpAny_bind (wpAny_standAt (raise52 hh (wpAny_bind (wpAny_mono (Call_ ((hf led .rfl).go _ _ _ at0 fun fv h2 t2 l2 at2 s2 r2 => ?_) hc) (fun v s₃ h₃ => wpAny_bind (wpAny_standAt (wpAny_pure h₃))) fun _ _ x => x))))
  cases r2
  refine callWith_K X cls.2.2.2.2.2.2.2 ((hs l2 s2).go _ _ _ at2 fun vs h3 t3 l3 at3 s3 r3 => ⟨X.keeps at3.fr.keep, ?_⟩) he hp
  obtain ⟨x1, x2, x3, rfl, e1, e2, e3⟩ := all2_three r3
  cases e1
  cases e2
  cases e3
  refine new52 X T hh hdp at3 fun e D t h4 t4 od oe' l4 c1 c2 c3 at4 s4 n4 => ?_
  obtain ⟨mN, hN⟩ := nag_cls (X.keeps at4.fr.keep)
  have ze := (at4.y (e, oe') (.head _)).1
  obtain ⟨c, d, dt, sl⟩ := oe'
  obtain rfl : c = _ := c1
  obtain rfl : d = _ := c2
  obtain rfl : dt = _ := c3
  exact ⟨e, D, t, sl, mN, rfl, hN, ze, k e D t h4 t4 od _ l4 rfl rfl rfl at4 (s2.trans (s3.trans s4)) n4⟩
set_option maxHeartbeats 8000000 in
theorem nag168 {envL : Env} (X : (hd.heap_39 w.params).In h₀) (T : Top p loose mean mg mb h₀) (hh : A.handled = none) (hdp : A.depth + 4 < recursionLimit) (hfr : A.frames = some [envL]) (hfL : envL.frame = some L) (hkL : envL.scope.kind ≠ .module) (at0 : At h₀ L m Y led s.heap)
    (q1 : handedOut v1 = pure v1) (q2 : handedOut v2 = pure v2) (q3 : handedOut v3 = pure v3)
    (k : ∀ v h' tk led', At h₀ L m Y led' h' → Sub led led' → TupR [EqR v1, EqR v2, EqR v3] led' v → Q v { s with heap := h', toks := tk }) : wpAny (model PR w) A (call (.ref 168) [v1, v2, v3]) Q E s := by
  have X' := X.keeps at0.fr.keep
  have T' := T.keeps at0.fr.keep
  obtain ⟨oL, hL, hoL⟩ := at0.own
  have hLa := at0.fr.above
  refine wpAny_call (codeAny_call_def (by omega) (X' 168 _ rfl) rfl T'.nolimit (codeRec_of X' (by rfl)) rfl (BindsTo.of_eq rfl) (by decide) (loc_of rfl) fun h₁ hn hk => ?_)
  have at1 := at0.enter hL hk hn (Nat.le_refl _)
  generalize s.heap.objs.size = L2 at at1 ⊢
  have cls := cls52n rfl w
  refine wpAny_execs_cons ?_
  refine wpAny_Try_except ?_
  refine wpAny_execs_cons ?_
  refine ex_raise52 X T hh (show A.depth + 1 + 1 < _ by omega) at1 (nm_globT X T cls.2.2.2.2.2.2.1) (sp_cons (nm_loc (R := EqR v1) EqR.up rfl rfl) (sp_cons (nm_loc (R := EqR v2) EqR.up rfl rfl) (sp_cons (nm_loc (R := EqR v3) EqR.up rfl rfl) sp_nil EqR.up) EqR.up) EqR.up) fun e D t h2 t2 od oe l2 c1 c2 c3 at2 s2 n2 => ?_
  have at3 := at2.perm (Y' := (L, oL) :: (e, oe) :: (D, od) :: Y) ((List.Perm.cons _ (List.Perm.swap _ _ _)).trans (List.Perm.swap _ _ _))
  refine note52 (envL := envL) (by rw [Around.frames_deeper hfr]) rfl hfL (by intro q; cases q) hkL (fun vs q => by obtain ⟨es, ep, z, _⟩ := hoL; rw [z] at q; cases q) at3 c3 fun h3 sl tb oT ts g1 g2 at4 => ?_
  refine flight52 at4 rfl g1 g2 fun h4 oT4 ts4 g3 g4 at5 => ?_
  refine wpAny_handleBy_cons (codeAny_handlers_test (ev_run at5 (nm_globT X T cls.2.2.2.2.2.2.1) fun cv h6 t6 l6 at6 s6 r6 => ?_)) (by intro q; cases q)
  cases r6
  obtain ⟨mN, hN⟩ := nag_cls (X.keeps at6.fr.keep)
  obtain ⟨nm, q, bs, sn, sub, ab, col, dd, k0, k1, k2, k3, k5, hC⟩ := hN.obj
  refine wpAny_excMatches_sub_self hC (at6.y (e, _) (.tail _ (.head _))).1 c1 (by decide) (codeAny_handlers_suite_as ?_)
  refine flight52 at6 rfl g3 g4 fun h7 oT7 ts7 g5 g6 at7 => ?_
  refine wpAny_storeName_local rfl at7.fr.ns fun h8 hn8 hs8 => ?_
  have at8 := at7.frame hn8 hs8
  have N8 : Nagged ((L, { oL with slots := sl }) :: (e, { oe with data := .fields #[.ref t, .ref tb, .none, .none, .bool false, .none] }) :: (tb, oT7) :: (D, od) :: Y) e v1 v2 v3 := ⟨D, _, od, _, .tail _ (.head _), .tail _ (.tail _ (.tail _ (.head _))), c1, c2, rfl, n2⟩
  refine wpAny_execs_cons (wpAny_Return_some (ev_run at8 (ev_tup (sp_cons (ev_get (f := 35) (v := v1) X (nm_loc (R := EqR (.ref e)) EqR.up rfl rfl) N8 (by kernel_rfl) rfl (by rw [typeLookup_type, builtinLookup_eq_fast]; kernel_rfl) (fun h => h.getLineno) rfl rfl fun at0 k => get35 X T (show A.depth + 1 < _ by omega) at0 N8 q1 k)
    (sp_cons (ev_get (f := 42) (v := v2) X (nm_loc (R := EqR (.ref e)) EqR.up rfl rfl) N8 (by kernel_rfl) rfl (by rw [typeLookup_type, builtinLookup_eq_fast]; kernel_rfl) (fun h => h.getMsg) rfl rfl fun at0 k => get42 X T (show A.depth + 1 < _ by omega) at0 N8 q2 k)
    (sp_cons (ev_get (f := 49) (v := v3) X (nm_loc (R := EqR (.ref e)) EqR.up rfl rfl) N8 (by kernel_rfl) rfl (by rw [typeLookup_type, builtinLookup_eq_fast]; kernel_rfl) (fun h => h.getLine) rfl rfl fun at0 k => get49 X T (show A.depth + 1 < _ by omega) at0 N8 q3 k) sp_nil EqR.up) EqR.up) EqR.up) (ups_cons EqR.up (ups_cons EqR.up (ups_cons EqR.up ups_nil)))) fun v h9 t9 l9 at9 s9 r9 => ?_))
  refine wpAny_nameGoes rfl at9.fr.ns rfl fun h10 m' hn10 hs10 => ?_
  have at10 := At.leave (At.frame' at9 hn10 hs10) (oL := { oL with slots := sl }) hoL hLa
  exact k v h10 _ l9 (At.drop (X := [_, _, _]) at10) (s2.trans (s6.trans s9)) r9
end
end Mine
end
noncomputable section
open PySem PySem.W PyProof.Rows PySem.Calls PySem.Spec
set_option maxRecDepth 100000
set_option maxHeartbeats 4000000
set_option linter.unusedVariables false
namespace Mine
open LCg
/-- all that lies beside the frame -/
noncomputable def allOf (h₀ : Heap) (L : Addr) (h : Heap) : Lg := (List.range h.objs.size).filterMap fun b => if b = L then none else match h₀.get? b with
  | some _ => none
  | none => (h.get? b).map (b, ·)
theorem mem_allOf {h₀ h : Heap} {L : Addr} {p : Addr × Obj} : p ∈ allOf h₀ L h ↔ p.1 ≠ L ∧ h₀.get? p.1 = none ∧ h.get? p.1 = some p.2 := by
  obtain ⟨b, o⟩ := p
  unfold allOf
  rw [List.mem_filterMap]
  constructor
  · rintro ⟨c, hc, e⟩
    split at e
    · cases e
    rename_i hn
    split at e
    · cases e
    rename_i h0
    obtain ⟨o', e1, e2⟩ := Option.map_eq_some_iff.mp e
    cases e2
    exact ⟨hn, h0, e1⟩
  · rintro ⟨h1, h2, h3⟩
    refine ⟨b, List.mem_range.mpr (Heap.lt_size h3), ?_⟩
    dsimp only at h1 h2 h3
    rw [if_neg h1, h2]
    dsimp only
    rw [h3]
    rfl
section
variable {h₀ h h' : Heap} {L : Addr} {m m' : Str → Option Value} {Y led led' : Lg}
theorem At.big (x : At h₀ L m Y led h) : At h₀ L m [] (allOf h₀ L h) h :=
  ⟨x.fr, fun p hp => let ⟨a, b, c⟩ := mem_allOf.mp hp; ⟨c, a, b⟩, .nil, fun p hp hm => nomatch hm⟩
theorem At.inBig (x : At h₀ L m Y led h) : ∀ p ∈ Y ++ led, p ∈ allOf h₀ L h := fun p hp => let z := x.ne p hp; mem_allOf.mpr ⟨z.2.1, z.2.2, z.1⟩
theorem At.back (x : At h₀ L m Y led h) (y : At h₀ L m' [] led' h') (s : Sub (allOf h₀ L h) led') : At h₀ L m' Y led h' :=
  ⟨y.fr, fun p hp => y.ne p (s p (x.inBig p hp)), x.nd, x.off⟩
/-- in a big ledger all that lay keeps lying -/
theorem At.bigKeeps (y : At h₀ L m' [] led' h') (F : Fr h₀ L h m) (s : Sub (allOf h₀ L h) led') : ∀ b o, b ≠ L → h.get? b = some o → h'.get? b = some o := fun b o hb e => by
  cases h0 : h₀.get? b with
  | none => exact (y.ne (b, o) (s _ (mem_allOf.mpr ⟨hb, h0, e⟩))).1
  | some o' =>
    have z := F.keep b o' h0
    rw [e] at z
    cases z
    exact y.fr.keep b o h0
theorem At.setExt {P : Addr} {o o' : Obj} (x : At h₀ L m ((P, o) :: Y) led h) (hx : Heap.ExtBut P h h') (ho : h'.get? P = some o') : At h₀ L m ((P, o') :: Y) led h' := by
  have zP := x.ne (P, o) (.head _)
  have nd := x.nd
  rw [List.map_cons, List.nodup_cons] at nd
  refine ⟨⟨x.fr.ns.at' fun o e => hx L o (Ne.symm zP.2.1) e, fun b o e => hx b o (fun q => by rw [q, zP.2.2] at e; cases e) (x.fr.keep b o e), x.fr.above⟩, fun p hp => ?_, x.nd, x.off⟩
  rcases List.mem_append.mp hp with hp | hp
  · rcases List.mem_cons.mp hp with rfl | hp
    · exact ⟨ho, zP.2⟩
    · have z := x.ne p (List.mem_append_left _ (.tail _ hp))
      exact ⟨hx _ _ (fun q => nd.1 (q ▸ List.mem_map.mpr ⟨p, hp, rfl⟩)) z.1, z.2⟩
  · have z := x.ne p (List.mem_append_right _ hp)
    exact ⟨hx _ _ (fun q => x.off p hp (by rw [q]; exact .head _)) z.1, z.2⟩
end
section
variable {M : Model} {prog : Program} {w : World} {A : Around} {E : Value → Shared → Prop} {s : Shared} {h₀ : Heap} {L : Addr} {m : Str → Option Value} {Y led : Lg} {ps : Array Value} {P c : Addr}
/-- the code of a generator, made or found -/
theorem gen_code {env : Env} {pos : Pos} {qual : Str} {scope : Scope} {Q : Value → Shared → Prop} (hc : env.code = .ref c) (hcd : CodeHd s.heap c P) (hP : s.heap.get? P = some (tabObj ps)) (ht : TriplesOk ps.toList)
    (hQ : ∀ code h' tk ps', TriplesOk ps'.toList → Heap.ExtBut P s.heap h' → s.heap.objs.size ≤ h'.objs.size → h'.get? P = some (tabObj ps') → Q code { s with heap := h', toks := tk }) : wpAny M A (genexprCode env pos qual scope) Q E s := by
  have hok := hcd.code hP ht
  cases hnf : codeAmong pos ps.toList with
  | some c' => exact wpAny_genexprCode_hit hc hok hnf (hQ c' s.heap s.toks ps ht (Heap.ExtBut.refl _ _) (Nat.le_refl _) hP)
  | none =>
    refine wpAny_genexprCodeX hc hok (hcd.tab hP) hnf fun c' h' tk hx h1 h2 hco _ htab _ => hQ _ _ _ _ ?_ hx (Nat.le_trans h1 (Nat.le_of_lt h2)) htab.2
    obtain ⟨o, vs, file, tf, flags, tg, inF, text, tt, op, ho, _, _, _, _, _, _, hop, hpd, htr, _⟩ := hco
    exact htr
/-- a generator that waits -/
structure GenW (prog : Program) (w : World) (A : Around) (L a : Addr) (n : Nat) (F : Nat → Value → Prop) (off : Addr → Prop) (s : Shared) : Prop where
  at_ : ∃ fp wr g St, WalksS prog w A.in4 a fp wr (GenOnlyQ g) n F St ∧ St 0 s ∧ (∀ i s', St i s' → s'.TypeIs (.ref a) "generator") ∧ a ∈ fp ∧ (∀ b ∈ fp, @LE.le Nat _ b a) ∧ L ∉ fp ∧ (∀ b ∈ wr, off b) ∧
    ∀ (s : Shared) h' tk, St 0 s → (∀ b ∈ fp, ∀ o, s.heap.get? b = some o → h'.get? b = some o) → St 0 { s with heap := h', toks := tk }
theorem GenW.keeps {a : Addr} {n : Nat} {F : Nat → Value → Prop} {off : Addr → Prop} {h' : Heap} {tk : Nat} (X : GenW prog w A L a n F off s) (k : ∀ b o, b ≠ L → s.heap.get? b = some o → h'.get? b = some o) : GenW prog w A L a n F off { s with heap := h', toks := tk } := by
  obtain ⟨fp, wr, g, St, W, st, ty, ha, hfp, hL, hwr, fr⟩ := X.at_
  exact ⟨fp, wr, g, St, W, fr s h' tk st fun b hb o e => k b o (fun q => hL (q ▸ hb)) e, ty, ha, hfp, hL, hwr, fr⟩
/-- (elt for x in iter) -/
theorem gen_exp {α : Type} {R : α → Rp} {xs : List α} {F : α → Value → Prop} {p : Program} {loose : List Str} {mean : ExcName → Option Value} {mg mb : Str → Option Value} {env : Env} {elt iter : Expr} {x : Str} {px pos : Pos} {scope : Scope} {cl : List (Str × Addr)} {Q : Value → Shared → Prop}
    (T : Top p loose mean mg mb h₀) (hh : A.handled = none) (hroom : A.depth < recursionLimit) (hcode : env.code = .ref c) (hg : env.globals = mainGlobals) (hcd : CodeHd h₀ c P) (ht : TriplesOk ps.toList)
    (at0 : At h₀ L m ((P, tabObj ps) :: Y) led s.heap) (hG : AllBare s.gens) (hi : Ev (model prog w) A h₀ L m ((P, tabObj ps) :: Y) env iter led (ListR R xs))
    (hq : ∀ led' code C A' E' a v (t : Shared) m₂, Sub led led' → A'.handled = none → a ∈ xs → R a led' v → m₂ x = some v → At h₀ C m₂ [] led' t.heap → wpAny (model prog w) A' (eval elt (genEnv scope cl C code builtinsNs env)) (fun y s₃ => F a y ∧ Keeps t s₃) E' t)
    (hQ : ∀ a h' tk gs ps' led', TriplesOk ps'.toList → At h₀ L m ((P, tabObj ps') :: Y) led' h' → Sub led led' → AllBare gs →
      GenW prog w A L a xs.length (fun j y => ∃ x', xs[j]? = some x' ∧ F x' y) (fun b => b ≠ L ∧ h₀.get? b = none ∧ ∀ p ∈ (P, tabObj ps') :: Y ++ led', p.1 ≠ b) { s with heap := h', toks := tk, gens := gs } → Q (.ref a) { s with heap := h', toks := tk, gens := gs })
    (hco : scope.isCoroutine = false := by rfl) (hclos : closureFor scope env = pure cl := by rfl) (hcell : ∀ y ∈ scope.names, y.2 ≠ .cell := by decide) (h0 : scope.names.lookup (".0" : Str) = some NameKind.local := by rfl)
    (hx : scope.names.lookup x = some .local := by rfl) (hkind : scope.kind = .function := by rfl) (hs : ∀ x, genFold iter env x = pure x := by intro _; rfl) :
    wpAny (model prog w) A (eval (.GeneratorExp elt [⟨.Name x px, iter, [], 0⟩] scope pos) env) Q E s := by
  refine wpAny_GeneratorExp_make hco hclos hcell h0 hkind hroom ((hi led .rfl).go s _ _ at0 fun xv h1 t1 l1 at1 s1 r1 => ?_) hs
  obtain ⟨l, vs, n, rfl, hm, r⟩ := r1
  have hl := at1.list hm
  have zl := at1.stay _ hm
  have hlt : @LT.lt Nat _ l h1.objs.size := Heap.lt_size zl.1
  have hLlt : @LT.lt Nat _ L h1.objs.size := at1.fr.ns.lt
  have habove := at1.fr.above
  refine wpAny_pyIter_list hl ⟨(T.nolimit.keeps at1.fr.keep).push _, ?_⟩
  have at2 := at1.keeps (h' := h1.push { cls := .type "list_iterator", data := .fields #[.ref l, .int 0 0] }) fun b ob e => Heap.get?_push_of_some _ e
  refine gen_code hcode (hcd.keeps at2.fr.keep) (at2.y (P, _) (.head _)).1 ht fun code h3 t3 ps' ht' hx3 hz3 hP3 => ?_
  have at3 := at2.setExt hx3 hP3
  have T3 := T.keeps at3.fr.keep
  obtain ⟨bm, ob, b1, b2, b3, b4, b5, b6⟩ := T3.bmain
  refine wpAny_builtinsFor (hg ▸ T3.g) b1 b2 b3 b4 b5 b6 ?_
  intro h' hn' hs'
  have hz : h1.objs.size + 1 ≤ h3.objs.size := by
    have z : (h1.push { cls := .type "list_iterator", data := .fields #[.ref l, .int 0 0] }).objs.size ≤ h3.objs.size := hz3
    rw [Heap.size_push] at z
    exact z
  have hsz : h'.objs.size = h3.objs.size + 1 := by rw [hs'.1, Heap.size_push]
  have keep' : ∀ b o, h3.get? b = some o → h'.get? b = some o := fun b o e => hs'.extBut b o (Nat.ne_of_lt (Heap.lt_size e)) (Heap.get?_push_of_some _ e)
  have keep5 : ∀ b o, h3.get? b = some o → (h'.push { cls := .type "generator", data := .fields #[.int s.gens.size 0, .str "<genexpr>" (t3 + 1), .str (env.qual ++ "<genexpr>") (t3 + 1 + 1)] }).get? b = some o := fun b o e => Heap.get?_push_of_some _ (keep' b o e)
  have at5 := at3.keeps keep5
  obtain ⟨mc, hcs0, _⟩ := id T.nolimit
  have hcsl : @LT.lt Nat _ cStatics h₀.objs.size := hcs0.lt
  have hI : h1.objs.size ∉ ((P, tabObj ps') :: Y ++ l1).map (·.1) := fun hm' => by
    obtain ⟨q, hq, e⟩ := List.mem_map.mp hm'
    have hq' : ∃ o, (q.1, o) ∈ (P, tabObj ps) :: Y ++ l1 := by
      rcases List.mem_append.mp hq with hq | hq
      · rcases List.mem_cons.mp hq with rfl | hq
        · exact ⟨_, .head _⟩
        · exact ⟨q.2, List.mem_append_left _ (.tail _ hq)⟩
      · exact ⟨q.2, List.mem_append_right _ hq⟩
    obtain ⟨o, ho⟩ := hq'
    have := at1.lt _ ho
    rw [show q.1 = h1.objs.size from e] at this
    exact Nat.lt_irrefl _ this
  have hmem : ∀ b, @LT.lt Nat _ b h3.objs.size → b ≠ L → b ∈ (List.range h3.objs.size).filter (fun b => decide (b ≠ L)) := fun b h1 h2 => List.mem_filter.mpr ⟨List.mem_range.mpr h1, decide_eq_true h2⟩
  have hC5 : h3.objs.size ∉ (List.range h3.objs.size).filter (fun b => decide (b ≠ L)) := fun hm => Nat.lt_irrefl _ (List.mem_range.mp (List.mem_filter.mp hm).1)
  have hcL : @LT.lt Nat _ cStatics L := Nat.lt_of_lt_of_le hcsl habove
  have hc1 : @LT.lt Nat _ cStatics h1.objs.size := Nat.lt_trans hcL hLlt
  have hc3 : @LT.lt Nat _ cStatics h3.objs.size := Nat.lt_of_lt_of_le hc1 (Nat.le_of_succ_le hz)
  have W := WalksS.genexpQ (prog := prog) (w := w) (A := A.in4) hh h'.objs.size s.gens.size h3.objs.size ((List.range h3.objs.size).filter fun b => decide (b ≠ L)) [h1.objs.size] (fun _ => true) vs.toArray.size (fun i y => ∃ x', xs[i]? = some x' ∧ F x' y)
    (by rw [hsz]; exact Nat.succ_ne_self _) (fun hm => by have := List.mem_range.mp (List.mem_filter.mp hm).1; omega) (fun b hb => by
      obtain rfl := List.mem_singleton.mp hb
      exact hmem _ (by omega) (Nat.ne_of_gt hLlt)) hroom (hmem _ hc3 (Nat.ne_of_lt hcL)) (Nat.ne_of_lt hc3) (fun hm => Nat.ne_of_lt hc1 (List.mem_singleton.mp hm))
  have hpass : passing (fun _ => true) vs.toArray.size 0 = List.range xs.length := by
    rw [show vs.toArray.size = xs.length by simp [r.length]]
    simp [passing]
  have hne : l ≠ h1.objs.size := Nat.ne_of_lt hlt
  have W₀ : ∀ A' : Around, A'.handled = none → Walks prog w A' h1.objs.size ((List.range h3.objs.size).filter fun b => decide (b ≠ L)) [h1.objs.size] vs.toArray.size (fun i v => vs.toArray[i]? = some v) (fun i h => h.IsListIter h1.objs.size l i ∧ h.IsList l vs.toArray) := fun A' hA =>
    (Walks.list hA h1.objs.size l hne vs.toArray).mono_fp fun b hb => by
      rcases List.mem_cons.mp hb with rfl | hb
      · exact hmem _ (by omega) (Nat.ne_of_gt hLlt)
      · obtain rfl := List.mem_singleton.mp hb
        exact hmem _ (by omega) zl.2.1
  have hIP : h1.objs.size ≠ P := fun q => hI (by rw [q]; exact .head _)
  have itAt : h3.IsListIter h1.objs.size l 0 := ⟨_, hx3 _ _ hIP (Heap.get?_push_size _ rfl), rfl, rfl⟩
  have St0 : GenAt prog w A.in4 h'.objs.size s.gens.size h3.objs.size ((List.range h3.objs.size).filter fun b => decide (b ≠ L)) [h1.objs.size] (fun _ => true) vs.toArray.size (fun i y => ∃ x', xs[i]? = some x' ∧ F x' y) 0
      { s with heap := h'.push { cls := .type "generator", data := .fields #[.int s.gens.size 0, .str "<genexpr>" (t3 + 1), .str (env.qual ++ "<genexpr>") (t3 + 1 + 1)] }, toks := t3 + 1 + 1 + 1, gens := s.gens.push (.fresh (.compStart (.GeneratorExp elt [⟨.Name x px, iter, [], 0⟩] scope pos) 0 (.ref h1.objs.size) .none (genEnv scope cl h3.objs.size code builtinsNs env))) } := by
    refine GenAt.freshD (A := A.in4) (cenv := genEnv scope cl h3.objs.size code builtinsNs env) (m := fun y => if y = ".0" then some (.ref h1.objs.size) else none) hh W₀ (fun _ => true) _ hx (by simp [genEnv, hkind]) hco hC5 ⟨fun A' E' i v t m₂ hA _ _ hi hn hm hk => ?_, fun A' E' i v t m₂ hA _ _ hi _ hn hm hk => ?_⟩ ⟨_, _, _, Heap.get?_push_size _ rfl, rfl, rfl, rfl⟩ (Array.getElem?_push_size ..) ⟨itAt.at fun o e => keep5 _ _ e, (at3.list hm).at fun o e => keep5 _ _ e⟩ (hn'.push _) ((T3.nolimit).keeps keep5)
    · exact wpAny_pure ⟨rfl, _, _, rfl, fun b o e => e⟩
    · obtain ⟨a, ha, hr⟩ := r.get' (i := i) (b := v) (by simpa using hi)
      have kp : ∀ b o, @LT.lt Nat _ b h3.objs.size → b ≠ L → b ≠ h1.objs.size → (h'.push { cls := .type "generator", data := .fields #[.int s.gens.size 0, .str "<genexpr>" (t3 + 1), .str (env.qual ++ "<genexpr>") (t3 + 1 + 1)] }).get? b = some o → t.heap.get? b = some o := fun b o h1 h2 h3 e => hk b (hmem b h1 h2) (fun hm => h3 (List.mem_singleton.mp hm)) o e
      refine wpAny_mono (hq l1 code h3.objs.size A' E' a v t m₂ s1 hA (List.mem_of_getElem? ha) hr hm ⟨⟨hn, fun b o e => ?_, by omega⟩, fun p hp => ?_, .nil, fun p _ hm => nomatch hm⟩) (fun y s₃ z => ⟨⟨a, ha, z.1⟩, z.2⟩) fun _ _ z => z
      · have hb : @LT.lt Nat _ b h₀.objs.size := Heap.lt_size e
        exact kp b o (Nat.lt_of_lt_of_le (Nat.lt_trans (Nat.lt_of_lt_of_le hb habove) hLlt) (Nat.le_of_succ_le hz)) (Nat.ne_of_lt (Nat.lt_of_lt_of_le hb habove)) (Nat.ne_of_lt (Nat.lt_trans (Nat.lt_of_lt_of_le hb habove) hLlt)) (at5.fr.keep b o e)
      · have z := at5.stay p hp
        have zl := at1.lt p (List.mem_append_right _ hp)
        exact ⟨kp _ _ (Nat.lt_of_lt_of_le zl (Nat.le_of_succ_le hz)) z.2.1 (Nat.ne_of_lt zl) z.1, Nat.ne_of_lt (Nat.lt_of_lt_of_le zl (Nat.le_of_succ_le hz)), z.2.2⟩
  have eF : ∀ (j : Nat) (y : Value), (∃ i : Nat, (passing (fun _ => true) vs.toArray.size 0)[j]? = some i ∧ ∃ x', xs[i]? = some x' ∧ F x' y) → ∃ x', xs[j]? = some x' ∧ F x' y := fun j y hy => by
    obtain ⟨i, e1, x', e2, e3⟩ := hy
    rw [hpass] at e1
    obtain ⟨_, rfl⟩ := List.getElem?_eq_some_iff.mp e1
    simp only [List.getElem_range] at e2
    exact ⟨x', e2, e3⟩
  have W' := W.imp eF
  rw [hpass, List.length_range] at W'
  refine hQ h'.objs.size _ _ _ ps' l1 ht' at5 s1 (hG.push rfl) ⟨_, _, _, _, W', St0, fun i s' st => st.1.typeIs, .head _, fun b hb => ?_, fun hm => ?_, fun b hb => ?_, fun s h' tk st hk => W.frame 0 { s with toks := 0 } h' tk st (Nat.zero_le _) hk⟩
  · rcases List.mem_cons.mp hb with rfl | hb
    · exact Nat.le_refl _
    · rcases List.mem_cons.mp hb with rfl | hb
      · omega
      · have := List.mem_range.mp (List.mem_filter.mp hb).1
        omega
  · rcases List.mem_cons.mp hm with q | hm
    · rw [q] at hLlt; omega
    · rcases List.mem_cons.mp hm with q | hm
      · rw [q] at hLlt; omega
      · have := (List.mem_filter.mp hm).2
        simp at this
  · have z3 : ∀ b, @LE.le Nat _ h1.objs.size b → (∀ p ∈ (P, tabObj ps') :: Y ++ l1, p.1 ≠ b) → b ≠ L ∧ h₀.get? b = none ∧ ∀ p ∈ (P, tabObj ps') :: Y ++ l1, p.1 ≠ b := fun b hb hn => ⟨by omega, Heap.get?_none_of_le (by omega), hn⟩
    rcases List.mem_cons.mp hb with rfl | hb
    · refine z3 _ (by omega) fun p hp q => ?_
      have z : @LT.lt Nat _ p.1 h3.objs.size := at3.lt p hp
      rw [q] at z
      exact Nat.lt_irrefl _ z
    · obtain rfl := List.mem_singleton.mp hb
      exact z3 _ (Nat.le_refl _) fun p hp q => hI (List.mem_map.mpr ⟨p, hp, q⟩)
end
end Mine
end
noncomputable section
open PySem PySem.W PyProof.Rows PySem.Calls PySem.Spec
set_option maxRecDepth 100000
set_option maxHeartbeats 4000000
set_option linter.unusedVariables false
namespace Mine
open LCg
section
variable {M : Model} {w : World} {p : Program} {loose : List Str} {mean : ExcName → Option Value} {mg mb : Str → Option Value} {A : Around} {E : Value → Shared → Prop} {s : Shared} {h₀ : Heap} {L : Addr} {m : Str → Option Value} {Y led : Lg} {env : Env}
/-- str(tup[0]) changes nothing -/
theorem elt_str {x : Str} {sp tp bp cp pos : Pos} {k : Nat} {a b c : Int} {v : Value} (X : (hd.heap_39 w.params).In h₀) (T : Top p loose mean mg mb h₀) (at0 : At h₀ L m Y led s.heap) (hr : FigR (a, b, c) led v) (hv : m x = some v) (h1 : -2 ^ 1920 < a) (h2 : a < 2 ^ 1920)
    (hg : env.globals = mainGlobals) (hb : env.builtins = builtinsNs) (hk : env.scope.kind = .function) (hL : env.locals = L) (hs : env.kindOf "str" = some .globalImplicit) (hx : env.kindOf x = some .local) (hdb : (x == ("__debug__" : Str)) = false := by decide)
    (hc : eval (.Call (.Name "str" sp) [.Subscript (.Name x tp) (.Constant (.int 0) k cp) bp] [] pos) env = (do callWith pos (← eval (.Name "str" sp) env) [] (backTo pos (starEach [.Subscript (.Name x tp) (.Constant (.int 0) k cp) bp] env)) (backToKw pos (keywordEach [] env))) := by rfl)
    (he : starEach [.Subscript (.Name x tp) (.Constant (.int 0) k cp) bp] env = (false, eval (.Subscript (.Name x tp) (.Constant (.int 0) k cp) bp) env) :: starEach [] env := by rfl) :
    wpAny (model PR w) A (eval (.Call (.Name "str" sp) [.Subscript (.Name x tp) (.Constant (.int 0) k cp) bp] [] pos) env) (fun y s₃ => (∃ u, y = .str (Str.ofString (toString a)) u) ∧ Keeps s s₃) E s := by
  have T' := T.keeps at0.fr.keep
  obtain ⟨D, vs, n, rfl, hm, r⟩ := hr
  obtain ⟨x1, x2, x3, rfl, ⟨t1, rfl⟩, _, _⟩ := all2_three r
  refine Call_ (Name_function_global hk hs (loadGlobal_builtin (env := env) (hg ▸ T'.g) (mg_none_of X T.g (bf_str rfl w).1) (hb ▸ T'.b) ((T.builtins _ (by decide)).trans (bf_str rfl w).2) ?_) (by decide)) hc
  refine callWith_type1 (spliced_more (Subscript_ (wpAny_Name (wpAny_loadName_local hk hx (hL ▸ at0.fr.ns) hv (wpAny_Constant_int ?_)) hdb)) he) he rfl
  refine item_tupleT (j := 0) (at0.tup hm) (by decide) (by decide) rfl rfl (spliced_nil ?_) rfl
  exact P.str_of_int (shown h1 h2 (Int.le_refl _)) ⟨⟨_, rfl⟩, _, _, rfl, fun b o e => e⟩
end
end Mine
end
noncomputable section
open PySem PySem.W PyProof.Rows PySem.Calls PySem.Spec
set_option maxRecDepth 100000
set_option maxHeartbeats 4000000
set_option linter.unusedVariables false
namespace Mine
open LCg
section
variable {prog : Program} {M : Model} {w : World} {p : Program} {loose : List Str} {mean : ExcName → Option Value} {mg mb : Str → Option Value} {A : Around} {E : Value → Shared → Prop} {s : Shared} {h₀ : Heap} {L : Addr} {m : Str → Option Value} {Y led : Lg} {env : Env}
theorem nm_builtT {x : Str} {v : Value} {pos : Pos} (X : (hd.heap_39 w.params).In h₀) (T : Top p loose mean mg mb h₀) (e : nsIn (hd.heap_39 w.params) mainGlobals x = some none) (hv : bootBuiltins x = some v) (hn : x ≠ "__name__" := by decide) (hg : env.globals = mainGlobals := by rfl) (hb : env.builtins = builtinsNs := by rfl) (hk : env.scope.kind = .function := by rfl)
    (hx : env.kindOf x = some .globalImplicit := by rfl) (hdb : (x == ("__debug__" : Str)) = false := by decide) : Ev M A h₀ L m Y env (.Name x pos) led (EqR v) := fun l hl => Ws.mk fun s Q E at0 k =>
  Name_function_global hk hx (loadGlobal_builtin (env := env) (show s.heap.Ns env.globals mg from hg ▸ (T.keeps at0.fr.keep).g) (mg_none_of X T.g e) (show s.heap.Ns env.builtins mb from hb ▸ (T.keeps at0.fr.keep).b) ((T.builtins x hn).trans hv) (k _ _ _ l at0 .rfl rfl)) hdb
/-- join takes the generator's texts -/
theorem gen_join {sep : Str} {t : Tok} {n : Nat} {a : Addr} {F : Nat → Value → Prop} {off : Addr → Prop} {Q : Value → Shared → Prop} (X : GenW prog w A L a n F off s) (tx : Nat → Str) (htx : ∀ j v, F j v → ∃ u, v = .str (tx j) u) (hok : JoinOk sep ((List.range n).map tx) = true) (hsz : n ≤ sizeLine)
    (hQ : ∀ h' tk gs t', (∀ b o, ¬ off b → s.heap.get? b = some o → h'.get? b = some o) → (AllBare s.gens → AllBare gs) → Q (.str (Txt.join sep ((List.range n).map tx)) t') { s with heap := h', toks := tk, gens := gs }) :
    wpAny (model prog w) A (call (.builtin "str.join") [.str sep t, .ref a]) Q E s := by
  obtain ⟨fp, wr, g, St, W, st, ty, ha, hfp, hL, hwr, fr⟩ := X.at_
  have hlt : @LT.lt Nat _ a s.heap.objs.size := by
    obtain ⟨o, e, _⟩ := ty 0 s st
    exact Heap.lt_size e
  refine SC.joinGen W.in4_2 ty st (fun b hb => Nat.lt_of_le_of_lt (hfp b hb) hlt) ha (fun j v hv => let ⟨u, e⟩ := htx j v hv; ⟨_, u, e⟩) (fun s' lt hm hacc => ?_) hsz
  have hl : lt.map (·.1) = (List.range n).map tx := by
    apply List.ext_getElem?
    intro j
    have hsz : lt.length = n := by simpa [strValues] using hacc.1
    by_cases hj : j < n
    · have hj' : j < lt.length := hsz ▸ hj
      obtain ⟨u, hv⟩ := htx j _ (hacc.2 j (.str lt[j].1 lt[j].2) (by simp [strValues, List.getElem?_eq_getElem hj']))
      injection hv with h1 _
      simp [List.getElem?_eq_getElem hj', hj, h1]
    · rw [List.getElem?_eq_none (by simpa [hsz] using Nat.le_of_not_lt hj), List.getElem?_eq_none (by simpa using Nat.le_of_not_lt hj)]
  rw [hl]
  obtain ⟨h', g', d', k', o'⟩ := s'
  have e1 : d' = s.drawn := hm.drawn
  have e2 : o' = s.os := hm.os
  subst e1 e2
  exact ⟨hok, fun t' k => hQ h' k g' t' (fun b o hb e => hm.heap b o (fun hw => hb (hwr b hw)) e) fun G => G.movedS hm⟩
noncomputable def prefixF (n : Nat) : Str := if decide ((n : Int) > 1) = true then Str.ofString "at tab size" ++ Str.ofString "s" else Str.ofString "at tab size"
noncomputable def wordsF (sizes : List Int) : Str := prefixF sizes.length ++ Str.ofString " " ++ Txt.join (Str.ofString ", ") (sizes.map fun i => Str.ofString (toString i))
end
end Mine
end
noncomputable section
open PySem PySem.W PyProof.Rows PySem.Calls PySem.Spec
set_option maxRecDepth 100000
set_option maxHeartbeats 4000000
set_option linter.unusedVariables false
namespace Mine
open LCg
section
variable {w : World} {p : Program} {loose : List Str} {mean : ExcName → Option Value} {mg mb : Str → Option Value} {A : Around} {E : Value → Shared → Prop} {s : Shared} {h₀ : Heap} {L Pt : Addr} {m : Str → Option Value} {Y led : Lg} {ps : Array Value} {v : Value} {xs : List (Int × Int × Int)} {Q : Value → Shared → Prop}
theorem figR_up (x : Int × Int × Int) : Up (FigR x) := TupR.up (ups_cons IntR.up (ups_cons IntR.up (ups_cons IntR.up ups_nil)))
/-- return prefix + ' ' + ', '.join(firsts) -/
theorem ret_join {pl : Sem Bool} {env : Env} {p1 p2 p3 p4 p5 p6 p7 p8 p9 : Pos} {k1 k2 n : Nat} {a : Addr} {F : Nat → Value → Prop} {off : Addr → Prop} {x sp sep : Str} {t : Tok} {tx : Nat → Str} {Q : Flow → Shared → Prop} (at6 : At h₀ L m [] led s.heap) (GW : GenW (PR) w A L a n F off s)
    (h1 : m "firsts" = some (.ref a)) (h2 : m "prefix" = some (.str x t)) (htx : ∀ j v, F j v → ∃ u, v = .str (tx j) u) (hok : JoinOk sep ((List.range n).map tx) = true) (hz : n ≤ sizeLine) (hx : x.length + sp.length ≤ sizeLine) (hl : (x ++ sp).length + (Txt.join sep ((List.range n).map tx)).length ≤ sizeLine)
    (k : ∀ v h' tk gs h6, (∃ u, v = .str (x ++ sp ++ Txt.join sep ((List.range n).map tx)) u) → (∃ l6, At h₀ L m [] l6 h6 ∧ Sub led l6) → (∀ b o, ¬ off b → h6.get? b = some o → h'.get? b = some o) → (AllBare s.gens → AllBare gs) → Q (.ret v) { s with heap := h', toks := tk, gens := gs })
    (hF : Fr h₀ L s.heap m) (hbig : Sub (allOf h₀ L s.heap) led)
    (hL : env.locals = L := by rfl) (hk : env.scope.kind = .function := by rfl) (hf : env.kindOf "firsts" = some .local := by rfl) (hp : env.kindOf "prefix" = some .local := by rfl)
    (hc : eval (.Call (.Attribute (.Constant (.str sep) k2 p4) "join" p5) [.Name "firsts" p6] [] p7) env = (do
      let ov ← eval (.Constant (.str sep) k2 p4) env
      standAt p5.atName
      let (f, first) ← holding [ov] (getMethod ov "join" pl)
      callWith p7 f first (backTo p7 (starEach [.Name "firsts" p6] env)) []) := by rfl)
    (es : starEach [.Name "firsts" p6] env = (false, eval (.Name "firsts" p6) env) :: starEach [] env := by rfl) :
    Wp (model PR w) A (exec (.Return (some (.BinOp (.BinOp (.Name "prefix" p1) .Add (.Constant (.str sp) k1 p2) p3) .Add (.Call (.Attribute (.Constant (.str sep) k2 p4) "join" p5) [.Name "firsts" p6] [] p7) p8)) p9) env) Q E s := Wp.mk <| by
  refine wpAny_Return_some (wpAny_BinOp (ev_run at6 (ev_cat (nm_loc (R := StrR x) StrR.up h2 ⟨_, rfl⟩ hL hk hp) ev_str hx) fun v6 h6 t6 l6 at7 s7 r7 => ?_))
  obtain ⟨u7, rfl⟩ := r7
  refine MethodCall_ (pl := pl) (Calls.Constant_str (GM.join (callWith_method1 (spliced_more (wpAny_Name (wpAny_loadName_local hk hf (hL ▸ at7.fr.ns) h1 (spliced_nil ?_)) (by decide)) es) es rfl))) hc
  have GW' : GenW PR w A L a n F off { s with heap := h6, toks := t6 + 1 } := GW.keeps fun b o hb e => at7.bigKeeps hF (hbig.trans s7) b o hb e
  refine gen_join GW' tx htx hok hz fun h' tk gs t' kp kg => add_str (fun t'' tk'' => k _ h' tk'' gs h6 ⟨_, rfl⟩ ⟨l6, at7, s7⟩ kp kg) hl
theorem At.keepsOff {h h' : Heap} (x : At h₀ L m Y led h) (k : ∀ b o, ¬ (b ≠ L ∧ h₀.get? b = none ∧ ∀ p ∈ Y ++ led, p.1 ≠ b) → h.get? b = some o → h'.get? b = some o) : At h₀ L m Y led h' :=
  ⟨⟨x.fr.ns.at' fun o e => k L o (fun z => z.1 rfl) e, fun b o e => k b o (fun z => by rw [z.2.1] at e; cases e) (x.fr.keep b o e), x.fr.above⟩, fun p hp => ⟨k _ _ (fun z => z.2.2 p hp rfl) (x.ne p hp).1, (x.ne p hp).2⟩, x.nd, x.off⟩
noncomputable def txF (xs : List (Int × Int × Int)) (j : Nat) : Str := match xs[j]? with
  | some x => Str.ofString (toString x.1)
  | none => Str.ofString ""
theorem txF_range (xs : List (Int × Int × Int)) : (List.range xs.length).map (txF xs) = xs.map fun x => Str.ofString (toString x.1) := by
  apply List.ext_getElem?
  intro i
  by_cases hi : i < xs.length
  · simp [hi, txF]
  · simp [hi, List.getElem?_eq_none (Nat.le_of_not_lt hi)]
set_option maxHeartbeats 8000000 in
theorem fw128 (X : (hd.heap_39 w.params).In h₀) (T : Top p loose mean mg mb h₀) (hh : A.handled = none) (hdp : A.depth + 4 < recursionLimit) (hcd : CodeHd h₀ 127 Pt) (ht : TriplesOk ps.toList) (at0 : At h₀ L m ((Pt, tabObj ps) :: Y) led s.heap) (hG : AllBare s.gens)
    (hv : ListR FigR xs led v) (hb : ∀ x ∈ xs, -2 ^ 1920 < x.1 ∧ x.1 < 2 ^ 1920) (hz : xs.length ≤ sizeLine) (hok : JoinOk (Str.ofString ", ") (xs.map fun x => Str.ofString (toString x.1)) = true) (hl : (prefixF xs.length ++ Str.ofString " ").length + (Txt.join (Str.ofString ", ") (xs.map fun x => Str.ofString (toString x.1))).length ≤ sizeLine)
    (k : ∀ v' h' tk gs ps' led', TriplesOk ps'.toList → At h₀ L m ((Pt, tabObj ps') :: Y) led' h' → Sub led led' → AllBare gs → StrR (wordsF (xs.map (·.1))) led' v' → Q v' { s with heap := h', toks := tk, gens := gs }) :
    wpAny (model PR w) A (call (.ref 128) [v]) Q E s := by
  have X' := X.keeps at0.fr.keep
  have T' := T.keeps at0.fr.keep
  obtain ⟨oL, hL, hoL⟩ := at0.own
  have hLa := at0.fr.above
  refine wpAny_call (codeAny_call_def (by omega) (X' 128 _ rfl) rfl T'.nolimit (codeRec_of X' (by rfl)) rfl (BindsTo.of_eq rfl) (by decide) (loc_of rfl) fun h₁ hn hk => ?_)
  have at1 := (at0.enter hL hk hn (Nat.le_refl _)).perm (List.Perm.swap _ _ _)
  generalize s.heap.objs.size = L2 at at1 ⊢
  refine wpAny_execs_cons (wpAny_Assign_Name (gen_exp (xs := xs) (R := FigR) (F := fun x y => ∃ u, y = .str (Str.ofString (toString x.1)) u) T hh (show A.depth + 1 < _ by omega) rfl rfl hcd ht at1 hG (nm_loc (ListR.up figR_up) rfl hv)
    (fun l code C A' E' x v t m₂ sl hA hx hr hm atC => elt_str X T atC hr hm (hb x hx).1 (hb x hx).2 rfl rfl rfl rfl rfl rfl) fun a h2 t2 gs ps' l2 ht2 at2 s2 hg2 GW => ?_))
  have atB := at2.big
  refine store_loc atB rfl rfl rfl fun h3 at3 => ?_
  have hv3 : ListR FigR xs (allOf h₀ L2 h2) v := ListR.up figR_up _ _ _ (fun q hq => at2.inBig q (List.mem_append_right _ (s2 q hq))) hv
  with_reducible refine Wp.h ?_
  refine ex_cons (ex_loc at3 (ev_str (i := Str.ofString "at tab size")) fun v4 h4 t4 l4 at4 s4 r4 => ?_)
  obtain ⟨t5, rfl⟩ := r4
  refine ex_cons (ex_if (c := decide ((xs.length : Int) > 1)) at4 (te_cmp (R1 := IntR (xs.length : Int)) (R2 := IntR 1) (ev_len figR_up hz (nm_builtT X T (bf_len rfl w).1 (bf_len rfl w).2) (nm_loc (ListR.up figR_up) rfl (ListR.up figR_up _ _ _ s4 hv3))) ev_int IntR.up fun l a b hl' ra rb => ws_gtI ra rb) fun h6 t6 l6 at6 s6 => ?_)
  have hpl : (Str.ofString "at tab size").length + (Str.ofString "s").length ≤ sizeLine := by decide
  have htx : ∀ (j : Nat) (v : Value), (∃ x', xs[j]? = some x' ∧ ∃ u, v = .str (Str.ofString (toString x'.1)) u) → ∃ u, v = .str (txF xs j) u := fun j v hj => by
    obtain ⟨x', e, u, rfl⟩ := hj
    exact ⟨u, by unfold txF; rw [e]⟩
  have hw : wordsF (xs.map (·.1)) = prefixF xs.length ++ Str.ofString " " ++ Txt.join (Str.ofString ", ") (xs.map fun x => Str.ofString (toString x.1)) := by
    unfold wordsF
    rw [List.length_map, List.map_map]
    rfl
  unfold prefixF at hl hw
  split
  · rename_i hc
    rw [if_pos hc] at hl
    refine ex_cons (ex_loc at6 (ev_cat (nm_loc (R := StrR (Str.ofString "at tab size")) StrR.up rfl ⟨_, rfl⟩) (ev_str (i := Str.ofString "s")) hpl) fun v8 h8 t8 l8 at8 s8 r8 => ?_)
    obtain ⟨t9, rfl⟩ := r8
    refine ex_nil ?_
    refine ex_cons (ret_join (tx := txF xs) at8.big (GW.keeps fun b o hb e => at8.bigKeeps at2.fr (s4.trans (s6.trans s8)) b o hb e) rfl rfl htx (by rw [txF_range]; exact hok) hz (by decide) (by rw [txF_range]; exact hl) (fun v' h' tk gs' h9 hv' ⟨l9, at9, s9⟩ kp kg => ?_) at8.fr .rfl)
    have atF := (At.keepsOff ((at2.back at8 (s4.trans (s6.trans s8))).back at9 s9) kp).perm (List.Perm.swap _ _ _)
    obtain ⟨u, rfl⟩ := hv'
    exact k _ h' tk gs' ps' l2 ht2 (atF.leave hoL hLa) s2 (kg hg2) ⟨u, by rw [hw, if_pos hc, txF_range]⟩
  · rename_i hc
    rw [if_neg hc] at hl
    refine ex_nil ?_
    refine ex_cons (ret_join (tx := txF xs) at6.big (GW.keeps fun b o hb e => at6.bigKeeps at2.fr (s4.trans s6) b o hb e) rfl rfl htx (by rw [txF_range]; exact hok) hz (by decide) (by rw [txF_range]; exact hl) (fun v' h' tk gs' h9 hv' ⟨l9, at9, s9⟩ kp kg => ?_) at6.fr .rfl)
    have atF := (At.keepsOff ((at2.back at6 (s4.trans s6)).back at9 s9) kp).perm (List.Perm.swap _ _ _)
    obtain ⟨u, rfl⟩ := hv'
    exact k _ h' tk gs' ps' l2 ht2 (atF.leave hoL hLa) s2 (kg hg2) ⟨u, by rw [hw, if_neg hc, txF_range]⟩
end
end Mine
end
noncomputable section
open PySem PySem.W PyProof.Rows PySem.Calls PySem.Spec
set_option maxRecDepth 100000
set_option maxHeartbeats 4000000
set_option linter.unusedVariables false
namespace Mine
open LCg
noncomputable def figD (x : Int × Int × Int) : PyData := .tuple [.int x.1, .int x.2.1, .int x.2.2]
theorem FigR.dat (x : Int × Int × Int) : DatR (FigR x) (figD x) := TupR.dat (.cons IntR.dat (.cons IntR.dat (.cons IntR.dat .nil)))
theorem figD_sh (x : Int × Int × Int) : Sh (figD x) 1 := Sh.tup fun d hd => by
  simp only [List.mem_cons, List.not_mem_nil, or_false] at hd
  rcases hd with rfl | rfl | rfl <;> exact Sh.int _
theorem figs_sh (xs : List (Int × Int × Int)) : Sh (.list (xs.map figD)) 2 := Sh.map fun x _ => figD_sh x
theorem figs_nil (xs : List (Int × Int × Int)) : (PyData.list (xs.map figD)).eqv (.list []) = xs.isEmpty := by
  cases xs <;> simp [PyData.eqv, PyData.eqvAll]
/-- the table of codes has grown -/
noncomputable def GrowT (P : Addr) (Y Y' : Lg) : Prop := ∃ Y1 Y2 ps ps', Y = Y1 ++ (P, tabObj ps) :: Y2 ∧ Y' = Y1 ++ (P, tabObj ps') :: Y2
theorem GrowT.map {P : Addr} {Y Y' : Lg} (x : GrowT P Y Y') : Y'.map (·.1) = Y.map (·.1) := by
  obtain ⟨Y1, Y2, ps, ps', rfl, rfl⟩ := x
  simp
theorem GrowT.mem {P : Addr} {Y Y' : Lg} (x : GrowT P Y Y') {q : Addr × Obj} (hq : q ∈ Y) (hn : ∀ ps, q.2 ≠ tabObj ps) : q ∈ Y' := by
  obtain ⟨Y1, Y2, ps, ps', rfl, rfl⟩ := x
  rcases List.mem_append.mp hq with h | h
  · simp [h]
  · rcases List.mem_cons.mp h with rfl | h
    · exact absurd rfl (hn ps)
    · simp [h]
theorem GrowT.cellV {P c : Addr} {v : Value} {Y Y' : Lg} (x : GrowT P Y Y') (h : CellV Y c v) : CellV Y' c v := let ⟨o, h1, h2⟩ := h; ⟨o, x.mem h1 (fun ps e => by rw [show o = tabObj ps from e] at h2; cases h2), h2⟩
theorem GrowT.hasCell {P c : Addr} {Y Y' : Lg} (x : GrowT P Y Y') (h : HasCell Y c) : HasCell Y' c := let ⟨o, v, h1, h2⟩ := h; ⟨o, v, x.mem h1 (fun ps e => by rw [show o = tabObj ps from e] at h2; cases h2), h2⟩
theorem GrowT.plain {P : Addr} {Y Y' : Lg} (x : GrowT P Y Y') (h : PlainY Y) : PlainY Y' := by
  obtain ⟨Y1, Y2, ps, ps', rfl, rfl⟩ := x
  intro q hq
  rcases List.mem_append.mp hq with z | z
  · exact h q (by simp [z])
  · rcases List.mem_cons.mp z with rfl | z
    · exact .inr (.inr ⟨_, rfl⟩)
    · exact h q (by simp [z])
section
variable {w : World} {L P : Addr} {ls : List Str} {sp : List WSt} {cs : List Int} {u2 u3 : Int} {m : Str → Option Value} {Y Y' led : Lg}
theorem Bag.grow (b : Bag w L P ls sp cs u2 u3 m Y led) (x : GrowT P Y Y') (hT : TabIn P Y') : Bag w L P ls sp cs u2 u3 m Y' led :=
  ⟨b.leads, b.signed, b.pairs, b.lows, b.odds, b.bounds, ex_map (fun _ h => x.cellV h) b.cells, ex_map (fun _ h => x.cellV h) b.ups, ex_map (fun _ h => x.cellV h) b.meets, ex_map (fun _ h => x.cellV h) b.spaces, fun i h1 h2 => x.hasCell (b.has i h1 h2), x.plain b.plain, hT, b.offP⟩
end
section
variable {w : World} {p : Program} {loose : List Str} {mean : ExcName → Option Value} {mg mb : Str → Option Value} {A : Around} {h₀ : Heap} {L P : Addr} {m : Str → Option Value} {Y led : Lg} {env : Env} {f e e' : Expr} {pos ap : Pos} {kd ku : Nat} {E : Value → Shared → Prop} {s : Shared}
theorem ev_maxL {ns : List Int} {M : Int} (hh : A.handled = none) (h1 : M ∈ ns) (h2 : ∀ a ∈ ns, a ≤ M) (hf : Ev (model PR w) A h₀ L m Y env f led (EqR (.builtin "max"))) (x : Ev (model PR w) A h₀ L m Y env e led (ListR IntR ns))
    (hc : eval (.Call f [e] [] pos) env = (do callWith pos (← eval f env) [] (backTo pos (starEach [e] env)) (backToKw pos (keywordEach [] env))) := by rfl)
    (he : starEach [e] env = (false, eval e env) :: starEach [] env := by rfl) : Ev (model PR w) A h₀ L m Y env (.Call f [e] [] pos) led (IntR M) :=
  ev_b1 (listI_up _) hf x (fun l v hl r => by
    obtain ⟨d, vs, n, rfl, hm, r⟩ := r
    refine Ws.mk fun s Q E at0 k => max_list_N hh at0.fr at0.ne (at0.list hm) (all2_ints r) (by cases ns with | nil => cases h1 | cons _ _ => exact Nat.zero_lt_succ _) fun h' M' t tk F N m1 m2 => ?_
    obtain rfl : M' = M := Int.le_antisymm (h2 _ m1) (m2 _ h1)
    exact k _ _ _ _ ⟨F, N, at0.nd, at0.off⟩ .rfl ⟨_, rfl⟩) hc he
theorem te_of {M : Model} {b b' : Bool} (x : Te M A h₀ L m Y env e led b) (q : b = b') : Te M A h₀ L m Y env e led b' := q ▸ x
theorem ev_of {M : Model} {R R' : Rp} (x : Ev M A h₀ L m Y env e led R) (q : R = R') : Ev M A h₀ L m Y env e led R' := q ▸ x
theorem te_run {M : Model} {b : Bool} {Q : Bool → Shared → Prop} (at0 : At h₀ L m Y led s.heap) (x : Te M A h₀ L m Y env e led b) (k : ∀ h' tk led', At h₀ L m Y led' h' → Sub led led' → Q b { s with heap := h', toks := tk }) : wpAny M A (PySem.isTrue e env (eval e env)) Q E s :=
  (x led .rfl).go _ _ _ at0 fun v h1 t1 l1 at1 s1 r1 => by
    subst r1
    exact k h1 t1 l1 at1 s1
/-- a list of figures against the empty list -/
theorem ev_none {xs : List (Int × Int × Int)} (c : Cx w mean mg mb A h₀ L kd ku) (hu : 80 ≤ ku) (x : Ev (model PR w) A h₀ L m Y env e led (ListR FigR xs)) {lp : Pos} (hb : behindInMarks .Eq (.List [] lp) = false := by rfl) : Ev (model PR w) A h₀ L m Y env (.Compare e [.Eq] [.List [] lp] pos) led (BoolR xs.isEmpty) :=
  ev_of (ev_cmp (R2 := ListR FigR []) x (ev_list (R := FigR) (xs := []) sp_nil FigR.up) (ListR.up FigR.up) (fun l a b hs ra rb => ws_eqD (by have := c.units; omega) (ListR.dat FigR.dat xs) (ListR.dat FigR.dat []) ((figs_sh xs).shaped (by decide)) ((figs_sh []).shaped (by decide)) ra rb) hb) (by rw [← figs_nil xs]; rfl)
/-- _law_nag(…) -/
theorem ev_nag {envL : Env} {e1 e2 e3 : Expr} {i : Int} {x y : Str} (c : Cx w mean mg mb A h₀ L kd ku) (hd : 4 ≤ kd) (hfr : A.frames = some [envL]) (hfL : envL.frame = some L) (hkL : envL.scope.kind ≠ .module) (hf : Ev (model PR w) A h₀ L m Y env f led (EqR (.ref 168)))
    (a1 : Ev (model PR w) A h₀ L m Y env e1 led (IntR i)) (a2 : Ev (model PR w) A h₀ L m Y env e2 led (StrR x)) (a3 : Ev (model PR w) A h₀ L m Y env e3 led (StrR y))
    (hc : eval (.Call f [e1, e2, e3] [] pos) env = (do callWith pos (← eval f env) [] (backTo pos (starEach [e1, e2, e3] env)) (backToKw pos (keywordEach [] env))) := by rfl)
    (he1 : starEach [e1, e2, e3] env = (false, eval e1 env) :: starEach [e2, e3] env := by rfl) (he2 : starEach [e2, e3] env = (false, eval e2 env) :: starEach [e3] env := by rfl) (he3 : starEach [e3] env = (false, eval e3 env) :: starEach [] env := by rfl) (hp : (backTo pos (starEach [e2, e3] env)).any (·.1) = false := by rfl) :
    Ev (model PR w) A h₀ L m Y env (.Call f [e1, e2, e3] [] pos) led (TupR [IntR i, StrR x, StrR y]) :=
  ev_callF c (gf_lawnag rfl w).2 hf (sp_cons a1 (sp_cons a2 (sp_cons a3 sp_nil StrR.up he3) StrR.up he2) IntR.up he1) (fun l vs hl r => by
    obtain ⟨v1, v2, v3, rfl, ⟨t1, rfl⟩, ⟨t2, rfl⟩, ⟨t3, rfl⟩⟩ := all2_three r
    obtain ⟨p, loose, T⟩ := c.top
    refine Ws.mk fun s Q E at0 k => nag168 c.frag T c.hh (by have := c.depth; omega) hfr hfL hkL at0 rfl rfl rfl fun v h' tk led' at1 s1 r1 => k v h' tk led' at1 s1 ?_
    obtain ⟨D, vs, n, rfl, hm, r1⟩ := r1
    obtain ⟨y1, y2, y3, rfl, e1, e2, e3⟩ := all2_three r1
    cases e1
    cases e2
    cases e3
    exact ⟨D, _, n, rfl, hm, .cons ⟨_, rfl⟩ (.cons ⟨_, rfl⟩ (.cons ⟨_, rfl⟩ .nil))⟩) hc he1 hp
theorem At.middle {h : Heap} {Y1 Y2 : Lg} {q : Addr × Obj} (x : At h₀ L m (Y1 ++ q :: Y2) led h) : At h₀ L m (q :: (Y1 ++ Y2)) led h := x.perm List.perm_middle
theorem At.middle' {h : Heap} {Y1 Y2 : Lg} {q : Addr × Obj} (x : At h₀ L m (q :: (Y1 ++ Y2)) led h) : At h₀ L m (Y1 ++ q :: Y2) led h := x.perm List.perm_middle.symm
/-- format_witnesses(…) != … is false -/
theorem is_fw {xs : List (Int × Int × Int)} {e1 e2 : Expr} {cp : Pos} {Q : Bool → Shared → Prop} (c : Cx w mean mg mb A h₀ L kd ku) (hd : 4 ≤ kd) (hcd : CodeHd h₀ 127 P) (hT : TabIn P Y) (at0 : At h₀ L m Y led s.heap) (hG : AllBare s.gens) (hf : Ev (model PR w) A h₀ L m Y env f led (EqR (.ref 128)))
    (a1 : Ev (model PR w) A h₀ L m Y env e1 led (ListR FigR xs)) (a2 : ∀ Y' led', GrowT P Y Y' → Sub led led' → Ev (model PR w) A h₀ L m Y' env e2 led' (StrR (wordsF (xs.map (·.1)))))
    (hb : ∀ x ∈ xs, -2 ^ 1920 < x.1 ∧ x.1 < 2 ^ 1920) (hz : xs.length ≤ sizeLine) (hok : JoinOk (Str.ofString ", ") (xs.map fun x => Str.ofString (toString x.1)) = true) (hl : (prefixF xs.length ++ Str.ofString " ").length + (Txt.join (Str.ofString ", ") (xs.map fun x => Str.ofString (toString x.1))).length ≤ sizeLine)
    (k : ∀ h' tk gs Y' led', GrowT P Y Y' → TabIn P Y' → At h₀ L m Y' led' h' → Sub led led' → AllBare gs → Q false { s with heap := h', toks := tk, gens := gs })
    (hc : eval (.Call f [e1] [] pos) env = (do callWith pos (← eval f env) [] (backTo pos (starEach [e1] env)) (backToKw pos (keywordEach [] env))) := by rfl)
    (he1 : starEach [e1] env = (false, eval e1 env) :: starEach [] env := by rfl) (hbm : behindInMarks .NotEq e2 = false := by rfl) :
    wpAny (model PR w) A (PySem.isTrue (.Compare (.Call f [e1] [] pos) [.NotEq] [e2] cp) env (eval (.Compare (.Call f [e1] [] pos) [.NotEq] [e2] cp) env)) Q E s := by
  obtain ⟨p, loose, T⟩ := c.top
  obtain ⟨ps, hm, ht⟩ := hT
  refine wpAny_isTrue_Compare1 (Call_ (ev_run at0 hf fun fv h1 t1 l1 at1 s1 r1 => ?_) hc) hbm
  cases r1
  refine callWith_K c.frag (gf_formatwitnesses rfl w).2 ((sp_cons a1 sp_nil (ListR.up FigR.up) he1 l1 s1).go _ _ _ at1 fun vs h2 t2 l2 at2 s2 r2 => ⟨c.frag.keeps at2.fr.keep, ?_⟩) he1 rfl
  obtain ⟨v, rfl, rv⟩ := all2_one r2
  obtain ⟨Y1, Y2, rfl⟩ := mem_split hm
  refine fw128 c.frag T c.hh (by have := c.depth; omega) hcd ht at2.middle hG rv hb hz hok hl fun v' h3 t3 gs ps' l3 ht3 at3 s3 hg3 r3 => ?_
  have at4 := at3.middle'
  have gr : GrowT P (Y1 ++ (P, tabObj ps) :: Y2) (Y1 ++ (P, tabObj ps') :: Y2) := ⟨Y1, Y2, ps, ps', rfl, rfl⟩
  refine ev_run at4 (a2 _ _ gr (s1.trans (s2.trans s3))) fun v4 h4 t4 l4 at5 s5 r5 => ?_
  refine (ws_neS (StrR.up _ _ _ s5 r3) r5).go _ _ _ at5 fun v6 h6 t6 l6 at6 s6 r6 => ?_
  have e6 : v6 = .bool false := by
    rw [show v6 = .bool _ from r6]
    simp
  subst e6
  exact wpAny_truthy_bool (k h6 t6 gs _ l6 gr ⟨ps', by simp, ht3⟩ at6 (s1.trans (s2.trans (s3.trans (s5.trans s6)))) hg3)
end
theorem txt_len {i : Int} (h : 0 ≤ i ∧ i ≤ 100) : (Str.ofString (toString i)).length ≤ 3 := by
  obtain ⟨n, rfl⟩ := Int.eq_ofNat_of_zero_le h.1
  have z : ∀ n : Nat, n < 101 → (Str.ofString (toString (n : Int))).length ≤ 3 := by decide +kernel
  exact z n (by omega)
theorem words_small {ns : List Int} (hl : ns.length ≤ 100) (hb : ∀ i ∈ ns, 0 ≤ i ∧ i ≤ 100) : JoinOk (Str.ofString ", ") (ns.map fun i => Str.ofString (toString i)) = true ∧ (Txt.join (Str.ofString ", ") (ns.map fun i => Str.ofString (toString i))).length ≤ 500 := by
  have h1 := StrLaws.sumLen_le (B := 3) (ns.map fun i => Str.ofString (toString i)) fun y hy => by
    obtain ⟨i, hi, rfl⟩ := List.mem_map.mp hy
    exact txt_len (hb i hi)
  have h2 : (Str.ofString ", ").length = 2 := by decide
  rw [List.length_map] at h1
  have h3 : (500 : Nat) ≤ sizeLine := by decide
  refine ⟨joinOk_of_weight ?_ (by decide), ?_⟩
  · rw [List.length_map]
    omega
  · show (PySem.Builtin.Str.glued _ _).length ≤ 500
    rw [StrLaws.glued_eq_join]
    have h4 := StrLaws.join_length_le (Str.ofString ", ") (ns.map fun i => Str.ofString (toString i))
    rw [List.length_map, h2] at h4
    omega
theorem figs_map (f : List (Int × Int × Int)) : f.map (·.1) = figsF f := by
  unfold figsF
  induction f with
  | nil => rfl
  | cons a t ih => rw [List.map_cons, ih]; rfl
/-- the law's words -/
noncomputable def wordsL (ns : List Int) : Str := Str.ofString "at tab size" ++ (if decide ((ns.length : Int) > 1) = true then Str.ofString "s " else Str.ofString " ") ++ Txt.join (Str.ofString ", ") (ns.map fun i => Str.ofString (toString i))
theorem words_eq (ns : List Int) : wordsL ns = wordsF ns := by
  unfold wordsL wordsF prefixF
  split
  · rw [show Str.ofString "at tab size" ++ Str.ofString "s " = Str.ofString "at tab size" ++ Str.ofString "s" ++ Str.ofString " " from by decide]
  · rfl
theorem ok_app {a b : Str} (x : PyData.strOk a = true) (y : PyData.strOk b = true) : PyData.strOk (a ++ b) = true := by
  unfold PyData.strOk at x y ⊢
  rw [Str.cps_append, Array.all_append, x, y]
  rfl
theorem ok_join {sep : Str} (h : PyData.strOk sep = true) : ∀ texts : List Str, (∀ x ∈ texts, PyData.strOk x = true) → PyData.strOk (Str.join sep texts) = true
  | [], _ => by
    show PyData.strOk Str.empty = true
    decide +kernel
  | [x], k => k x (.head _)
  | x :: y :: r, k => ok_app (ok_app (k x (.head _)) h) (ok_join h (y :: r) fun z hz => k z (.tail _ hz))
theorem ok_txt {i : Int} (h : 0 ≤ i ∧ i ≤ 100) : PyData.strOk (Str.ofString (toString i)) = true := by
  obtain ⟨n, rfl⟩ := Int.eq_ofNat_of_zero_le h.1
  have z : ∀ n : Nat, n < 101 → PyData.strOk (Str.ofString (toString (n : Int))) = true := by decide +kernel
  exact z n (by omega)
theorem ok_words {ns : List Int} (hb : ∀ i ∈ ns, 0 ≤ i ∧ i ≤ 100) : PyData.strOk (wordsF ns) = true := by
  rw [← words_eq]
  unfold wordsL
  refine ok_app (ok_app (by decide +kernel) ?_) ?_
  · split <;> decide +kernel
  · show PyData.strOk (PySem.Builtin.Str.glued _ _) = true
    rw [StrLaws.glued_eq_join]
    refine ok_join (by decide +kernel) _ fun x hx => ?_
    obtain ⟨i, hi, rfl⟩ := List.mem_map.mp hx
    exact ok_txt (hb i hi)
theorem GrowT.under {P : Addr} {X Y Z : Lg} (x : GrowT P (X ++ Y) Z) (hc : P ∉ X.map (·.1)) : ∃ Y', Z = X ++ Y' ∧ GrowT P Y Y' := by
  obtain ⟨Y1, Y2, ps, ps', h1, rfl⟩ := x
  rcases List.append_eq_append_iff.mp h1 with ⟨a, e1, e2⟩ | ⟨a, e1, e2⟩
  · subst e1
    exact ⟨a ++ ((P, tabObj ps') :: Y2), by simp, a, Y2, ps, ps', e2, rfl⟩
  · cases a with
    | nil =>
      simp at e1 e2
      subst e1
      exact ⟨(P, tabObj ps') :: Y2, rfl, [], Y2, ps, ps', e2.symm, rfl⟩
    | cons p a =>
      have e3 := List.cons.inj e2
      exact absurd (by rw [e1, ← e3.1]; simp) hc
end Mine
end
noncomputable section
open PySem PySem.W PyProof.Rows PySem.Calls PySem.Spec
set_option maxRecDepth 100000
set_option maxHeartbeats 4000000
set_option linter.unusedVariables false
namespace Mine
open LCg
noncomputable def colF (x : Str) (a : Int) : Int := (KStt.codes x).foldl (colStep a) 0
noncomputable def uppF (ls : List Str) (u2 u3 : Int) (p : Nat) : Str := ls.getD (([0, 0, u2, u3] : List Int).getD (p + 1) 0).toNat (Str.ofString "")
noncomputable def loF (ls : List Str) (p : Nat) : Str := ls.getD (p + 1) (Str.ofString "")
noncomputable def runsF (x y : Str) : List Str := Txt.split (x ++ Str.ofString "\t" ++ y) (Str.ofString "\t")
noncomputable def walkF (x y : Str) (n : Int) : List (Int × Int × Int) := ((List.range (1 + n).toNat).map fun i : Nat => 1 + (i : Int)).filterMap fun a => some (a, colF x a, colF y a)
noncomputable def keepF (ns : List Int) (x : Int × Int × Int) : Option (Int × Int × Int) := if (ns.any fun y => y == x.1) = true then some x else none
/-- what the last loop wants to know of a pair -/
structure Fine (ls : List Str) (sp : List WSt) (u2 u3 : Int) (lg : Int) (p : Nat) : Prop where
  lg0 : 0 ≤ lg ∧ lg ≤ 100
  lgIn : lg ∈ (runsF (uppF ls u2 u3 p) (loF ls p)).filterMap fun r : Str => some (r.length : Int)
  lgMax : ∀ a ∈ (runsF (uppF ls u2 u3 p) (loF ls p)).filterMap (fun r : Str => some (r.length : Int)), a ≤ lg
  runs : (runsF (uppF ls u2 u3 p) (loF ls p)).length ≤ 100 ∧ ∀ r ∈ runsF (uppF ls u2 u3 p) (loF ls p), r.length ≤ 100
  bnd : (boundsF (pairsF sp u2 u3)).getD p 0 = 1 + lg
  low : lessB ((pairsF sp u2 u3).getD p (ws0, ws0)).1 ((pairsF sp u2 u3).getD p (ws0, ws0)).2 = ((lowsF (pairsF sp u2 u3)).getD p []).isEmpty
  odd : decide (((pairsF sp u2 u3).getD p (ws0, ws0)).1.ct = ((pairsF sp u2 u3).getD p (ws0, ws0)).2.ct ∧ ((pairsF sp u2 u3).getD p (ws0, ws0)).1.b = ((pairsF sp u2 u3).getD p (ws0, ws0)).2.b) = ((oddsF (pairsF sp u2 u3)).getD p []).isEmpty
  okLo : PyData.strOk (loF ls p) = true
  found : ∀ f ∈ [(lowsF (pairsF sp u2 u3)).getD p [], (oddsF (pairsF sp u2 u3)).getD p []], (f.length ≤ 100 ∧ ∀ x ∈ f, 0 ≤ x.1 ∧ x.1 ≤ 100) ∧ (walkF (uppF ls u2 u3 p) (loF ls p) lg).filterMap (keepF (figsF f)) = f
section
variable {w : World} {mean : ExcName → Option Value} {mg mb : Str → Option Value} {A : Around} {h₀ : Heap} {L P : Addr} {m : Str → Option Value} {Y led : Lg} {kd ku : Nat} {s : Shared} {Q : Flow → Shared → Prop} {E : Value → Shared → Prop} {cd : Value} {ls : List Str} {sp : List WSt} {cs : List Int} {u2 u3 : Int}
set_option maxHeartbeats 16000000 in
theorem s11 (c : Cx w mean mg mb A h₀ L kd ku) (hd : 10 ≤ kd) (hu : 80 ≤ ku) (hfr : A.frames = some [lawE w L cd]) (hcd : CodeHd h₀ 127 P) (hP : ∀ i : Nat, P ≠ L + i) (hE : PassesOwn (model PR w) A (lawE w L cd) E) (at0 : At h₀ L m Y led s.heap) (b : Bag w L P ls sp cs u2 u3 m Y led) (hT : TabIn P Y) (hG : AllBare s.gens)
    (hls : ∀ l ∈ ls, l.length ≤ 10) (hl4 : ls.length = 4) (hsp : sp.length = 4) (h2 : u2 = 0 ∨ u2 = 1) (h3 : u3 = 0 ∨ u3 = 1 ∨ u3 = 2)
    (hfine : ∀ p : Nat, p < 3 → ∃ lg, Fine ls sp u2 u3 lg p)
    (k : ∀ m' Y' led' s₁, Kin s s₁ → Sub led led' → Y'.map (·.1) = Y.map (·.1) → TabIn P Y' → At h₀ L m' Y' led' s₁.heap → Q .next s₁) :
    Wp (model PR w) A (exec (st w 11) (lawE w L cd)) Q E s := by
  have h100 : (100 : Nat) ≤ sizeLine := by decide
  obtain ⟨vp, hvp, rvp⟩ := b.pairs
  refine ex_forG at0 (it_enumE c.hh (nm_built c (bf_enumerate rfl w).1 (bf_enumerate rfl w).2) (nm_loc (pairsR_up _) hvp rvp) pairR_up)
    (fun i m Y led => Bag w L P ls sp cs u2 u3 m Y led ∧ TabIn P Y) (fun led' hs => ⟨b.up hs, hT⟩) ?turn ?done (hE := hE)
  case done =>
    rintro m' Y' led' s₁ hk hs hmap ⟨hb, hT'⟩ at1
    exact k m' Y' led' s₁ hk hs hmap hT' at1
  case turn =>
    rintro i ⟨j, pq⟩ its m₁ Y₁ led₁ v s₁ hx hk hl hmap ⟨hb, hT1⟩ hcl at1 ⟨Tp, va, vb, rfl, hTp, ⟨t1, rfl⟩, rb⟩
    obtain ⟨q1, q2⟩ := enumL_inv hx
    dsimp only at q1 q2 hTp rb
    subst q1
    have hps : (pairsF sp u2 u3).length = 3 := rfl
    have hi : i < 3 := (List.getElem?_eq_some_iff.mp q2).1
    have hpq : (pairsF sp u2 u3).getD i (ws0, ws0) = pq := by rw [List.getD_eq_getElem?_getD, q2]; rfl
    obtain ⟨lg, fine⟩ := hfine i hi
    refine tg_pr c.hh at1 hTp fun h2 tk2 at2 => hideK at2 fun Qa sa at2 ka hQa => ?_
    have hb2 := (hb.loc (x := "place") (v := .int (i : Int) t1) (by decide)).loc (x := "pair") (v := vb) (by decide)
    have hB2 := hb2.left hcl
    obtain ⟨vl, hvl, rvl⟩ := hB2.leads
    obtain ⟨vu, hvu, rvu⟩ := hB2.ups
    have hus : 0 ≤ ([0, 0, u2, u3] : List Int).getD (i + 1) 0 ∧ ([0, 0, u2, u3] : List Int).getD (i + 1) 0 < 4 := by
      rcases i with _ | _ | _ | i
      · show (0 : Int) ≤ 0 ∧ (0 : Int) < 4
        decide
      · show 0 ≤ u2 ∧ u2 < 4
        omega
      · show 0 ≤ u3 ∧ u3 < 4
        omega
      · omega
    have hi1 : ((i : Int) + 1).toNat = i + 1 := by omega
    refine ex_cons (ex_twoCC (R := StrR (uppF ls u2 u3 i)) (R' := StrR (loF ls i)) c.hh at2 (hB2.has 7 (by decide) (by decide)) (hB2.has 8 (by decide) (by decide)) ?up ?lo StrR.up StrR.up fun vU vW h3 tk3 led3 Y3 Y4 hY3 hY4 at3 s3 r3 r3' => ?_)
    case up =>
      exact ev_item (fun _ => StrR.up) (nm_loc ls_up hvl rvl) (ev_item (fun _ => IntR.up) (nm_cl (listI_up _) hvu rvu) (ev_add (nm_loc IntR.up rfl ⟨t1, rfl⟩) ev_int) (by omega) (by rw [hi1]; exact get_some (d := 0) (by simp; omega)) (by omega)) hus.1 (get_some (by omega)) (by omega)
    case lo =>
      exact ev_item (fun _ => StrR.up) (nm_loc ls_up hvl rvl) (ev_add (nm_loc IntR.up rfl ⟨t1, rfl⟩) ev_int) (by omega) (by rw [hi1]; exact get_some (by omega)) (by omega)
    obtain ⟨Y3', rfl, hY3'⟩ := hY3.under ((hb2.has 7 (by decide) (by decide)).apart at2)
    obtain ⟨Y4', rfl, hY4'⟩ := hY4.under ((hb2.has 8 (by decide) (by decide)).apart at2)
    dsimp only
    have hb3 := ((hb2.up s3).set hY3' (by decide)).set hY4' (by decide)
    have hB3 := hb3.left hcl
    have hT3 : TabIn P Y4' := (hT1.set hY3' (hP 7)).set hY4' (hP 8)
    have hU3 : CellV (its ++ Y4') (L + 7) vU := hY4.old hY3.new (by intro e; exact absurd (Nat.add_left_cancel e) (by decide))
    have hW3 : CellV (its ++ Y4') (L + 8) vW := hY4.new
    have hUl : (uppF ls u2 u3 i).length ≤ 10 := hls _ (List.mem_of_getElem? (get_some (d := Str.ofString "") (by omega)))
    have hWl : (loF ls i).length ≤ 10 := hls _ (List.mem_of_getElem? (get_some (d := Str.ofString "") (by omega)))
    have htab : (Str.ofString "\t").length = 1 := by decide
    have h1000 : (1000 : Nat) ≤ sizeLine := by decide
    have hcat1 : (uppF ls u2 u3 i ++ Str.ofString "\t").length = (uppF ls u2 u3 i).length + 1 := by rw [Str.length_append, htab]
    have hcat2 : (uppF ls u2 u3 i ++ Str.ofString "\t" ++ loF ls i).length = (uppF ls u2 u3 i).length + 1 + (loF ls i).length := by rw [Str.length_append, hcat1]
    refine ex_cons (ex_loc (R := IntR lg) at3 (ev_maxL (ns := (runsF (uppF ls u2 u3 i) (loF ls i)).filterMap fun r : Str => some (r.length : Int)) c.hh fine.lgIn fine.lgMax (nm_built c (bf_max rfl w).1 (bf_max rfl w).2) ?runs) fun v4 h4 tk4 led4 at4 s4 r4 => ?_)
    case runs =>
      refine ev_comp (xs := runsF (uppF ls u2 u3 i) (loF ls i)) (g := fun r : Str => some (r.length : Int)) (Rb := IntR) rfl rfl (by decide) (it_ofList c.hh (ev_split (ev_cat (ev_cat (nm_cl StrR.up hU3 r3) ev_str (by omega)) (nm_cl StrR.up hW3 r3') (by omega)) ev_str (by decide) (by omega)) (fun _ => StrR.up)) (by have := fine.runs.1; omega)
        (fun C => tgt_name (fun _ => StrR.up) rfl rfl (by decide)) (fun C Y' led' x hx hY hN hl own => ⟨ifs_none, ?_⟩) (fun _ => IntR.up)
      exact ev_lenS (by have := fine.runs.2 x hx; omega) (nm_built c (bf_len rfl w).1 (bf_len rfl w).2) (own _)
    have hlg := fine.lg0
    obtain ⟨t4, rfl⟩ := r4
    have hb4 := (hb3.up s4).loc (x := "longest") (v := .int lg t4) (by decide)
    have hB4 := hb4.left hcl
    have r4u : StrR (uppF ls u2 u3 i) led4 vU := StrR.up _ _ _ s4 r3
    have r4w : StrR (loF ls i) led4 vW := StrR.up _ _ _ s4 r3'
    dsimp only
    refine ex_cons (ex_compL (xs := (List.range (1 + lg).toNat).map fun i : Nat => 1 + (i : Int)) (g := fun a : Int => some (a, colF (uppF ls u2 u3 i) a, colF (loF ls i) a)) (Rb := FigR) at4
      (it_ofRange c.hh (ev_range2 (nm_built c (bf_range rfl w).1 (bf_range rfl w).2) ev_int (ev_add ev_int (nm_loc IntR.up rfl ⟨t4, rfl⟩))) (small_one (by omega) (by omega) (by omega) (by omega)) (by have := rangeSize_nat 1 (2 + lg); omega)) (by simp; omega)
      (fun C => tgt_name (fun _ => IntR.up) rfl rfl (by decide)) (fun C Y' led' a ha hY hN hl own => ⟨ifs_none, ?_⟩) FigR.up fun v5 h5 tk5 led5 at5 s5 r5 => ?_)
    · obtain ⟨q, hq, rfl⟩ := List.mem_map.mp ha
      have hq' := List.mem_range.mp hq
      exact ev_tup (sp_cons (own _) (sp_cons (ev_col c (by omega) (by omega) (nm_glob c (gf_lawcolumn rfl w).1) (nm_cl StrR.up (hU3.sub hY) (StrR.up _ _ _ hl r4u)) (own _) hUl (by omega) (by omega)) (sp_cons (ev_col c (by omega) (by omega) (nm_glob c (gf_lawcolumn rfl w).1) (nm_cl StrR.up (hW3.sub hY) (StrR.up _ _ _ hl r4w)) (own _) hWl (by omega) (by omega)) sp_nil IntR.up) IntR.up) IntR.up) (ups_cons IntR.up (ups_cons IntR.up (ups_cons IntR.up ups_nil)))
    have hb5 := (hb4.up s5).loc (x := "walked") (v := v5) (by decide)
    have hB5 := hb5.left hcl
    obtain ⟨vb5, hvb5, rvb5⟩ := hB5.bounds
    obtain ⟨vlo, hvlo, rvlo⟩ := hB5.lows
    obtain ⟨vod, hvod, rvod⟩ := hB5.odds
    have hbl : (boundsF (pairsF sp u2 u3)).length = 3 := rfl
    have hll : (lowsF (pairsF sp u2 u3)).length = 3 := rfl
    have hol : (oddsF (pairsF sp u2 u3)).length = 3 := rfl
    have rb5 : PairR (WsR w) (WsR w) pq led5 vb := pairR_up pq _ _ _ (s3.trans (s4.trans s5)) rb
    have ups2 : ∀ R ∈ [WsR w pq.1, WsR w pq.2], Up R := ups_cons WsR.up (ups_cons WsR.up ups_nil)
    have fl := fine.low
    have fo := fine.odd
    rw [hpq] at fl fo
    have hpl5 : ∀ {l : Lg} {pos : Pos}, Ev (model PR w) A h₀ L (fun z => if z = "walked" then some v5 else if z = "longest" then some (.int lg t4) else if z = "pair" then some vb else if z = "place" then some (.int (i : Int) t1) else m₁ z) (its ++ Y4') (lawE w L cd) (.Name "place" pos) l (IntR i) := fun {l pos} => nm_loc IntR.up rfl ⟨t1, rfl⟩
    refine ex_cons (ex_if (c := false) at5 (te_or_cons (b := false) ?t1 (fun _ => te_or_cons (b := false) ?t2 (fun _ => te_or_cons (b := false) ?t3 (fun _ => te_or_nil) (fun h => nomatch h)) (fun h => nomatch h)) (fun h => nomatch h)) fun h6 tk6 led6 at6 s6 => ?_)
    case t1 =>
      refine te_of (te_cmp (ev_item (fun _ => IntR.up) (nm_loc (listI_up _) hvb5 rvb5) hpl5 (by omega) (get_some (d := 0) (by omega)) (by omega)) (ev_add ev_int (nm_loc IntR.up rfl ⟨t4, rfl⟩)) IntR.up fun l a b hs ra rb => ws_neI ra rb) ?_
      rw [show (i : Int).toNat = i from rfl, fine.bnd]
      simp
    case t2 =>
      refine te_of (te_cmp (R1 := BoolR (lessB pq.1 pq.2)) (R2 := BoolR ((lowsF (pairsF sp u2 u3)).getD i []).isEmpty) (ev_less c hd hu (ev_itemT ups2 (nm_loc (R := TupR [WsR w pq.1, WsR w pq.2]) (TupR.up ups2) rfl rb5) ev_int (by decide) rfl) (ev_itemT ups2 (nm_loc (R := TupR [WsR w pq.1, WsR w pq.2]) (TupR.up ups2) rfl rb5) ev_int (by decide) rfl)) (ev_none c hu ?low) BoolR.up fun l a b hs ra rb => ws_isNot ra rb) ?_
      · exact ev_item figs_up (nm_loc (rowsR_up _) hvlo rvlo) hpl5 (by omega) (get_some (i := (i : Int).toNat) (d := []) (by omega)) (by omega)
      · rw [fl]
        simp
    case t3 =>
      refine te_of (te_cmp (R1 := BoolR (decide (pq.1.ct = pq.2.ct ∧ pq.1.b = pq.2.b))) (R2 := BoolR ((oddsF (pairsF sp u2 u3)).getD i []).isEmpty) (ev_equal c hd hu (ev_itemT ups2 (nm_loc (R := TupR [WsR w pq.1, WsR w pq.2]) (TupR.up ups2) rfl rb5) ev_int (by decide) rfl) (ev_itemT ups2 (nm_loc (R := TupR [WsR w pq.1, WsR w pq.2]) (TupR.up ups2) rfl rb5) ev_int (by decide) rfl)) (ev_none c hu ?odd) BoolR.up fun l a b hs ra rb => ws_isNot ra rb) ?_
      · exact ev_item figs_up (nm_loc (rowsR_up _) hvod rvod) hpl5 (by omega) (get_some (i := (i : Int).toNat) (d := []) (by omega)) (by omega)
      · rw [fo]
        simp
    simp only [Bool.false_eq_true, if_false]
    refine ex_nil ?_
    dsimp only
    have hb6 := hb5.up s6
    have hB6 := hb6.left hcl
    obtain ⟨vlo6, hvlo6, rvlo6⟩ := hB6.lows
    obtain ⟨vod6, hvod6, rvod6⟩ := hB6.odds
    have r5' : ListR FigR (walkF (uppF ls u2 u3 i) (loF ls i) lg) led5 v5 := r5
    refine ex_cons (ex_forG at6 (it_ofTup (R := ListR FigR) (xs := [(lowsF (pairsF sp u2 u3)).getD i [], (oddsF (pairsF sp u2 u3)).getD i []]) c.hh (ev_tup (sp_cons (ev_item figs_up (nm_loc (rowsR_up _) hvlo6 rvlo6) hpl5 (by omega) (get_some (i := (i : Int).toNat) (d := []) (by omega)) (by omega)) (sp_cons (ev_item figs_up (nm_loc (rowsR_up _) hvod6 rvod6) hpl5 (by omega) (get_some (i := (i : Int).toNat) (d := []) (by omega)) (by omega)) sp_nil (figs_up _)) (figs_up _)) (ups_cons (figs_up _) (ups_cons (figs_up _) ups_nil))) figs_up)
      (fun j m Y led => ∃ Y5, Y = its ++ Y5 ∧ Y5.map (·.1) = Y4'.map (·.1) ∧ Bag w L P ls sp cs u2 u3 m Y5 led ∧ TabIn P Y5 ∧ CellV (its ++ Y5) (L + 8) vW ∧ m "walked" = some v5 ∧ m "place" = some (.int (i : Int) t1))
      (fun led' hs => ⟨Y4', rfl, rfl, hb6.up hs, hT3, hW3, rfl, rfl⟩) ?turn2 ?done2 (hE := hE))
    case done2 =>
      rintro m' Y' led' s₂ hk2 hs hmap2 ⟨Y5, rfl, e5, hb7, hT7, _, _, _⟩ at7
      dsimp only
      exact ex_nil (hQa _ _ ⟨m', Y5, led', (hk.trans ka).trans hk2, at7, s3.trans (s4.trans (s5.trans (s6.trans hs))), e5.trans (hY4'.map.trans (hY3'.map.trans hmap)), hb7, hT7⟩)
    case turn2 =>
      rintro j f its2 m₂ Y₂ led₂ v6 s₂ hx2 hk2 hl2 hmap2 ⟨Y5, rfl, e5, hb7, hT7, hW7, hwk7, hpl7⟩ hcl2 at7 hir2
      have hf := List.mem_of_getElem? hx2
      obtain ⟨⟨hfl, hfb⟩, hfw⟩ := fine.found f hf
      have hr2 : ListR FigR f led₂ v6 := hir2
      refine tg_loc at7 fun h8 at8 => hideK at8 fun Qb sb at8 kb hQb => ?_
      rw [← List.append_assoc] at at8
      have hcl3 : ∀ p ∈ its2 ++ its, ∃ T, p.2.cls = .type T ∧ NoSeq T := fun p hp => (List.mem_append.mp hp).elim (hcl2 p) (hcl p)
      have hb8 := hb7.loc (x := "found") (v := v6) (by decide)
      have hB8 := hb8.left hcl3
      have hW8 : CellV ((its2 ++ its) ++ Y5) (L + 8) vW := by rw [List.append_assoc]; exact hW7.left
      refine ex_cons (ex_cell (R := ListR IntR (figsF f)) at8 ?sz (hB8.has 12 (by decide) (by decide)) fun vz h9 tk9 led9 Y9' hY9 at9 s9 r9 => ?_)
      case sz =>
        exact ev_comp (xs := f) (g := fun x : Int × Int × Int => some x.1) (Rb := IntR) rfl rfl (by decide) (it_ofList c.hh (nm_loc (figs_up _) rfl hr2) FigR.up) (by omega)
          (fun C => tgt_name FigR.up rfl rfl (by decide)) (fun C2 Y2 l2 x hx hY2 hN2 hl2 own2 => ⟨ifs_none, ev_itemT (ups_cons IntR.up (ups_cons IntR.up (ups_cons IntR.up ups_nil))) (own2 _) ev_int (by decide) rfl⟩) (fun _ => IntR.up)
      obtain ⟨Y9, rfl, hY9'⟩ := hY9.under ((hb8.has 12 (by decide) (by decide)).apart at8)
      dsimp only
      have hb9 := (hb8.up s9).set hY9' (by decide)
      have hT9 : TabIn P Y9 := hT7.set hY9' (hP 12)
      have hW9 : CellV ((its2 ++ its) ++ Y9) (L + 8) vW := hY9.old hW8 (by intro e; exact absurd (Nat.add_left_cancel e) (by decide))
      have hZ9 : CellV ((its2 ++ its) ++ Y9) (L + 12) vz := hY9.new
      have hfz : (figsF f).length ≤ 100 := by rw [← figs_map, List.length_map]; exact hfl
      have hfz' : ∀ x ∈ figsF f, 0 ≤ x ∧ x ≤ 100 := fun x hx => by
        rw [← figs_map] at hx
        obtain ⟨y, hy, rfl⟩ := List.mem_map.mp hx
        exact hfb y hy
      obtain ⟨wj, wl⟩ := words_small hfz hfz'
      refine ex_cons (ex_loc (R := StrR (wordsF (figsF f))) at9 (ev_of (R := StrR (wordsL (figsF f))) ?words (by rw [words_eq])) fun v10 h10 tk10 led10 at10 s10 r10 => ?_)
      case words =>
        have e1 : (Str.ofString "at tab size").length = 11 := by decide
        have e2 : (Str.ofString "s ").length = 2 := by decide
        have e3 : (Str.ofString " ").length = 1 := by decide
        have e4 : (if decide (((figsF f).length : Int) > 1) = true then Str.ofString "s " else Str.ofString " ").length ≤ 2 := by split <;> omega
        refine ev_cat (ev_cat ev_str (ev_if (c := decide (((figsF f).length : Int) > 1)) (te_cmp (ev_len (R := IntR) (xs := figsF f) (fun _ => IntR.up) (by omega) (nm_built c (bf_len rfl w).1 (bf_len rfl w).2) (nm_cl (listI_up _) hZ9 r9)) ev_int IntR.up fun l a b hs ra rb => ws_gtI ra rb)
          (fun h => ev_of ev_str (by rw [if_pos h])) (fun h => ev_of ev_str (by rw [if_neg (by rw [h]; decide)]))) (by rw [e1]; omega)) (ev_strJoin ev_str (ev_of (R := ListR StrR ((figsF f).filterMap fun a : Int => some (Str.ofString (toString a)))) ?texts (by rw [List.filterMap_eq_map'])) wj) (by rw [Str.length_append, e1]; omega)
        refine ev_comp (xs := figsF f) (g := fun a : Int => some (Str.ofString (toString a))) (Rb := StrR) rfl rfl (by decide) (it_ofList c.hh (nm_cl (listI_up _) hZ9 r9) (fun _ => IntR.up)) (by omega)
          (fun C => tgt_name (fun _ => IntR.up) rfl rfl (by decide)) (fun C Y' led' x hx hY hN hl own => ⟨ifs_none, ?_⟩) (fun _ => StrR.up)
        have := hfz' x hx
        exact ev_strI (by omega) (by omega) (nm_built c (bf_str rfl w).1 (bf_str rfl w).2) (own _)
      dsimp only
      have hb10 := (hb9.up s10).loc (x := "words") (v := v10) (by decide)
      have hB10 := hb10.left hcl3
      have r6f : ListR FigR f led10 v6 := figs_up _ _ _ _ (s9.trans s10) hr2
      have r6w : ListR FigR (walkF (uppF ls u2 u3 i) (loF ls i) lg) led10 v5 := figs_up _ _ _ _ (s6.trans (hl2.trans (s9.trans s10))) r5'
      have rz : ListR IntR (figsF f) led10 vz := listI_up _ _ _ _ s10 r9
      have hwk10 : (if ("walked" : Str) = "words" then some v10 else if ("walked" : Str) = "found" then some v6 else m₂ "walked") = some v5 := by rw [if_neg (by decide), if_neg (by decide)]; exact hwk7
      have hpl10 : (if ("place" : Str) = "words" then some v10 else if ("place" : Str) = "found" then some v6 else m₂ "place") = some (.int (i : Int) t1) := by rw [if_neg (by decide), if_neg (by decide)]; exact hpl7
      have hG10 : AllBare sb.gens := (((hk.trans ka).trans hk2).trans kb).2.2 hG
      have hcap : (prefixF f.length ++ Str.ofString " ").length ≤ 20 := by
        have e1 : (Str.ofString "at tab size").length = 11 := by decide
        have e2 : (Str.ofString "s").length = 1 := by decide
        have e3 : (Str.ofString " ").length = 1 := by decide
        unfold prefixF
        split <;> (simp only [Str.length_append]; omega)
      have hwl : (walkF (uppF ls u2 u3 i) (loF ls i) lg).length ≤ 101 := by
        refine Nat.le_trans (List.length_filterMap_le _ _) ?_
        rw [List.length_map, List.length_range]
        omega
      have fig3 : ∀ {x : Int × Int × Int}, ∀ R ∈ [IntR x.1, IntR x.2.1, IntR x.2.2], Up R := fun {x} => ups_cons IntR.up (ups_cons IntR.up (ups_cons IntR.up ups_nil))
      refine ex_cons (Wp.mk (wpAny_If (isTrue_or (te_run (b := false) at10 (te_cmp (R1 := ListR FigR f) (R2 := ListR FigR ((walkF (uppF ls u2 u3 i) (loF ls i) lg).filterMap fun x : Int × Int × Int => if ((figsF f).any fun y => y == x.1) = true then some x else none)) (nm_loc (figs_up _) rfl r6f) ?keep (figs_up _) fun l v1 v2 hs r1 r2 => ?ne) fun h11 tk11 led11 at11 s11 => ?_))))
      case keep =>
        exact ev_comp (xs := walkF (uppF ls u2 u3 i) (loF ls i) lg) (g := fun x : Int × Int × Int => if ((figsF f).any fun y => y == x.1) = true then some x else none) (Rb := FigR) rfl rfl (by decide) (it_ofList c.hh (nm_loc (figs_up _) hwk10 r6w) FigR.up) (by omega)
          (fun C => tgt_name FigR.up rfl rfl (by decide)) (fun C Y' l' x hx hY hN hl own => body_if (te_cmp (ev_itemT fig3 (own _) ev_int (by decide) rfl) (nm_cl (listI_up _) (hZ9.sub hY) (listI_up _ _ _ _ hl rz)) IntR.up fun l a b hs ra rb => ws_in ra rb) (fun _ => own _)) FigR.up
      case ne =>
        have r2' : ListR FigR f l v2 := by
          rw [← hfw]
          exact r2
        have sh := figs_sh f
        refine (ws_neD (by have := c.units; omega) (ListR.dat FigR.dat f) (ListR.dat FigR.dat f) (sh.shaped (by decide)) (sh.shaped (by decide)) r1 r2').imp fun l v hl r => ?_
        rw [sh.same] at r
        exact r
      rw [if_neg (by decide)]
      have hap : P ∉ (its2 ++ its).map (·.1) := by
        obtain ⟨ps, hm, _⟩ := hT9
        exact at11.apart hm
      refine isTrue_or (is_fw (xs := f) c (by omega) hcd hT9.left at11 hG10 (nm_glob c (gf_formatwitnesses rfl w).1) (nm_loc (figs_up _) rfl (figs_up _ _ _ _ s11 r6f)) (fun Y' l' gr sl => nm_loc StrR.up rfl (by rw [figs_map]; exact StrR.up _ _ _ (s11.trans sl) r10)) (fun x hx => by have := hfb x hx; omega) (by omega) ?jok ?jln fun h12 tk12 gs12 Y12' led12 gr12 hT12' at12 s12 hG12 => ?_)
      case jok =>
        rw [← figs_map, List.map_map] at wj
        exact wj
      case jln =>
        rw [← figs_map, List.map_map] at wl
        have wl' : (Txt.join (Str.ofString ", ") (f.map fun x => Str.ofString (toString x.1))).length ≤ 500 := wl
        omega
      rw [if_neg (by decide)]
      refine isTrue_or_nil ?_
      rw [if_neg (by decide)]
      refine wpAny_execs_nil ?_
      dsimp only
      obtain ⟨Y12, rfl, gr12'⟩ := gr12.under hap
      have hW12 : CellV ((its2 ++ its) ++ Y12) (L + 8) vW := gr12.cellV hW9
      have hT12 : TabIn P Y12 := by
        obtain ⟨Y1, Y2, ps, ps', e1, e2⟩ := gr12'
        obtain ⟨ps2, hm2, ht2⟩ := hT12'
        rcases List.mem_append.mp hm2 with hm2 | hm2
        · exact absurd (List.mem_map.mpr ⟨_, hm2, rfl⟩) hap
        · exact ⟨ps2, hm2, ht2⟩
      have hb12 := (hb10.up (s11.trans s12)).grow gr12' hT12
      have tup3 : ∀ R ∈ [IntR (i : Int), StrR (wordsF (figsF f)), StrR (loF ls i)], Up R := ups_cons IntR.up (ups_cons StrR.up (ups_cons StrR.up ups_nil))
      refine ex_cons (ex_if (c := false) at12 (te_cmp (b := false) (R1 := TupR [IntR (i : Int), StrR (wordsF (figsF f)), StrR (loF ls i)]) (R2 := TupR [IntR (i : Int), StrR (wordsF (figsF f)), StrR (loF ls i)])
        (ev_nag (envL := lawE w L cd) c (by omega) hfr rfl (by intro q; cases q) (nm_glob c (gf_lawnag rfl w).1) (nm_loc IntR.up hpl10 ⟨t1, rfl⟩) (nm_loc StrR.up rfl r10) (nm_cl StrR.up hW12 r3'))
        (ev_tup (sp_cons (nm_loc IntR.up hpl10 ⟨t1, rfl⟩) (sp_cons (nm_loc StrR.up rfl r10) (sp_cons (nm_cl StrR.up hW12 r3') sp_nil StrR.up) StrR.up) IntR.up) tup3) (TupR.up tup3) fun l v1 v2 hs r1 r2 => ?ne2) fun h13 tk13 led13 at13 s13 => ?_)
      case ne2 =>
        have sh : Sh (.tuple [.int (i : Int), .str (wordsF (figsF f)), .str (loF ls i)]) 1 := Sh.tup fun d hd => by
          simp only [List.mem_cons, List.not_mem_nil, or_false] at hd
          rcases hd with rfl | rfl | rfl
          · exact Sh.int _
          · exact Sh.str _ (ok_words hfz')
          · exact Sh.str _ fine.okLo
        have dt : DatR (TupR [IntR (i : Int), StrR (wordsF (figsF f)), StrR (loF ls i)]) (.tuple [.int (i : Int), .str (wordsF (figsF f)), .str (loF ls i)]) := TupR.dat (.cons IntR.dat (.cons StrR.dat (.cons StrR.dat .nil)))
        refine (ws_neD (by have := c.units; omega) dt dt (sh.shaped (by decide)) (sh.shaped (by decide)) r1 r2).imp fun l v hl r => ?_
        rw [sh.same] at r
        exact r
      simp only [Bool.false_eq_true, if_false]
      refine ex_nil ?_
      dsimp only
      refine ex_nil (hQb _ _ ?_)
      refine ⟨_, its ++ Y12, led13, ?kin, by rw [← List.append_assoc]; exact at13, s9.trans (s10.trans (s11.trans (s12.trans s13))), ?mp, Y12, rfl, gr12'.map.trans (hY9'.map.trans e5), hb12.up s13, hT12, ?cellW, hwk10, hpl10⟩
      case kin => exact hk2.trans (kb.trans ⟨rfl, rfl, fun _ => hG12⟩)
      case mp => rw [List.map_append, List.map_append, gr12'.map.trans (hY9'.map.trans e5)]
      case cellW =>
        obtain ⟨o, ho, hod⟩ := hW7
        refine ⟨o, ?_, hod⟩
        rcases List.mem_append.mp ho with ho | ho
        · exact List.mem_append_left _ ho
        · refine List.mem_append_right _ (gr12'.mem (hY9'.mem ho (by intro e; exact absurd (Nat.add_left_cancel e) (by decide))) fun ps e => ?_)
          rw [show o = tabObj ps from e] at hod
          cases hod
end
end Mine
end
noncomputable section
open PySem PySem.W PyProof.Rows PySem.Calls PySem.Spec
set_option maxRecDepth 100000
set_option maxHeartbeats 4000000
set_option linter.unusedVariables false
namespace Mine
/-- the leads that the law's cells can give -/
noncomputable def leadG (bs : List Int) : Str := Txt.join "" (bs.map fun b => Txt.item " \t" b) ++ " "
noncomputable def bitsL : List (List Int) := [[], [0], [1], [0, 0], [0, 1], [1, 0], [1, 1], [0, 0, 0], [0, 0, 1], [0, 1, 0], [0, 1, 1], [1, 0, 0], [1, 0, 1], [1, 1, 0], [1, 1, 1]]
noncomputable def LS : List Str := bitsL.map leadG
theorem bits_in (F : Nat → Int) (hF : ∀ i, F i = 0 ∨ F i = 1) {k : Nat} (hk : k < 4) : (List.range k).map F ∈ bitsL := by
  have h1 := hF 0
  have h2 := hF 1
  have h3 := hF 2
  have hk : k = 0 ∨ k = 1 ∨ k = 2 ∨ k = 3 := (show ∀ k : Nat, k < 4 → k = 0 ∨ k = 1 ∨ k = 2 ∨ k = 3 by decide) k hk
  rcases hk with rfl | rfl | rfl | rfl
  · show [] ∈ _
    decide
  · show [F 0] ∈ _
    rcases h1 with h1 | h1 <;> rw [h1] <;> decide
  · show [F 0, F 1] ∈ _
    rcases h1 with h1 | h1 <;> rw [h1] <;> rcases h2 with h2 | h2 <;> rw [h2] <;> decide
  · show [F 0, F 1, F 2] ∈ _
    rcases h1 with h1 | h1 <;> rw [h1] <;> rcases h2 with h2 | h2 <;> rw [h2] <;> rcases h3 with h3 | h3 <;> rw [h3] <;> decide
theorem leadF_in (c : Int) : leadF c ∈ LS := by
  have e : leadF c = leadG (((List.range (c % 10 % 4).toNat).map fun i : Nat => c / 10 ^ (1 + (i : Int)).toNat % 2)) := by
    unfold leadF leadG placesL signL
    simp only [List.map_map, List.filterMap_eq_map']
    rfl
  rw [e]
  exact List.mem_map.mpr ⟨_, bits_in _ (fun i => two _) (by omega), rfl⟩
noncomputable def stS (l : Str) : WSt := stF l 120
theorem stF_any' : ∀ l ∈ LS, ∀ e ∈ [120, 10, 13, 35], (stF l e).ct = (stS l).ct ∧ (stF l e).b = (stS l).b ∧ (stF l e).n = (stS l).n ∧ (stF l e).nt = (stS l).nt := by decide +kernel
theorem stF_any {l : Str} (hl : l ∈ LS) {e : Nat} (he : e ∈ [120, 10, 13, 35]) : stF l e = stS l := by
  obtain ⟨h1, h2, h3, h4⟩ := stF_any' l hl e he
  generalize stF l e = x at *
  generalize stS l = y at *
  cases x
  cases y
  simp only at h1 h2 h3 h4
  subst h1 h2 h3 h4
  rfl
/-- what is true of a lead -/
noncomputable def leadOk (l : Str) : Bool := decide (l.length ≤ 4) && PyData.strOk l && (KStt.codes l).all (fun c => c == 32 || c == 9) && decide ((KStt.codes l).length ≤ 4) && decide (0 ≤ (stS l).b ∧ (stS l).b ≤ 4 ∧ 0 ≤ (stS l).nt ∧ (stS l).nt ≤ 4 ∧ (stS l).ct.length ≤ 7) &&
  (([1, 2, 3, 4, 5] : List Int).all fun a => decide (level (stS l) a = colF l a ∧ 0 ≤ colF l a ∧ colF l a ≤ 20))
theorem lead_ok : ∀ l ∈ LS, leadOk l = true := by decide +kernel
end Mine
end
noncomputable section
open PySem PySem.W PyProof.Rows PySem.Calls PySem.Spec
set_option maxRecDepth 100000
set_option maxHeartbeats 4000000
set_option linter.unusedVariables false
namespace Mine
noncomputable def bndS (U W : Str) : Int := 1 + max (run1 (stS U)) (run1 (stS W))
noncomputable def lowS (U W : Str) : List (Int × Int × Int) := wits cLow (stS U) (stS W) (bound2 (stS U) (stS W)).toNat
noncomputable def oddS (U W : Str) : List (Int × Int × Int) := wits cOdd (stS U) (stS W) (bound2 (stS U) (stS W)).toNat
noncomputable def lensS (U W : Str) : List Int := (runsF U W).filterMap fun r : Str => some (r.length : Int)
noncomputable def wideB (U W : Str) (f : List (Int × Int × Int)) : Bool := decide (f.length ≤ 100) && (f.all fun x => decide (0 ≤ x.1 ∧ x.1 ≤ 100)) && decide ((walkF U W (bndS U W - 1)).filterMap (keepF (figsF f)) = f)
noncomputable def nearB (U W : Str) (a : Int) : Bool := (nearF (min a (bndS U W)) (lowS U W) == decide (level (stS W) a ≤ level (stS U) a)) && (nearF (min a (bndS U W)) (oddS U W) == !decide (level (stS U) a = level (stS W) a))
noncomputable def pairOk (U W : Str) : Bool :=
  decide (0 ≤ bndS U W - 1 ∧ bndS U W ≤ 6) && decide (bndS U W - 1 ∈ lensS U W) && (lensS U W).all (fun a => decide (a ≤ bndS U W - 1)) && decide ((runsF U W).length ≤ 100) && (runsF U W).all (fun r => decide (r.length ≤ 100)) &&
  (lessB (stS U) (stS W) == (lowS U W).isEmpty) && (decide ((stS U).ct = (stS W).ct ∧ (stS U).b = (stS W).b) == (oddS U W).isEmpty) && wideB U W (lowS U W) && wideB U W (oddS U W) &&
  (([1, 2, 3, 4, 5] : List Int).all fun a => nearB U W a) &&
  (nearF (bndS U W) (lowS U W) == decide ((stS W).nt < (stS U).nt ∨ ((stS W).nt = (stS U).nt ∧ (stS W).b ≤ (stS U).b))) && (nearF (bndS U W) (oddS U W) == !decide ((stS U).nt = (stS W).nt ∧ (stS U).b = (stS W).b))
noncomputable def rowOk (bs : List Int) : Bool := LS.all fun W => pairOk (leadG bs) W
theorem rows_ok : ∀ bs ∈ bitsL, rowOk bs = true := by
  unfold bitsL
  repeat refine List.forall_mem_cons.mpr ⟨by decide +kernel, ?_⟩
  exact fun _ h => nomatch h
theorem pair_ok : (LS.all fun U => LS.all fun W => pairOk U W) = true := List.all_eq_true.mpr fun U hU => by
  obtain ⟨bs, hb, rfl⟩ := List.mem_map.mp hU
  exact rows_ok bs hb
end Mine
end
noncomputable section
open PySem PySem.W PyProof.Rows PySem.Calls PySem.Spec
set_option maxRecDepth 100000
set_option maxHeartbeats 4000000
set_option linter.unusedVariables false
namespace Mine
noncomputable def st2 (p : Int × Int) (n : Int) : Int × Int := if n = 32 then (p.1, p.2 + 1) else (p.1 + 1, 0)
theorem col_big {a : Int} : ∀ (l : List Int) (q r : Int), 0 ≤ r → r + l.length < a → l.foldl (colStep a) (q * a + r) = (l.foldl st2 (q, r)).1 * a + (l.foldl st2 (q, r)).2
  | [], q, r, _, _ => rfl
  | n :: l, q, r, h0, h1 => by
    rw [List.length_cons] at h1
    rw [List.foldl_cons, List.foldl_cons]
    unfold colStep st2
    split
    · rw [show q * a + r + 1 = q * a + (r + 1) by omega]
      exact col_big l q (r + 1) (by omega) (by omega)
    · have e : (q * a + r) % a = r := by
        rw [Int.add_comm, Int.add_mul_emod_self_right]
        exact Int.emod_eq_of_lt h0 (by omega)
      rw [e, show q * a + r + a - r = (q + 1) * a + 0 by rw [Int.add_mul]; omega]
      exact col_big l (q + 1) 0 (by omega) (by omega)
theorem level_big {st : WSt} {a : Int} (h : (st.ct.length : Int) ≤ a) : level st a = st.b + a * st.nt := by
  unfold level
  rw [show (↑st.ct.length - a).toNat = 0 by omega]
  show st.b + a * (0 + st.nt) = _
  rw [Int.zero_add]
theorem st2_ok : ∀ l ∈ LS, (KStt.codes l).foldl st2 (0, 0) = ((stS l).nt, (stS l).b) := by decide +kernel
structure LeadIs (l : Str) : Prop where
  len : l.length ≤ 4
  str : PyData.strOk l = true
  codes : (KStt.codes l).length ≤ 4
  b0 : 0 ≤ (stS l).b
  b4 : (stS l).b ≤ 4
  n0 : 0 ≤ (stS l).nt
  n4 : (stS l).nt ≤ 4
  ct : (stS l).ct.length ≤ 7
  small : ∀ a ∈ ([1, 2, 3, 4, 5] : List Int), level (stS l) a = colF l a ∧ 0 ≤ colF l a ∧ colF l a ≤ 20
theorem lead_is {l : Str} (h : l ∈ LS) : LeadIs l := by
  have z := lead_ok l h
  simp only [leadOk, Bool.and_eq_true, decide_eq_true_eq, List.all_eq_true] at z
  obtain ⟨⟨⟨⟨⟨a, b⟩, c⟩, d⟩, e1, e2, e3, e4, e5⟩, f⟩ := z
  exact ⟨a, b, d, e1, e2, e3, e4, e5, f⟩
noncomputable def SizeIn (a : Int) : Prop := a ∈ ([1, 2, 3, 4, 5] : List Int) ∨ (7 ≤ a ∧ a ≤ 1006)
theorem sizes_in {cs : List Int} {a : Int} (h : a ∈ sizesF cs) : SizeIn a := by
  unfold sizesF at h
  simp only [List.mem_cons, List.not_mem_nil, or_false] at h
  unfold SizeIn
  rcases h with rfl | rfl | rfl | rfl | rfl | h
  · exact .inl (by decide)
  · exact .inl (by decide)
  · exact .inl (by decide)
  · exact .inl (by decide)
  · exact .inl (by decide)
  · exact .inr (by omega)
theorem mul_cap {a n : Int} (h1 : 0 ≤ n) (h2 : n ≤ 4) (a0 : 0 ≤ a) : 0 ≤ a * n ∧ a * n ≤ a * 4 := ⟨Int.mul_nonneg a0 h1, Int.mul_le_mul_of_nonneg_left h2 a0⟩
theorem lead_size {l : Str} (h : l ∈ LS) {a : Int} (ha : SizeIn a) : level (stS l) a = colF l a ∧ 0 ≤ colF l a ∧ colF l a ≤ 20000 := by
  have z := lead_is h
  rcases ha with ha | ha
  · have := z.small a ha
    omega
  · have h1 := level_big (st := stS l) (a := a) (by have := z.ct; omega)
    have h2 := col_big (a := a) (KStt.codes l) 0 0 (by omega) (by have := z.codes; omega)
    rw [st2_ok l h, Int.zero_mul, Int.zero_add] at h2
    have h3 : colF l a = (stS l).nt * a + (stS l).b := h2
    have := z.b0
    have := z.b4
    have := mul_cap z.n0 z.n4 (a := a) (by omega)
    rw [Int.mul_comm] at h3
    omega
theorem mul_step {a n n' : Int} (h : n < n') (a0 : 0 ≤ a) : a * n + a ≤ a * n' := by
  have := Int.mul_le_mul_of_nonneg_left (show n + 1 ≤ n' from h) a0
  rwa [Int.mul_add, Int.mul_one] at this
theorem lex_le {a b1 b2 n1 n2 : Int} (ha : 7 ≤ a) (h1 : 0 ≤ b1 ∧ b1 ≤ 4) (h2 : 0 ≤ b2 ∧ b2 ≤ 4) : b2 + a * n2 ≤ b1 + a * n1 ↔ (n2 < n1 ∨ (n2 = n1 ∧ b2 ≤ b1)) := by
  obtain ⟨_, h1⟩ := h1
  obtain ⟨h2, _⟩ := h2
  rcases Int.lt_trichotomy n1 n2 with h | h | h
  · have := mul_step h (show 0 ≤ a by omega)
    omega
  · subst h
    omega
  · have := mul_step h (show 0 ≤ a by omega)
    omega
theorem lex_eq {a b1 b2 n1 n2 : Int} (ha : 7 ≤ a) (h1 : 0 ≤ b1 ∧ b1 ≤ 4) (h2 : 0 ≤ b2 ∧ b2 ≤ 4) : b1 + a * n1 = b2 + a * n2 ↔ n1 = n2 ∧ b1 = b2 := by
  obtain ⟨_, h1⟩ := h1
  obtain ⟨_, h2⟩ := h2
  rcases Int.lt_trichotomy n1 n2 with h | h | h
  · have := mul_step h (show 0 ≤ a by omega)
    omega
  · subst h
    omega
  · have := mul_step h (show 0 ≤ a by omega)
    omega
structure PairIs (U W : Str) : Prop where
  lg : 0 ≤ bndS U W - 1 ∧ bndS U W ≤ 6
  mem : bndS U W - 1 ∈ lensS U W
  max : ∀ a ∈ lensS U W, a ≤ bndS U W - 1
  runs : (runsF U W).length ≤ 100 ∧ ∀ r ∈ runsF U W, r.length ≤ 100
  low : lessB (stS U) (stS W) = (lowS U W).isEmpty
  odd : decide ((stS U).ct = (stS W).ct ∧ (stS U).b = (stS W).b) = (oddS U W).isEmpty
  wide : ∀ f ∈ [lowS U W, oddS U W], (f.length ≤ 100 ∧ ∀ x ∈ f, 0 ≤ x.1 ∧ x.1 ≤ 100) ∧ (walkF U W (bndS U W - 1)).filterMap (keepF (figsF f)) = f
  small : ∀ a ∈ ([1, 2, 3, 4, 5] : List Int), nearF (min a (bndS U W)) (lowS U W) = decide (level (stS W) a ≤ level (stS U) a) ∧ nearF (min a (bndS U W)) (oddS U W) = !decide (level (stS U) a = level (stS W) a)
  bigL : nearF (bndS U W) (lowS U W) = decide ((stS W).nt < (stS U).nt ∨ ((stS W).nt = (stS U).nt ∧ (stS W).b ≤ (stS U).b))
  bigO : nearF (bndS U W) (oddS U W) = !decide ((stS U).nt = (stS W).nt ∧ (stS U).b = (stS W).b)
theorem wide_is {U W : Str} {f : List (Int × Int × Int)} (h : wideB U W f = true) : (f.length ≤ 100 ∧ ∀ x ∈ f, 0 ≤ x.1 ∧ x.1 ≤ 100) ∧ (walkF U W (bndS U W - 1)).filterMap (keepF (figsF f)) = f := by
  simp only [wideB, Bool.and_eq_true, decide_eq_true_eq, List.all_eq_true] at h
  exact h
theorem pair_is {U W : Str} (hU : U ∈ LS) (hW : W ∈ LS) : PairIs U W := by
  have z := List.all_eq_true.mp (List.all_eq_true.mp pair_ok U hU) W hW
  unfold pairOk nearB at z
  simp only [Bool.and_eq_true, decide_eq_true_eq, List.all_eq_true, beq_iff_eq] at z
  obtain ⟨⟨⟨⟨⟨⟨⟨⟨⟨⟨⟨a, b⟩, c⟩, d⟩, e⟩, f⟩, g⟩, h⟩, i⟩, j⟩, k⟩, l⟩ := z
  refine ⟨a, b, c, ⟨d, e⟩, f, g, fun x hx => ?_, j, k, l⟩
  simp only [List.mem_cons, List.not_mem_nil, or_false] at hx
  rcases hx with rfl | rfl
  · exact wide_is h
  · exact wide_is i
theorem near_size {U W : Str} (hU : U ∈ LS) (hW : W ∈ LS) {a : Int} (ha : SizeIn a) : nearF (min a (bndS U W)) (lowS U W) = decide (level (stS W) a ≤ level (stS U) a) ∧ nearF (min a (bndS U W)) (oddS U W) = !decide (level (stS U) a = level (stS W) a) := by
  have P := pair_is hU hW
  rcases ha with ha | ha
  · exact P.small a ha
  · have u := lead_is hU
    have v := lead_is hW
    have hm : min a (bndS U W) = bndS U W := by have := P.lg; omega
    rw [hm, P.bigL, P.bigO, level_big (st := stS U) (a := a) (by have := u.ct; omega), level_big (st := stS W) (a := a) (by have := v.ct; omega)]
    have l1 := lex_le (a := a) (n1 := (stS U).nt) (n2 := (stS W).nt) ha.1 ⟨u.b0, u.b4⟩ ⟨v.b0, v.b4⟩
    have l2 := lex_eq (a := a) (n1 := (stS U).nt) (n2 := (stS W).nt) ha.1 ⟨u.b0, u.b4⟩ ⟨v.b0, v.b4⟩
    exact ⟨decide_eq_decide.mpr l1.symm, congrArg not (decide_eq_decide.mpr l2.symm)⟩
end Mine
end
noncomputable section
open PySem PySem.W PyProof.Rows PySem.Calls PySem.Spec
set_option maxRecDepth 100000
set_option maxHeartbeats 4000000
set_option linter.unusedVariables false
namespace Mine
theorem told4 : toldS 4 = [[([0], 1)], [([1, 0], -1), ([0, 1], 1)],
  [([2, 1, 0], -1), ([1, 2, 0], 1), ([1, 0, 2], -1), ([2, 0, 1], 1), ([0, 2, 1], -1), ([0, 1, 2], 1)],
  [([3, 2, 1, 0], 1), ([2, 3, 1, 0], -1), ([2, 1, 3, 0], 1), ([2, 1, 0, 3], -1), ([3, 1, 2, 0], -1), ([1, 3, 2, 0], 1),
    ([1, 2, 3, 0], -1), ([1, 2, 0, 3], 1), ([3, 1, 0, 2], 1), ([1, 3, 0, 2], -1), ([1, 0, 3, 2], 1), ([1, 0, 2, 3], -1),
    ([3, 2, 0, 1], -1), ([2, 3, 0, 1], 1), ([2, 0, 3, 1], -1), ([2, 0, 1, 3], 1), ([3, 0, 2, 1], 1), ([0, 3, 2, 1], -1),
    ([0, 2, 3, 1], 1), ([0, 2, 1, 3], -1), ([3, 0, 1, 2], -1), ([0, 3, 1, 2], 1), ([0, 1, 3, 2], -1),
    ([0, 1, 2, 3], 1)]] := by decide +kernel
theorem cell4 (a b c d e f g h i j k l m n o p : Int) :
    cornersF [[a, b, c, d], [e, f, g, h], [i, j, k, l], [m, n, o, p]] = [a, a * f - b * e,
      a * f * k - a * g * j - b * e * k + b * g * i + c * e * j - c * f * i,
      a * f * k * p - a * f * l * o - a * g * j * p + a * g * l * n + a * h * j * o - a * h * k * n - b * e * k * p + b * e * l * o + b * g * i * p - b * g * l * m - b * h * i * o + b * h * k * m
        + c * e * j * p - c * e * l * n - c * f * i * p + c * f * l * m + c * h * i * n - c * h * j * m - d * e * j * o + d * e * k * n + d * f * i * o - d * f * k * m - d * g * i * n + d * g * j * m] := by
  unfold cornersF
  rw [told4]
  simp only [List.map_cons, List.map_nil, cornerF, prodF, cellT, Int.reduceToNat, List.getD_cons_succ, List.getD_cons_zero, Nat.reduceAdd, Int.zero_add, Int.one_mul]
  refine congr (congrArg List.cons ?_) (congr (congrArg List.cons ?_) (congr (congrArg List.cons ?_) (congr (congrArg List.cons ?_) rfl)))
  · rfl
  · grind
  · grind
  · grind
theorem meets_00 : meetsF 0 0 = [[0, 0, 0, 0], [0, 1, 0, 0], [0, 0, 2, 0], [0, 0, 0, 3]] := by decide +kernel
theorem corner_00 (r0 r1 r2 r3 : Int) : cornersF (tabF [r0, r1, r2, r3] (meetsF 0 0)) = pr [r0, r1, r2, r3] [0, 0, 0, 0] 3 := by
  rw [meets_00]
  show cornersF [[r0, r0, r0, r0], [r0, r1, r0, r0], [r0, r0, r2, r0], [r0, r0, r0, r3]] = [r0, r0 * (r1 - r0), r0 * (r1 - r0) * (r2 - r0), r0 * (r1 - r0) * (r2 - r0) * (r3 - r0)]
  rw [cell4]
  refine congr (congrArg List.cons rfl) (congr (congrArg List.cons ?_) (congr (congrArg List.cons ?_) (congr (congrArg List.cons ?_) rfl))) <;> grind
theorem meets_01 : meetsF 0 1 = [[0, 0, 0, 0], [0, 1, 0, 1], [0, 0, 2, 0], [0, 1, 0, 3]] := by decide +kernel
theorem corner_01 (r0 r1 r2 r3 : Int) : cornersF (tabF [r0, r1, r2, r3] (meetsF 0 1)) = pr [r0, r1, r2, r3] [0, 0, 0, 1] 3 := by
  rw [meets_01]
  show cornersF [[r0, r0, r0, r0], [r0, r1, r0, r1], [r0, r0, r2, r0], [r0, r1, r0, r3]] = [r0, r0 * (r1 - r0), r0 * (r1 - r0) * (r2 - r0), r0 * (r1 - r0) * (r2 - r0) * (r3 - r1)]
  rw [cell4]
  refine congr (congrArg List.cons rfl) (congr (congrArg List.cons ?_) (congr (congrArg List.cons ?_) (congr (congrArg List.cons ?_) rfl))) <;> grind
theorem meets_02 : meetsF 0 2 = [[0, 0, 0, 0], [0, 1, 0, 0], [0, 0, 2, 2], [0, 0, 2, 3]] := by decide +kernel
theorem corner_02 (r0 r1 r2 r3 : Int) : cornersF (tabF [r0, r1, r2, r3] (meetsF 0 2)) = pr [r0, r1, r2, r3] [0, 0, 0, 2] 3 := by
  rw [meets_02]
  show cornersF [[r0, r0, r0, r0], [r0, r1, r0, r0], [r0, r0, r2, r2], [r0, r0, r2, r3]] = [r0, r0 * (r1 - r0), r0 * (r1 - r0) * (r2 - r0), r0 * (r1 - r0) * (r2 - r0) * (r3 - r2)]
  rw [cell4]
  refine congr (congrArg List.cons rfl) (congr (congrArg List.cons ?_) (congr (congrArg List.cons ?_) (congr (congrArg List.cons ?_) rfl))) <;> grind
theorem meets_10 : meetsF 1 0 = [[0, 0, 0, 0], [0, 1, 1, 0], [0, 1, 2, 0], [0, 0, 0, 3]] := by decide +kernel
theorem corner_10 (r0 r1 r2 r3 : Int) : cornersF (tabF [r0, r1, r2, r3] (meetsF 1 0)) = pr [r0, r1, r2, r3] [0, 0, 1, 0] 3 := by
  rw [meets_10]
  show cornersF [[r0, r0, r0, r0], [r0, r1, r1, r0], [r0, r1, r2, r0], [r0, r0, r0, r3]] = [r0, r0 * (r1 - r0), r0 * (r1 - r0) * (r2 - r1), r0 * (r1 - r0) * (r2 - r1) * (r3 - r0)]
  rw [cell4]
  refine congr (congrArg List.cons rfl) (congr (congrArg List.cons ?_) (congr (congrArg List.cons ?_) (congr (congrArg List.cons ?_) rfl))) <;> grind
theorem meets_11 : meetsF 1 1 = [[0, 0, 0, 0], [0, 1, 1, 1], [0, 1, 2, 1], [0, 1, 1, 3]] := by decide +kernel
theorem corner_11 (r0 r1 r2 r3 : Int) : cornersF (tabF [r0, r1, r2, r3] (meetsF 1 1)) = pr [r0, r1, r2, r3] [0, 0, 1, 1] 3 := by
  rw [meets_11]
  show cornersF [[r0, r0, r0, r0], [r0, r1, r1, r1], [r0, r1, r2, r1], [r0, r1, r1, r3]] = [r0, r0 * (r1 - r0), r0 * (r1 - r0) * (r2 - r1), r0 * (r1 - r0) * (r2 - r1) * (r3 - r1)]
  rw [cell4]
  refine congr (congrArg List.cons rfl) (congr (congrArg List.cons ?_) (congr (congrArg List.cons ?_) (congr (congrArg List.cons ?_) rfl))) <;> grind
theorem meets_12 : meetsF 1 2 = [[0, 0, 0, 0], [0, 1, 1, 1], [0, 1, 2, 2], [0, 1, 2, 3]] := by decide +kernel
theorem corner_12 (r0 r1 r2 r3 : Int) : cornersF (tabF [r0, r1, r2, r3] (meetsF 1 2)) = pr [r0, r1, r2, r3] [0, 0, 1, 2] 3 := by
  rw [meets_12]
  show cornersF [[r0, r0, r0, r0], [r0, r1, r1, r1], [r0, r1, r2, r2], [r0, r1, r2, r3]] = [r0, r0 * (r1 - r0), r0 * (r1 - r0) * (r2 - r1), r0 * (r1 - r0) * (r2 - r1) * (r3 - r2)]
  rw [cell4]
  refine congr (congrArg List.cons rfl) (congr (congrArg List.cons ?_) (congr (congrArg List.cons ?_) (congr (congrArg List.cons ?_) rfl))) <;> grind
theorem corner_all {r0 r1 r2 r3 u2 u3 : Int} (h2 : u2 = 0 ∨ u2 = 1) (h3 : u3 = 0 ∨ u3 = 1 ∨ u3 = 2) : cornersF (tabF [r0, r1, r2, r3] (meetsF u2 u3)) = pr [r0, r1, r2, r3] [0, 0, u2, u3] 3 := by
  rcases h2 with rfl | rfl <;> rcases h3 with rfl | rfl | rfl
  · exact corner_00 ..
  · exact corner_01 ..
  · exact corner_02 ..
  · exact corner_10 ..
  · exact corner_11 ..
  · exact corner_12 ..
theorem pr3 (r0 r1 r2 r3 u2 u3 : Int) : pr [r0, r1, r2, r3] [0, 0, u2, u3] 3 = [r0, r0 * (r1 - r0), r0 * (r1 - r0) * (r2 - ([r0, r1, r2, r3] : List Int).getD u2.toNat 0), r0 * (r1 - r0) * (r2 - ([r0, r1, r2, r3] : List Int).getD u2.toNat 0) * (r3 - ([r0, r1, r2, r3] : List Int).getD u3.toNat 0)] := rfl
end Mine
end
noncomputable section
open PySem PySem.W PyProof.Rows PySem.Calls PySem.Spec
set_option maxRecDepth 100000
set_option maxHeartbeats 4000000
set_option linter.unusedVariables false
namespace Mine
theorem mul_abs {x y A B : Int} (hx : -A ≤ x ∧ x ≤ A) (hy : -B ≤ y ∧ y ≤ B) : -(A * B) ≤ x * y ∧ x * y ≤ A * B := by
  have hA : 0 ≤ A := by omega
  have hB : 0 ≤ B := by omega
  have h1 : x * y ≤ A * B ∧ -(A * B) ≤ x * y := by
    rcases Int.le_total 0 x with h | h <;> rcases Int.le_total 0 y with g | g
    · exact ⟨Int.mul_le_mul hx.2 hy.2 g hA, Int.le_trans (by have := Int.mul_nonneg hA hB; omega) (Int.mul_nonneg h g)⟩
    · have e1 := Int.mul_le_mul hx.2 (show -y ≤ B by omega) (by omega) hA
      have e2 := Int.mul_nonneg h (show 0 ≤ -y by omega)
      rw [Int.mul_neg] at e1 e2
      have := Int.mul_nonneg hA hB
      omega
    · have e1 := Int.mul_le_mul (show -x ≤ A by omega) hy.2 g hA
      have e2 := Int.mul_nonneg (show 0 ≤ -x by omega) g
      rw [Int.neg_mul] at e1 e2
      have := Int.mul_nonneg hA hB
      omega
    · have e1 := Int.mul_le_mul (show -x ≤ A by omega) (show -y ≤ B by omega) (by omega) hA
      have e2 := Int.mul_nonneg (show 0 ≤ -x by omega) (show 0 ≤ -y by omega)
      rw [Int.neg_mul_neg] at e1 e2
      have := Int.mul_nonneg hA hB
      omega
  exact ⟨h1.2, h1.1⟩
theorem sq_sign {x d : Int} (hx : x ≠ 0) : (x * (x * d) ≤ 0 ↔ d ≤ 0) ∧ (x * (x * d) = 0 ↔ d = 0) := by
  rw [← Int.mul_assoc]
  have hk : 0 < x * x := by
    rcases Int.lt_or_gt_of_ne hx with h | h
    · have := Int.mul_pos (show 0 < -x by omega) (show 0 < -x by omega)
      rwa [Int.neg_mul_neg] at this
    · exact Int.mul_pos h h
  generalize x * x = k at *
  rcases Int.lt_trichotomy d 0 with h | h | h
  · have := Int.mul_pos hk (show 0 < -d by omega)
    rw [Int.mul_neg] at this
    omega
  · subst h
    rw [Int.mul_zero]
    omega
  · have := Int.mul_pos hk h
    omega
section
variable {l0 l1 l2 l3 : Str} {u2 u3 : Int} {a : Int}
noncomputable def spS (l0 l1 l2 l3 : Str) : List WSt := [stS l0, stS l1, stS l2, stS l3]
theorem sps_is (h : ∀ l ∈ [l0, l1, l2, l3], l ∈ LS) : spacesF l0 l1 l2 l3 = spS l0 l1 l2 l3 := by
  unfold spacesF spS
  rw [stF_any (h l0 (by simp)) (by decide), stF_any (h l1 (by simp)) (by decide), stF_any (h l2 (by simp)) (by decide), stF_any (h l3 (by simp)) (by decide)]
theorem three {p : Nat} (hp : p < 3) : p = 0 ∨ p = 1 ∨ p = 2 := by omega
theorem pair_at (h2 : u2 = 0 ∨ u2 = 1) (h3 : u3 = 0 ∨ u3 = 1 ∨ u3 = 2) {p : Nat} (hp : p < 3) : (pairsF (spS l0 l1 l2 l3) u2 u3).getD p (ws0, ws0) = (stS (uppF [l0, l1, l2, l3] u2 u3 p), stS (loF [l0, l1, l2, l3] p)) := by
  rcases three hp with rfl | rfl | rfl <;> rcases h2 with rfl | rfl <;> rcases h3 with rfl | rfl | rfl <;> rfl
theorem lows_at (h2 : u2 = 0 ∨ u2 = 1) (h3 : u3 = 0 ∨ u3 = 1 ∨ u3 = 2) {p : Nat} (hp : p < 3) : (lowsF (pairsF (spS l0 l1 l2 l3) u2 u3)).getD p [] = lowS (uppF [l0, l1, l2, l3] u2 u3 p) (loF [l0, l1, l2, l3] p) := by
  rcases three hp with rfl | rfl | rfl <;> rcases h2 with rfl | rfl <;> rcases h3 with rfl | rfl | rfl <;> rfl
theorem odds_at (h2 : u2 = 0 ∨ u2 = 1) (h3 : u3 = 0 ∨ u3 = 1 ∨ u3 = 2) {p : Nat} (hp : p < 3) : (oddsF (pairsF (spS l0 l1 l2 l3) u2 u3)).getD p [] = oddS (uppF [l0, l1, l2, l3] u2 u3 p) (loF [l0, l1, l2, l3] p) := by
  rcases three hp with rfl | rfl | rfl <;> rcases h2 with rfl | rfl <;> rcases h3 with rfl | rfl | rfl <;> rfl
theorem bnds_at (h2 : u2 = 0 ∨ u2 = 1) (h3 : u3 = 0 ∨ u3 = 1 ∨ u3 = 2) {p : Nat} (hp : p < 3) : (boundsF (pairsF (spS l0 l1 l2 l3) u2 u3)).getD p 0 = bndS (uppF [l0, l1, l2, l3] u2 u3 p) (loF [l0, l1, l2, l3] p) := by
  rcases three hp with rfl | rfl | rfl <;> rcases h2 with rfl | rfl <;> rcases h3 with rfl | rfl | rfl <;> rfl
theorem upp_in (h : ∀ l ∈ [l0, l1, l2, l3], l ∈ LS) (h2 : u2 = 0 ∨ u2 = 1) (h3 : u3 = 0 ∨ u3 = 1 ∨ u3 = 2) {p : Nat} (hp : p < 3) : uppF [l0, l1, l2, l3] u2 u3 p ∈ LS ∧ loF [l0, l1, l2, l3] p ∈ LS := by
  have a0 := h l0 (by simp)
  have a1 := h l1 (by simp)
  have a2 := h l2 (by simp)
  have a3 := h l3 (by simp)
  rcases three hp with rfl | rfl | rfl <;> rcases h2 with rfl | rfl <;> rcases h3 with rfl | rfl | rfl <;> exact ⟨by assumption, by assumption⟩
theorem levs_row (h : ∀ l ∈ [l0, l1, l2, l3], l ∈ LS) (ha : SizeIn a) : levsF (spS l0 l1 l2 l3) a = rowF [l0, l1, l2, l3] a := by
  show [level (stS l0) a, level (stS l1) a, level (stS l2) a, level (stS l3) a] = [colF l0 a, colF l1 a, colF l2 a, colF l3 a]
  rw [(lead_size (h l0 (by simp)) ha).1, (lead_size (h l1 (by simp)) ha).1, (lead_size (h l2 (by simp)) ha).1, (lead_size (h l3 (by simp)) ha).1]
theorem row_ok (h : ∀ l ∈ [l0, l1, l2, l3], l ∈ LS) (ha : SizeIn a) : ∀ r ∈ rowF [l0, l1, l2, l3] a, 0 ≤ r ∧ r ≤ 20000 := fun r hr => by
  have hr' : r ∈ [colF l0 a, colF l1 a, colF l2 a, colF l3 a] := hr
  simp only [List.mem_cons, List.not_mem_nil, or_false] at hr'
  rcases hr' with rfl | rfl | rfl | rfl
  · exact (lead_size (h l0 (by simp)) ha).2
  · exact (lead_size (h l1 (by simp)) ha).2
  · exact (lead_size (h l2 (by simp)) ha).2
  · exact (lead_size (h l3 (by simp)) ha).2
theorem four_getD {r0 r1 r2 r3 B : Int} (h0 : 0 ≤ r0 ∧ r0 ≤ B) (h1 : 0 ≤ r1 ∧ r1 ≤ B) (h2 : 0 ≤ r2 ∧ r2 ≤ B) (h3 : 0 ≤ r3 ∧ r3 ≤ B) (i : Nat) : 0 ≤ ([r0, r1, r2, r3] : List Int).getD i 0 ∧ ([r0, r1, r2, r3] : List Int).getD i 0 ≤ B := by
  rcases i with _ | _ | _ | _ | i
  · exact h0
  · exact h1
  · exact h2
  · exact h3
  · show (0 : Int) ≤ 0 ∧ (0 : Int) ≤ B
    omega
theorem prods_ok {r0 r1 r2 r3 u2 u3 : Int} (h0 : 0 ≤ r0 ∧ r0 ≤ 20000) (h1 : 0 ≤ r1 ∧ r1 ≤ 20000) (h2 : 0 ≤ r2 ∧ r2 ≤ 20000) (h3 : 0 ≤ r3 ∧ r3 ≤ 20000) : ∀ r ∈ pr [r0, r1, r2, r3] [0, 0, u2, u3] 3, -2 ^ 64 < r ∧ r < 2 ^ 64 := by
  rw [pr3]
  have g2 := four_getD h0 h1 h2 h3 u2.toNat
  have g3 := four_getD h0 h1 h2 h3 u3.toNat
  generalize ([r0, r1, r2, r3] : List Int).getD u2.toNat 0 = x2 at *
  generalize ([r0, r1, r2, r3] : List Int).getD u3.toNat 0 = x3 at *
  have m1 := mul_abs (x := r0) (y := r1 - r0) (A := 20000) (B := 20000) (by omega) (by omega)
  have m2 := mul_abs (y := r2 - x2) (B := 20000) m1 (by omega)
  have m3 := mul_abs (y := r3 - x3) (B := 20000) m2 (by omega)
  intro r hr
  simp only [List.mem_cons, List.not_mem_nil, or_false] at hr
  rcases hr with rfl | rfl | rfl | rfl <;> omega
theorem prod_step (h2 : u2 = 0 ∨ u2 = 1) (h3 : u3 = 0 ∨ u3 = 1 ∨ u3 = 2) {p : Nat} (hp : p < 3) : (pr (levsF (spS l0 l1 l2 l3) a) [0, 0, u2, u3] 3).getD (p + 1) 0 = (pr (levsF (spS l0 l1 l2 l3) a) [0, 0, u2, u3] 3).getD p 0 * (level (stS (loF [l0, l1, l2, l3] p)) a - level (stS (uppF [l0, l1, l2, l3] u2 u3 p)) a) := by
  rcases three hp with rfl | rfl | rfl <;> rcases h2 with rfl | rfl <;> rcases h3 with rfl | rfl | rfl <;> rfl
theorem named_ok (h : ∀ l ∈ [l0, l1, l2, l3], l ∈ LS) (h2 : u2 = 0 ∨ u2 = 1) (h3 : u3 = 0 ∨ u3 = 1 ∨ u3 = 2) (ha : SizeIn a) {p : Nat} (hp : p < 3) (hc : (pr (levsF (spS l0 l1 l2 l3) a) [0, 0, u2, u3] 3).getD p 0 ≠ 0) :
    [nearF (min a ((boundsF (pairsF (spS l0 l1 l2 l3) u2 u3)).getD p 0)) ((lowsF (pairsF (spS l0 l1 l2 l3) u2 u3)).getD p []), nearF (min a ((boundsF (pairsF (spS l0 l1 l2 l3) u2 u3)).getD p 0)) ((oddsF (pairsF (spS l0 l1 l2 l3) u2 u3)).getD p [])] =
      [decide ((pr (levsF (spS l0 l1 l2 l3) a) [0, 0, u2, u3] 3).getD p 0 * (pr (levsF (spS l0 l1 l2 l3) a) [0, 0, u2, u3] 3).getD (p + 1) 0 ≤ 0), (pr (levsF (spS l0 l1 l2 l3) a) [0, 0, u2, u3] 3).getD p 0 * (pr (levsF (spS l0 l1 l2 l3) a) [0, 0, u2, u3] 3).getD (p + 1) 0 != 0] := by
  obtain ⟨hU, hW⟩ := upp_in h h2 h3 hp
  rw [bnds_at h2 h3 hp, lows_at h2 h3 hp, odds_at h2 h3 hp, (near_size hU hW ha).1, (near_size hU hW ha).2, prod_step h2 h3 hp]
  obtain ⟨s1, s2⟩ := sq_sign (d := level (stS (loF [l0, l1, l2, l3] p)) a - level (stS (uppF [l0, l1, l2, l3] u2 u3 p)) a) hc
  refine congr (congrArg List.cons ?_) (congr (congrArg List.cons ?_) rfl)
  · refine decide_eq_decide.mpr ?_
    rw [s1]
    omega
  · rw [bne, Bool.not_eq_eq_eq_not, Bool.not_not, Bool.eq_iff_iff, decide_eq_true_eq, beq_iff_eq, s2]
    omega
theorem fine_ok (h : ∀ l ∈ [l0, l1, l2, l3], l ∈ LS) (h2 : u2 = 0 ∨ u2 = 1) (h3 : u3 = 0 ∨ u3 = 1 ∨ u3 = 2) {p : Nat} (hp : p < 3) : ∃ lg, Fine [l0, l1, l2, l3] (spS l0 l1 l2 l3) u2 u3 lg p := by
  obtain ⟨hU, hW⟩ := upp_in h h2 h3 hp
  have P := pair_is hU hW
  refine ⟨bndS (uppF [l0, l1, l2, l3] u2 u3 p) (loF [l0, l1, l2, l3] p) - 1, ⟨P.lg.1, by have := P.lg; omega⟩, P.mem, P.max, P.runs, ?_, ?_, ?_, (lead_is hW).str, ?_⟩
  · rw [bnds_at h2 h3 hp]
    omega
  · rw [pair_at h2 h3 hp, lows_at h2 h3 hp]
    exact P.low
  · rw [pair_at h2 h3 hp, odds_at h2 h3 hp]
    exact P.odd
  · rw [lows_at h2 h3 hp, odds_at h2 h3 hp]
    exact P.wide
end
end Mine
end
noncomputable section
open PySem PySem.W PyProof.Rows PySem.Calls PySem.Spec
set_option maxRecDepth 100000
set_option maxHeartbeats 4000000
set_option linter.unusedVariables false
namespace Mine
open LCg
section
variable {w : World} {mean : ExcName → Option Value} {mg mb : Str → Option Value} {A : Around} {h₀ : Heap} {L P : Addr} {m : Str → Option Value} {Y led : Lg} {kd ku : Nat} {s : Shared} {Q : Flow → Shared → Prop} {E : Value → Shared → Prop} {cd : Value}
theorem cells_fourB {v : Value} (r : ListR CellRp [(), (), (), ()] led v) : ∃ c0 c1 c2 c3 : Int, (∀ c ∈ [c0, c1, c2, c3], 0 ≤ c ∧ c < 10 ^ 9) ∧ ListR IntR [c0, c1, c2, c3] led v := by
  obtain ⟨a, vs, n, rfl, hm, r⟩ := r
  obtain ⟨v0, v1, v2, v3, rfl, ⟨c0, b0, r0⟩, ⟨c1, b1, r1⟩, ⟨c2, b2, r2⟩, ⟨c3, b3, r3⟩⟩ := all2_four r
  refine ⟨c0, c1, c2, c3, fun c hc => ?_, a, _, n, rfl, hm, .cons r0 (.cons r1 (.cons r2 (.cons r3 .nil)))⟩
  simp only [List.mem_cons, List.not_mem_nil, or_false] at hc
  rcases hc with rfl | rfl | rfl | rfl <;> assumption
set_option maxHeartbeats 16000000 in
theorem law_run (c : Cx w mean mg mb A h₀ L kd ku) (hd : 10 ≤ kd) (hu : 80 ≤ ku) (hfr : A.frames = some [lawE w L cd]) (hcd : CodeHd h₀ 127 P) (hP : ∀ i : Nat, P ≠ L + i) (hE : PassesOwn (model PR w) A (lawE w L cd) E) (at0 : At h₀ L m Y led s.heap) {d : Addr} {vs : List Value} {ns : List Int}
    (hdl : h₀.IsList d vs.toArray) (hi : IntsAre vs ns) (hsz : ns.length ≤ sizeLine) (hsc : CellV Y (L + 1) (.ref d)) (hcells : ∀ i : Nat, 2 ≤ i → i ≤ 12 → HasCell Y (L + i)) (hpl : PlainY Y) (hT : TabIn P Y) (hG : AllBare s.gens)
    (k : ∀ s', Kin s s' → (∀ b o, h₀.get? b = some o → s'.heap.get? b = some o) → GrownAt P s'.heap → Q (.ret (.bool true)) s') : Wp (model PR w) A (execs (lawB w) (lawE w L cd)) Q E s := by
  have hne : ∀ {i j : Nat}, i ≠ j → @Ne Nat (L + i) (L + j) := fun h e => h (Nat.add_left_cancel e)
  show Wp (model PR w) A (execs [st w 0, st w 1, st w 2, st w 3, st w 4, st w 5, st w 6, st w 7, st w 8, st w 9, st w 10, st w 11, st w 12] (lawE w L cd)) Q E s
  refine ex_cons (s0 c at0 hdl hi hsz hsc (hcells 2 (by omega) (by omega)) fun v0 h0 t0 l0 Y0 hY0 at0' e0 r0 => ?_)
  dsimp only
  obtain ⟨c0, c1, c2, c3, hcb, rc⟩ := cells_fourB r0
  have hC0 : ∀ i : Nat, 2 ≤ i → i ≤ 12 → HasCell Y0 (L + i) := fun i h1 h2 => hY0.has (hcells i h1 h2)
  refine ex_cons (s1 c at0' hcb hY0.new rc fun v1 h1 t1 l1 at1 e1 r1 => ?_)
  dsimp only
  have hlead : ∀ l ∈ [leadF c0, leadF c1, leadF c2, leadF c3], l ∈ LS := fun l hl => by
    simp only [List.mem_cons, List.not_mem_nil, or_false] at hl
    rcases hl with rfl | rfl | rfl | rfl <;> exact leadF_in _
  generalize leadF c0 = x0 at *
  generalize leadF c1 = x1 at *
  generalize leadF c2 = x2 at *
  generalize leadF c3 = x3 at *
  have rc1 := listI_up _ _ _ _ e1 rc
  refine ex_cons (s2 c at1 hY0.new rc1 (hC0 3 (by omega) (by omega)) fun v2 h2 t2 l2 Y2 hY2 at2 e2 r2 => ?_)
  dsimp only
  have hu2 : upF c2 2 = 0 ∨ upF c2 2 = 1 := two _
  have hu3 : upF c3 3 = 0 ∨ upF c3 3 = 1 ∨ upF c3 3 = 2 := mod3 _
  generalize upF c2 2 = u2 at *
  generalize upF c3 3 = u3 at *
  have hC2 : ∀ i : Nat, 2 ≤ i → i ≤ 12 → HasCell Y2 (L + i) := fun i h1 h2 => hY2.has (hC0 i h1 h2)
  have p2 : PlainY Y2 := (hpl.set hY0).set hY2
  refine ex_cons (s3 c hd hu p2 at2 hY2.new r2 hu2 hu3 (hC2 4 (by omega) (by omega)) fun v3 v3' h3 t3 l3 Y3 hY3 at3 e3 r3 r3' => ?_)
  dsimp only
  have hC3 : ∀ i : Nat, 2 ≤ i → i ≤ 12 → HasCell Y3 (L + i) := fun i h1 h2 => hY3.has (hC2 i h1 h2)
  refine ex_cons (s4 c at3 hY3.new r3 hu2 hu3 (hC3 5 (by omega) (by omega)) fun v4 h4 t4 l4 Y4 hY4 at4 e4 r4 => ?_)
  dsimp only
  have hC4 : ∀ i : Nat, 2 ≤ i → i ≤ 12 → HasCell Y4 (L + i) := fun i h1 h2 => hY4.has (hC3 i h1 h2)
  have rl4 : LeadsR x0 x1 x2 x3 l4 v1 := ls_up _ _ _ (e2.trans (e3.trans e4)) r1
  refine ex_cons (s5 c (by omega) (by omega) at4 (fun l hl => (lead_is (hlead l hl)).len) (vl := v1) rfl rl4 (hC4 6 (by omega) (by omega)) fun v5 h5 t5 l5 Y5 hY5 at5 e5 r5 => ?_)
  dsimp only
  rw [sps_is hlead] at r5
  have hC5 : ∀ i : Nat, 2 ≤ i → i ≤ 12 → HasCell Y5 (L + i) := fun i h1 h2 => hY5.has (hC4 i h1 h2)
  have cu5 : CellV Y5 (L + 3) v2 := hY5.old (hY4.old (hY3.old hY2.new (hne (by decide))) (hne (by decide))) (hne (by decide))
  refine ex_cons (s6 c at5 (sp := spS x0 x1 x2 x3) rfl hu2 hu3 hY5.new r5 cu5 (listI_up _ _ _ _ (e3.trans (e4.trans e5)) r2) fun v6 h6 t6 l6 at6 e6 r6 => ?_)
  dsimp only
  have p5 : PlainY Y5 := ((p2.set hY3).set hY4).set hY5
  have hps : (pairsF (spS x0 x1 x2 x3) u2 u3).length ≤ 100 := by show 3 ≤ 100; omega
  refine ex_cons (s7 c hd hu p5 at6 hps (vp := v6) rfl r6 fun v7 h7 t7 l7 at7 e7 r7 => ?_)
  dsimp only
  have r6' := pairsR_up _ _ _ _ e7 r6
  refine ex_cons (s8 c hd hu p5 at7 hps (vp := v6) rfl r6' fun v8 h8 t8 l8 at8 e8 r8 => ?_)
  dsimp only
  have r6'' := pairsR_up _ _ _ _ e8 r6'
  refine ex_cons (s9 c (by omega) (by omega) at8 hps (vp := v6) rfl r6'' fun v9 h9 t9 l9 at9 e9 r9 => ?_)
  dsimp only
  have hT5 : TabIn P Y5 := ((((hT.set hY0 (hP 2)).set hY2 (hP 3)).set hY3 (hP 4)).set hY4 (hP 5)).set hY5 (hP 6)
  have e69 : Sub l6 l9 := e7.trans (e8.trans e9)
  have e59 : Sub l5 l9 := e6.trans e69
  have cc5 : CellV Y5 (L + 2) v0 := hY5.old (hY4.old (hY3.old (hY2.old hY0.new (hne (by decide))) (hne (by decide))) (hne (by decide))) (hne (by decide))
  have bag : Bag w L P [x0, x1, x2, x3] (spS x0 x1 x2 x3) [c0, c1, c2, c3] u2 u3 (fun z => if z = "bounds" then some v9 else if z = "odds" then some v8 else if z = "lows" then some v7 else if z = "pairs" then some v6 else if z = "signed" then some v3' else if z = "leads" then some v1 else m z) Y5 l9 :=
    ⟨⟨v1, rfl, ls_up _ _ _ (e5.trans e59) rl4⟩, ⟨v3', rfl, sgR_up _ _ _ _ (e4.trans (e5.trans e59)) r3'⟩, ⟨v6, rfl, pairsR_up _ _ _ _ e9 r6''⟩, ⟨v7, rfl, rowsR_up _ _ _ _ (e8.trans e9) r7⟩, ⟨v8, rfl, rowsR_up _ _ _ _ e9 r8⟩, ⟨v9, rfl, r9⟩,
      ⟨v0, cc5, listI_up _ _ _ _ (e2.trans (e3.trans (e4.trans (e5.trans e59)))) rc1⟩, ⟨v2, cu5, listI_up _ _ _ _ (e3.trans (e4.trans (e5.trans e59))) r2⟩, ⟨v4, hY5.old hY4.new (hne (by decide)), tabR_up _ _ _ _ (e5.trans e59) r4⟩, ⟨v5, hY5.new, sp_up _ _ _ e59 r5⟩,
      fun i h1 h2 => hC5 i (by omega) h2, p5, hT5, hP⟩
  have hls : ∀ l ∈ [x0, x1, x2, x3], l.length ≤ 10 := fun l hl => Nat.le_trans (lead_is (hlead l hl)).len (by decide)
  have hlen : ∀ p, p < 3 → ((lowsF (pairsF (spS x0 x1 x2 x3) u2 u3)).getD p []).length ≤ 100 ∧ ((oddsF (pairsF (spS x0 x1 x2 x3) u2 u3)).getD p []).length ≤ 100 := fun p hp => by
    obtain ⟨lg, f⟩ := fine_ok hlead hu2 hu3 hp
    exact ⟨(f.found _ (.head _)).1.1, (f.found _ (.tail _ (.head _))).1.1⟩
  refine ex_cons (s10 c hd hu hE at9 bag hls rfl rfl hu2 hu3 (fun a ha => row_ok hlead (sizes_in ha)) (fun a ha => by rw [levs_row hlead (sizes_in ha)]; exact row_ok hlead (sizes_in ha)) (fun a ha => by rw [levs_row hlead (sizes_in ha)]; exact corner_all hu2 hu3)
    (fun a ha => ?cap) (fun p hp => (hlen p hp).1) (fun p hp => (hlen p hp).2) (fun a ha p hp hc => named_ok hlead hu2 hu3 (sizes_in ha) hp hc) fun m10 Y10 l10 h10 t10 at10 e10 map10 bag10 => ?_)
  case cap =>
    have z := row_ok hlead (sizes_in ha)
    rw [levs_row hlead (sizes_in ha)]
    exact prods_ok (z _ (.head _)) (z _ (.tail _ (.head _))) (z _ (.tail _ (.tail _ (.head _)))) (z _ (.tail _ (.tail _ (.tail _ (.head _)))))
  dsimp only
  refine ex_cons (s11 c hd hu hfr hcd hP hE at10 bag10 bag10.tab hG hls rfl rfl hu2 hu3 (fun p hp => fine_ok hlead hu2 hu3 hp) fun m11 Y11 l11 s₁ hk e11 map11 hT11 at11 => ?_)
  dsimp only
  refine ex_cons (Wp.mk (wpAny_Return_some (wpAny_Constant_bool ?_)))
  dsimp only
  obtain ⟨ps, hm, _⟩ := hT11
  exact k s₁ (Kin.step.trans hk) (fun b o e => at11.fr.keep b o e) ⟨ps, (at11.y _ hm).1⟩
end
end Mine
end
noncomputable section
open PySem PySem.W PyProof.Rows PySem.Calls PySem.Spec
set_option maxRecDepth 100000
set_option maxHeartbeats 4000000
set_option linter.unusedVariables false
namespace Mine
open LCg
theorem tab_fw : PySem.Challenge.rw_tc0103_01 = PySem.Challenge.rw_tc0103_01 → ∀ w : World, tabIn (hd.heap_39 w.params) (Str.ofString "format_witnesses") = some (127, 123) := by
  k_fill
  intro _ w
  kernel_rfl
theorem law_at : PySem.Challenge.rw_tc0103_01 = PySem.Challenge.rw_tc0103_01 → ∀ w : World, nsIn (hd.heap_39 w.params) mainGlobals (Str.ofString "law") = some (some (.ref 173)) ∧ noTabs (hd.heap_39 w.params) = true := by
  k_fill
  intro _ w
  exact ⟨by k_is, by kernel_rfl⟩
theorem law_post {M : Model} {A : Around} {cd : Code} {s s₁ : Shared} {cw : ClaimW} {cl : Str → Option Addr} {mean : ExcName → Option Value} {args : List WData} {tabs : List (Addr × Addr)} (hT : TabsAt tabs s₁.heap) (hr : ∀ a x, cw.raises a x = false) (hp : cw.post args (.bool true) args = true)
    (h : codeAny M A cd (fun r s' => r = .ok (.ret (.bool true)) ∧ (∀ b o, (ghostOf s₁.heap tabs).get? b = some o → s'.heap.get? b = some o) ∧ GrownAll tabs s'.heap ∧ s'.os = s₁.os ∧ AllBare s'.gens) s) : codeAny M A cd (GoodWG cw cl mean args s₁) s :=
  codeAny_mono h fun r s' ⟨hc, hk, hgr, hos, hg⟩ => by
    have keep : ∀ b o, b ∉ tabs.map (·.2) → s₁.heap.get? b = some o → s'.heap.get? b = some o := fun b o hb e => hk b o (ghost_ne e hb)
    have grown : ∀ b o, b ∈ tabs.map (·.2) → s₁.heap.get? b = some o → isCodeTable s₁.heap b ∧ o = tabObj #[] ∧ ∃ ps, s'.heap.get? b = some (tabObj ps) := fun b o hb e => by
      obtain ⟨q, hq, rfl⟩ := List.mem_map.mp hb
      have e2 := (hT q hq).2
      rw [e] at e2
      exact ⟨((hT q hq).1.tab (hT q hq).2).isCodeTable, Option.some.inj e2, hgr.get q hq⟩
    refine ⟨.inl ⟨.bool true, .bool true, [], hc, hr _, .bool true, hp, fun _ => ⟨.nil, fun a ha => nomatch ha⟩⟩, ⟨fun b o e => ?_, fun b o e => ?_⟩, hos, hg⟩
    · by_cases hb : b ∈ tabs.map (·.2)
      · obtain ⟨ht, rfl, ps, hP⟩ := grown b o hb e
        exact .inr (.inl ⟨ht, rfl, #[], ps, rfl, by rw [Array.empty_append]; exact hP⟩)
      · exact .inl (keep b o hb e)
    · by_cases hb : b ∈ tabs.map (·.2)
      · obtain ⟨_, _, ps, hP⟩ := grown b o hb e
        exact ⟨_, hP⟩
      · exact ⟨o, keep b o hb e⟩
theorem cellsFrom_nd {lo : Nat} : ∀ (names : List (Str × NameKind)) (n : Nat) (acc : List (Str × Addr)), lo ≤ n → (acc.map (·.2)).Nodup → (∀ c ∈ acc.map (·.2), @LE.le Nat _ lo c ∧ @LT.lt Nat _ c n) → ((cellsFrom n names acc).map (·.2)).Nodup ∧ ∀ c ∈ (cellsFrom n names acc).map (·.2), @LE.le Nat _ lo c
  | [], _, _, _, h1, h2 => ⟨h1, fun c hc => (h2 c hc).1⟩
  | (x, k) :: r, n, acc, h0, h1, h2 => by
    unfold cellsFrom
    split
    · refine cellsFrom_nd r (n + 1) ((x, n) :: acc) (Nat.le_succ_of_le h0) (List.nodup_cons.mpr ⟨fun hm => Nat.lt_irrefl _ (h2 n hm).2, h1⟩) fun c hc => ?_
      rcases List.mem_cons.mp hc with rfl | hc
      · exact ⟨h0, Nat.lt_succ_self _⟩
      · exact ⟨(h2 c hc).1, Nat.lt_succ_of_lt (h2 c hc).2⟩
    · exact cellsFrom_nd r n acc h0 h1 h2
theorem law_entry : PySem.Challenge.rw_tc0103_01.Holds := by
  w_top off
  k_with_none
  k_with "omega" => with_reducible first | assumption | exact Nat.le_refl _ | exact Nat.le_of_lt (by assumption) | exact Ne.symm (by assumption) | exact Nat.ne_of_gt (by assumption) | exact Nat.ne_of_lt (by assumption) | exact Int.le_add_one (by assumption) | exact cast_up (by assumption) | exact cast_le (by assumption) | exact Nat.le_trans (by assumption) (by decide) | exact Nat.lt_of_le_of_lt (by assumption) (by decide) | exact Nat.lt_of_lt_of_le (by assumption) (by decide) | (refine Nat.le_trans ?_ (by assumption); decide) | exact Nat.lt_trans (by assumption) (by assumption) | (rename (_ ∧ _) => hx; first | exact hx.1 | exact hx.2.1 | exact hx.2.2.1 | exact hx.2.2.2.1 | exact hx.2.2.2.2.1 | exact hx.2.2.2.2.2.1 | exact hx.2.2.2.2.2.2.1 | exact Nat.ne_of_gt hx.1 | exact Nat.ne_of_gt hx.2.1 | exact Nat.ne_of_gt hx.2.2.1 | exact Nat.ne_of_gt hx.2.2.2.1 | exact Nat.ne_of_gt hx.2.2.2.2.1 | exact Nat.ne_of_gt hx.2.2.2.2.2.1 | exact Nat.ne_of_gt hx.2.2.2.2.2.2.1 | exact Nat.le_of_lt hx.1 | exact Nat.le_of_lt hx.2.1 | exact Nat.le_of_lt hx.2.2.1 | exact Nat.le_of_lt hx.2.2.2.1 | fail) | fail
  refine hd ?_
  k_fill
  intro w s₀ s₁ mg mb G Y fa o pm cd doc dV kV ho hd hcd hD hmg hg args vals as hpre hlay hrd hwl hlo
  have KX := kIn_of Y
  have X := (Ground.X G).1
  have V := (Ground.X G).2
  refine Ground.open G ?_
  intro T B D TE TW
  try (refine guard_noD D (by decide +kernel) ?_; clear D)
  wrow_args hpre hlay hrd hwl hlo
  have hT9 : TabsAt [(127, 123)] s₁.heap := List.forall_mem_cons.mpr ⟨tab_of (x := Str.ofString "format_witnesses") (c := 127) (P := 123) T KX rfl (tab_fw rfl w), fun _ h => nomatch h⟩
  obtain rfl : fa = 173 := by
    have e := ns_some_of KX T.g (law_at rfl w).1
    have e2 := hmg.symm.trans e
    cases e2
    rfl
  refine enter_call (law_post hT9 (fun _ _ => rfl) ?post ?_)
  case post => first | rfl | with_unfolding_all rfl | exact postW_of (by wrow_shape) (by wtm_val) (by str_meet; first | done | w_fin)
  have he := Dflts.none hD rfl
  subst he
  have he := Dflts.noKw hD
  subst he
  refine call_cellsN (by decide) ho (fd_plain hd) (Top.nolimit T) hcd rfl (kinds_of (by kinds_ok)) (by decide) fun h₁ tk₁ cells F N0 X0 => ?_
  rename IntsAre _ _ => hI
  rename Heap.IsList _ _ _ => hL
  rename ¬ _ < _ => hlen
  have l0 := ghost_lt hT9 F
  have C' := ghost_code hT9
  have X' := ghost_K hT9 KX (law_at rfl w).2
  have T' := ghost_top hT9 T
  have B' := ghost_below hT9
  have N' := ghost_news hT9 F N0
  have F' := ghost_fr hT9 F
  have hL' := ghost_list hT9 hL
  have l1 : @LT.lt Nat _ 123 s₁.heap.objs.size := l0 (123, tabObj #[]) (.head _)
  have cn := cellsFrom_nd (lo := s₁.heap.objs.size + 1) (lawS w).names (s₁.heap.objs.size + 1) [] (Nat.le_refl _) .nil fun c hc => nomatch hc
  have at1 := at_cells F' N' X0 l0 cn.1 fun c hc => cn.2 c hc
  have at2 : At (ghostOf s₁.heap [(127, 123)]) s₁.heap.objs.size _ (cells ++ [(123, tabObj #[])]) [] h₁ := ⟨at1.fr, fun p hp => at1.ne p (by simpa using hp), by
    rw [List.map_append]
    refine List.nodup_append.mpr ⟨at1.nd, List.nodup_cons.mpr ⟨(fun h => nomatch h), .nil⟩, fun a ha b hb e => ?_⟩
    obtain rfl := List.mem_singleton.mp hb
    rw [show a = 123 from e] at ha
    exact at1.off (123, tabObj #[]) (.head _) ha, fun p hp => nomatch hp⟩
  have cx : Cx w (ExcName.means s₀.heap) mg mb (callerA.deeper (lawE w s₁.heap.objs.size cd)) (ghostOf s₁.heap [(127, 123)]) s₁.heap.objs.size 10 80 :=
    ⟨rfl, ⟨_, _, T'⟩, X', ⟨Str.ofString "law", lawS w, 173, cd, cellsFrom (s₁.heap.objs.size + 1) (lawS w).names [], [], callerA, _, rfl, B', rfl⟩, by show 1 + claimMargin + 1 + 10 < recursionLimit; decide, by show 4 + 3 + 80 < cLine; decide⟩
  have hcs : ∀ i : Nat, 2 ≤ i → i ≤ 12 → HasCell (cells ++ [(123, tabObj #[])]) (s₁.heap.objs.size + i) := fun i h1 h2 => by
    have left : ∀ {c : Addr}, HasCell cells c → HasCell (cells ++ [(123, tabObj #[])]) c := fun ⟨o, v, a, b⟩ => ⟨o, v, List.mem_append_left _ a, b⟩
    have h3 : i = 2 ∨ i = 3 ∨ i = 4 ∨ i = 5 ∨ i = 6 ∨ i = 7 ∨ i = 8 ∨ i = 9 ∨ i = 10 ∨ i = 11 ∨ i = 12 := (show ∀ j : Nat, j < 13 → 2 ≤ j → j = 2 ∨ j = 3 ∨ j = 4 ∨ j = 5 ∨ j = 6 ∨ j = 7 ∨ j = 8 ∨ j = 9 ∨ j = 10 ∨ j = 11 ∨ j = 12 by decide) i (Nat.lt_succ_of_le h2) h1
    rcases h3 with rfl | rfl | rfl | rfl | rfl | rfl | rfl | rfl | rfl | rfl | rfl
    · exact left (cells_has X0 (y := "cells") rfl)
    · exact left (cells_has X0 (y := "ups") rfl)
    · exact left (cells_has X0 (y := "chains") rfl)
    · exact left (cells_has X0 (y := "meets") rfl)
    · exact left (cells_has X0 (y := "spaces") rfl)
    · exact left (cells_has X0 (y := "upper") rfl)
    · exact left (cells_has X0 (y := "lower") rfl)
    · exact left (cells_has X0 (y := "size") rfl)
    · exact left (cells_has X0 (y := "row") rfl)
    · exact left (cells_has X0 (y := "near") rfl)
    · exact left (cells_has X0 (y := "sizes") rfl)
  have hsc : CellV (cells ++ [(123, tabObj #[])]) (s₁.heap.objs.size + 1) _ := let ⟨o, a, b⟩ := cells_val X0 (y := "script") rfl rfl; ⟨o, List.mem_append_left _ a, b⟩
  have hpl : PlainY (cells ++ [(123, tabObj #[])]) := fun q hq => (List.mem_append.mp hq).elim (cells_plain X0 q) fun h => by
    obtain rfl := List.mem_singleton.mp h
    exact .inr (.inr ⟨_, rfl⟩)
  have hns := Int.ofNat_le.mp (Int.not_lt.mp hlen)
  refine Wp.h (law_run (P := 123) cx (Nat.le_refl _) (Nat.le_refl _) rfl C'.1 (fun i e => ?off) ?own at2 hL' hI ?len hsc hcs hpl ⟨#[], List.mem_append_right _ (.head _), ?trip⟩ (AllBare.of_eq hg) fun s' kn kp gr => ⟨rfl, kp, ⟨gr, trivial⟩, kn.1, kn.2.2 (AllBare.of_eq hg)⟩)
  case off =>
    have e' : (123 : Nat) = s₁.heap.objs.size + i := e
    omega
  case own => passes_own
  case len =>
    have : (63 : Nat) ≤ sizeLine := by decide
    omega
  case trip => exact True.intro
end Mine
end
theorem PySem.Challenge.cw_tc0103_01_holds : PySem.Challenge.rw_tc0103_01.Holds :=
  Mine.law_entry
