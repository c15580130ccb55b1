import PyProof.Rows.All
import Wide.All
import OpenK.AllK
import Wide.FinOn
import PySem.Challenge.RW_fe5002_01
open PySem PySem.W PyProof.Rows PySem.Calls
set_option Elab.async false
namespace Mine
set_option maxRecDepth 100000 in
set_option maxHeartbeats 8000000 in
open_top hd for PySem.Challenge.rw_fe5002_01
end Mine

namespace Mine
set_option maxRecDepth 100000
set_option maxHeartbeats 8000000

def Stop (P : Prop) : Prop := P
theorem Stop.out {P : Prop} (h : Stop P) : P := h
theorem fr_known {h₀ h : Heap} {L : Addr} {m : Str → Option Value} {ps : List (Str × Value)} (h1 : ∀ p ∈ ps, m p.1 = some p.2) (F : Fr h₀ L h m) : Fr h₀ L h (kstB m ps) := by
  have e : kstB m ps = m := funext fun z => kstB_eq h1 fun _ => rfl
  rw [e]; exact F

theorem my_tail {α : Type} {p q : α} {l : List α} (h : p ∈ l) : p ∈ q :: l := List.mem_cons_of_mem _ h
theorem my_head {α : Type} {p : α} {l : List α} : p ∈ p :: l := List.mem_cons_self
/-- the ledger holds at least this -/
theorem news_sub {h₀ h : Heap} {L : Addr} {a b : List (Addr × Obj)} (N : News h₀ L h a) (hs : ∀ p ∈ b, p ∈ a) : News h₀ L h b := fun p hp => N p (hs p hp)

/-- the end of a turn of a while -/
def WEnd {σ : Type} (h₀ : Heap) (L : Addr) (s : Shared) (Led : σ → List (Addr × Obj)) (ps : σ → List (Str × Value)) (P : σ → Prop) (μ : σ → Nat) (c : σ) (s₂ : Shared) : Prop :=
  ∃ (c' : σ) (h' : Heap) (tk : Nat) (m' : Str → Option Value) (news' : List (Addr × Obj)), s₂ = { s with heap := h', toks := tk } ∧ Fr h₀ L h' m' ∧ News h₀ L h' news' ∧ (∀ p ∈ Led c', p ∈ news') ∧ (∀ p ∈ ps c', m' p.1 = some p.2) ∧ P c' ∧ μ c' < μ c
def WPost {σ : Type} (h₀ : Heap) (L : Addr) (s : Shared) (Led : σ → List (Addr × Obj)) (ps : σ → List (Str × Value)) (P : σ → Prop) (μ : σ → Nat) (Q : Flow → Shared → Prop) (c : σ) (f : Flow) (s₂ : Shared) : Prop :=
  match f with
  | .ret v => Q (.ret v) s₂
  | .brk => Q .next s₂
  | _ => WEnd h₀ L s Led ps P μ c s₂
/-- the test was false -/
def WOut {σ : Type} (h₀ : Heap) (L : Addr) (s : Shared) (Led : σ → List (Addr × Obj)) (ps : σ → List (Str × Value)) (R : σ → Prop) (c : σ) (s₂ : Shared) : Prop :=
  ∃ (h' : Heap) (tk : Nat) (m' : Str → Option Value) (news' : List (Addr × Obj)), s₂ = { s with heap := h', toks := tk } ∧ Fr h₀ L h' m' ∧ News h₀ L h' news' ∧ (∀ p ∈ Led c, p ∈ news') ∧ (∀ p ∈ ps c, m' p.1 = some p.2) ∧ R c
theorem wend {σ : Type} {h₀ : Heap} {L : Addr} {s : Shared} {Led : σ → List (Addr × Obj)} {ps : σ → List (Str × Value)} {m' : Str → Option Value} {P : σ → Prop} {μ : σ → Nat} {c : σ} {h' : Heap} {tk : Nat} {news' : List (Addr × Obj)} {Q : Flow → Shared → Prop} {s₂ : Shared} (c' : σ)
    (F : Fr h₀ L h' m') (N : News h₀ L h' news') (hs : s₂ = { s with heap := h', toks := tk }) (hk : ∀ p ∈ ps c', m' p.1 = some p.2) (hn : ∀ p ∈ Led c', p ∈ news') (hp : Stop (P c')) (hm : Stop (μ c' < μ c)) :
    WPost h₀ L s Led ps P μ Q c .next s₂ := ⟨c', h', tk, m', news', hs, F, N, hn, hk, hp, hm⟩
theorem wendc {σ : Type} {h₀ : Heap} {L : Addr} {s : Shared} {Led : σ → List (Addr × Obj)} {ps : σ → List (Str × Value)} {m' : Str → Option Value} {P : σ → Prop} {μ : σ → Nat} {c : σ} {h' : Heap} {tk : Nat} {news' : List (Addr × Obj)} {Q : Flow → Shared → Prop} {s₂ : Shared} (c' : σ)
    (F : Fr h₀ L h' m') (N : News h₀ L h' news') (hs : s₂ = { s with heap := h', toks := tk }) (hk : ∀ p ∈ ps c', m' p.1 = some p.2) (hn : ∀ p ∈ Led c', p ∈ news') (hp : Stop (P c')) (hm : Stop (μ c' < μ c)) :
    WPost h₀ L s Led ps P μ Q c .cont s₂ := ⟨c', h', tk, m', news', hs, F, N, hn, hk, hp, hm⟩
theorem wout {σ : Type} {h₀ : Heap} {L : Addr} {s : Shared} {Led : σ → List (Addr × Obj)} {ps : σ → List (Str × Value)} {m' : Str → Option Value} {R : σ → Prop} {c : σ} {h' : Heap} {tk : Nat} {news' : List (Addr × Obj)} {s₂ : Shared}
    (F : Fr h₀ L h' m') (N : News h₀ L h' news') (hs : s₂ = { s with heap := h', toks := tk }) (hk : ∀ p ∈ ps c, m' p.1 = some p.2) (hn : ∀ p ∈ Led c, p ∈ news') (hp : Stop (R c)) :
    WOut h₀ L s Led ps R c s₂ := ⟨h', tk, m', news', hs, F, N, hn, hk, hp⟩

theorem my_while {σ : Type} {prog : Program} {w : World} {A : Around} {E : Value → Shared → Prop} {Q : Flow → Shared → Prop} {s : Shared} {env : Env} {h₀ : Heap} {L : Addr} {test : PySem.Expr} {body : List Stmt} {pos : Pos} {m₀ : Str → Option Value} {led : List (Addr × Obj)} (Led : σ → List (Addr × Obj)) (ps : σ → List (Str × Value)) (P : σ → Prop) (R : σ → Prop) (μ : σ → Nat) (c₀ : σ)
    (F : Fr h₀ L s.heap m₀) (N : News h₀ L s.heap led) (hk : ∀ p ∈ ps c₀, m₀ p.1 = some p.2) (hn : ∀ p ∈ Led c₀, p ∈ led) (hp : P c₀)
    (turn : ∀ (c : σ) (u : Str → Option Value) h tk, P c → Fr h₀ L h (kstB u (ps c)) → News h₀ L h (Led c) →
      wpAny (model prog w) A (isTrue test env (eval test env)) (fun b s₂ =>
        if b = true then wpAny (model prog w) A (execs body env) (WPost h₀ L s Led ps P μ Q c) E s₂ else WOut h₀ L s Led ps R c s₂) E { s with heap := h, toks := tk })
    (done : ∀ (c : σ) (u : Str → Option Value) h tk, R c → Fr h₀ L h (kstB u (ps c)) → News h₀ L h (Led c) → Q .next { s with heap := h, toks := tk })
    (hE : PassesOwn (model prog w) A env E := by passes_own) :
    wpAny (model prog w) A (exec (.While test body [] pos) env) Q E s := by
  refine While_inv2 (news := Led c₀) (fun n m nx => ∃ c : σ, nx = Led c ∧ μ c = n ∧ (∀ p ∈ ps c, m p.1 = some p.2) ∧ P c) F (fun p hp => N p (hn p hp)) ⟨c₀, rfl, rfl, hk, hp⟩ ?_ hE
  rintro n m₁ nx h tk F₁ N₁ ⟨c, hnx, hsz, h1, hp'⟩
  rw [hnx] at N₁
  rw [← hsz]
  refine wpAny_mono (turn c m₁ h tk hp' (fr_known h1 F₁) N₁) (fun b s₂ p => ?_) fun _ _ x => x
  cases b with
  | false =>
    simp only [Bool.false_eq_true, if_false] at p ⊢
    obtain ⟨h', tk', m', news', rfl, F', N', hn, hk9, hr⟩ := p
    exact done c m' h' tk' hr (fr_known hk9 F') (news_sub N' hn)
  | true =>
    simp only [if_true] at p ⊢
    refine wpAny_mono p (fun f s₃ q => ?_) fun _ _ x => x
    cases f with
    | ret v => exact q
    | brk => exact q
    | next =>
      obtain ⟨c', h', tk', m', news', rfl, F', N', hn, hk9, hp9, hm9⟩ := q
      exact ⟨h', tk', m', Led c', μ c', rfl, F', fun p hp => N' p (hn p hp), hm9, c', rfl, rfl, hk9, hp9⟩
    | cont =>
      obtain ⟨c', h', tk', m', news', rfl, F', N', hn, hk9, hp9, hm9⟩ := q
      exact ⟨h', tk', m', Led c', μ c', rfl, F', fun p hp => N' p (hn p hp), hm9, c', rfl, rfl, hk9, hp9⟩

/-- the end of a turn of a for -/
def FEnd {σ : Type} (h₀ : Heap) (L : Addr) (s : Shared) (I : Addr) (oI : Obj) (Led : σ → List (Addr × Obj)) (ps : σ → List (Str × Value)) (P : Nat → σ → Prop) (i : Nat) (s₂ : Shared) : Prop :=
  ∃ (c' : σ) (h' : Heap) (tk : Nat) (m' : Str → Option Value) (news' : List (Addr × Obj)), s₂ = { s with heap := h', toks := tk } ∧ Fr h₀ L h' m' ∧ News h₀ L h' news' ∧ (∀ p ∈ (I, oI) :: Led c', p ∈ news') ∧ (∀ p ∈ ps c', m' p.1 = some p.2) ∧ (∀ p ∈ Led c', p.1 ≠ I) ∧ P (i + 1) c'
def FPost {σ : Type} (h₀ : Heap) (L : Addr) (s : Shared) (I : Addr) (oI : Obj) (Led : σ → List (Addr × Obj)) (ps : σ → List (Str × Value)) (P : Nat → σ → Prop) (Q : Flow → Shared → Prop) (i : Nat) (f : Flow) (s₂ : Shared) : Prop :=
  match f with
  | .ret v => Q (.ret v) s₂
  | .brk => Q .next s₂
  | _ => FEnd h₀ L s I oI Led ps P i s₂
theorem fend {σ : Type} {h₀ : Heap} {L : Addr} {s : Shared} {I : Addr} {oI : Obj} {Led : σ → List (Addr × Obj)} {ps : σ → List (Str × Value)} {m' : Str → Option Value} {P : Nat → σ → Prop} {i : Nat} {h' : Heap} {tk : Nat} {news' : List (Addr × Obj)} {Q : Flow → Shared → Prop} {s₂ : Shared} (c' : σ)
    (F : Fr h₀ L h' m') (N : News h₀ L h' news') (hs : s₂ = { s with heap := h', toks := tk }) (hk : ∀ p ∈ ps c', m' p.1 = some p.2) (hn : ∀ p ∈ (I, oI) :: Led c', p ∈ news') (hoff : ∀ p ∈ Led c', p.1 ≠ I) (hp : Stop (P (i + 1) c')) :
    FPost h₀ L s I oI Led ps P Q i .next s₂ := ⟨c', h', tk, m', news', hs, F, N, hn, hk, hoff, hp⟩

theorem fpost_ret {σ : Type} {h₀ : Heap} {L : Addr} {s : Shared} {I : Addr} {oI : Obj} {Led : σ → List (Addr × Obj)} {ps : σ → List (Str × Value)} {P : Nat → σ → Prop} {i : Nat} {Q : Flow → Shared → Prop} {s₂ : Shared} {v : Value} (h : Q (.ret v) s₂) : FPost h₀ L s I oI Led ps P Q i (.ret v) s₂ := h
theorem wpost_ret {σ : Type} {h₀ : Heap} {L : Addr} {s : Shared} {Led : σ → List (Addr × Obj)} {ps : σ → List (Str × Value)} {P : σ → Prop} {μ : σ → Nat} {c : σ} {Q : Flow → Shared → Prop} {s₂ : Shared} {v : Value} (h : Q (.ret v) s₂) : WPost h₀ L s Led ps P μ Q c (.ret v) s₂ := h
theorem news_kind {h₀ h : Heap} {L : Addr} {a b : List (Addr × Obj)} {p q : Addr × Obj} (N : News h₀ L h a) (M : News h₀ L h b) (hp : p ∈ a) (hq : q ∈ b) (hc : p.2.cls ≠ q.2.cls) : p.1 ≠ q.1 := fun e => by
  have h1 := (N p hp).1
  have h2 := (M q hq).1
  rw [e, h2] at h1
  exact hc (by rw [Option.some.inj h1])

section
variable {σ : Type} {prog : Program} {w : World} {A : Around} {E : Value → Shared → Prop} {Q : Flow → Shared → Prop} {s : Shared} {env : Env} {h₀ : Heap} {x : Str} {body : List Stmt} {m₀ : Str → Option Value} {led : List (Addr × Obj)}

/-- the turns of a for, over any ledger; the iterator stands at the ledger's head -/
theorem for_core {I : Addr} {fp : List Addr} {n : Nat} {P' : Nat → Value → Prop} {St : Nat → Heap → Prop} (Led : σ → List (Addr × Obj)) (ps : σ → List (Str × Value)) (P : Nat → σ → Prop) (c₀ : σ)
    (W : Walks prog w A I fp [I] n P' St) (hLf : env.locals ∉ fp) (hI : h₀.get? I = none) (hst : St 0 s.heap)
    (hst' : ∀ i h, St i h → ∃ o, h.get? I = some o) (h0I : ∀ p ∈ led, p.1 ≠ I)
    (hfp : ∀ b, b ∈ fp → b ≠ I → h₀.get? b = none → ∃ o, ∀ c, (b, o) ∈ Led c)
    (F : Fr h₀ env.locals s.heap m₀) (N : News h₀ env.locals s.heap led) (hk : ∀ p ∈ ps c₀, m₀ p.1 = some p.2) (hn : ∀ p ∈ Led c₀, p ∈ led) (hp : P 0 c₀)
    (turn : ∀ i v (c : σ) (u : Str → Option Value) h tk oI, i < n → P' i v → P i c → Fr h₀ env.locals h (fun y => if y = x then some v else kstB u (ps c) y) → News h₀ env.locals h ((I, oI) :: Led c) → (∀ p ∈ Led c, p.1 ≠ I) →
      wpAny (model prog w) A (execs body env) (FPost h₀ env.locals { s with heap := h, toks := tk } I oI Led ps P Q i) E { s with heap := h, toks := tk })
    (done : ∀ (c : σ) (u : Str → Option Value) h tk, P n c → Fr h₀ env.locals h (kstB u (ps c)) → News h₀ env.locals h (Led c) → Q .next { s with heap := h, toks := tk }) :
    LoopAtV prog w A h₀ env x body Q E (.ref I) s := by
  have N0 : News h₀ env.locals s.heap (Led c₀) := news_sub N hn
  refine ⟨I, fp, [I], n, P', St, m₀, Led c₀, fun i m nx => ∃ c, nx = Led c ∧ (∀ p ∈ ps c, m p.1 = some p.2) ∧ P i c, rfl, W, hLf, (fun b hb => by rw [List.mem_singleton.mp hb]; exact hI), (fun p hp' hb => h0I p (hn p hp') (List.mem_singleton.mp hb)), hst, F, N0, ⟨c₀, rfl, hk, hp⟩, ?_, ?_⟩
  · rintro i v m₁ news₁ s₁ own ⟨hh, tk, rfl⟩ hin hP ⟨c, rfl, h1, hp'⟩ hoff hown hget hall hst₁ F₁ N₁
    obtain ⟨oI, hoI⟩ := hst' _ _ hst₁
    have hIo : (I, oI) ∈ own := hall I (W.sub I (.head _)) hI oI hoI
    have NI : News h₀ env.locals hh ((I, oI) :: Led c) := fun p hq => by
      rcases List.mem_cons.mp hq with rfl | hq
      · exact N₁ _ (List.mem_append_left _ hIo)
      · exact N₁ p (List.mem_append_right _ hq)
    have hoffI : ∀ p ∈ Led c, p.1 ≠ I := fun p hp hb => hoff p hp (by rw [hb]; exact .head _)
    have ef : (fun y => if y = x then some v else m₁ y) = fun y => if y = x then some v else kstB m₁ (ps c) y := by
      funext y
      have : kstB m₁ (ps c) y = m₁ y := kstB_eq h1 fun _ => rfl
      rw [this]
    have F₁' : Fr h₀ env.locals hh (fun y => if y = x then some v else kstB m₁ (ps c) y) := ef ▸ F₁
    refine wpAny_mono (turn i v c m₁ hh tk oI hin hP hp' F₁' NI hoffI) (fun f s₂ q => ?_) fun _ _ e => e
    have fin : FEnd h₀ env.locals { s with heap := hh, toks := tk } I oI Led ps P i s₂ → LoopStepU h₀ env.locals [I] own (fun m nx => ∃ c, nx = Led c ∧ (∀ p ∈ ps c, m p.1 = some p.2) ∧ P (i + 1) c) { s with heap := hh, toks := tk } .next s₂ := by
      rintro ⟨c', h', tk', m', news', rfl, F', N', hn', hk', hoff9, hp9⟩
      have NL : News h₀ env.locals h' (Led c') := fun p hp => N' p (hn' p (.tail _ hp))
      have hII := N' _ (hn' _ (.head _))
      refine ⟨rfl, h', tk', m', Led c', rfl, F', fun p hp => ?_, fun p hp hb => ?_, c', rfl, hk', hp9⟩
      · rcases List.mem_append.mp hp with ho | hl
        · by_cases e : p.1 = I
          · have e2 : p.2 = oI := by
              have := hget p ho
              rw [e, hoI] at this
              exact (Option.some.inj this).symm
            have : p = (I, oI) := by rw [← e, ← e2]
            rw [this]; exact hII
          · have hpn : h₀.get? p.1 = none := (N₁ p (List.mem_append_left _ ho)).2.2
            obtain ⟨o, hoL⟩ := hfp p.1 (hown p ho) e hpn
            have e3 : o = p.2 := by
              have := (N₁ _ (List.mem_append_right _ (hoL c))).1
              rw [hget p ho] at this
              exact (Option.some.inj this).symm
            have : p = (p.1, o) := by rw [e3]
            rw [this]; exact NL _ (hoL c')
        · exact NL p hl
      · exact hoff9 p hp (List.mem_singleton.mp hb)
    cases f with
    | ret v => exact .ret q
    | brk => exact .brk q
    | next => exact .next (fin q)
    | cont => exact .cont (fin q)
  · rintro h' tk m' news' F' N' _ ⟨c, rfl, hk', hp'⟩
    exact done c m' h' tk hp' (fr_known hk' F') N'

theorem my_range {r : Addr} {a₀ b₀ : Int} {t₀ u₀ v₀ : Tok} {n : Nat} (Led : σ → List (Addr × Obj)) (ps : σ → List (Str × Value)) (P : Nat → σ → Prop) (c₀ : σ)
    (hh : A.handled = none) (hr : IsRange s.heap r a₀ b₀ 1 t₀ u₀ v₀) (hsmall : Builtin.Range.small a₀ b₀ 1 = true) (hn' : Builtin.Range.rangeSize a₀ b₀ 1 = (n : Int))
    (F : Fr h₀ env.locals s.heap m₀) (N : News h₀ env.locals s.heap led) (hk : ∀ p ∈ ps c₀, m₀ p.1 = some p.2) (hn : ∀ p ∈ Led c₀, p ∈ led) (hp : P 0 c₀)
    (turn : ∀ i t (c : σ) (u : Str → Option Value) h tk I oI, i < n → P i c → Fr h₀ env.locals h (fun y => if y = x then some (.int (a₀ + (i : Int)) t) else kstB u (ps c) y) → News h₀ env.locals h ((I, oI) :: Led c) → (∀ p ∈ Led c, p.1 ≠ I) →
      wpAny (model prog w) A (execs body env) (FPost h₀ env.locals { s with heap := h, toks := tk } I oI Led ps P Q i) E { s with heap := h, toks := tk })
    (done : ∀ (c : σ) (u : Str → Option Value) h tk, P n c → Fr h₀ env.locals h (kstB u (ps c)) → News h₀ env.locals h (Led c) → Q .next { s with heap := h, toks := tk }) :
    wpAny (model prog w) A (pyIter (.ref r)) (fun it s₂ => LoopAtV prog w A h₀ env x body Q E it s₂) E s := by
  refine wpAny_pyIter_range hr hsmall ?_
  have W : Walks prog w A s.heap.objs.size [s.heap.objs.size] [s.heap.objs.size] n (fun i v => ∃ t, v = .int (a₀ + i * 1) t)
      (fun i h => IsRangeIter h s.heap.objs.size (a₀ + (i : Nat) * 1) ((n : Int) - (i : Nat)) 1) := Walks.range hh _ a₀ 1 n
  refine for_core Led ps P c₀ W ?_ ?_ ?_ ?_ (fun p hp => Nat.ne_of_lt (Heap.lt_size (N p hp).1)) ?_ (F.push _) (fun p hp => ⟨Heap.get?_push_of_some _ (N p hp).1, (N p hp).2⟩) hk hn hp ?_ ?_
  · intro hm
    exact absurd F.ns.lt ((List.mem_singleton.mp hm) ▸ Nat.lt_irrefl _)
  · exact next_is_new F
  · show IsRangeIter _ _ _ _ _
    rw [hn']
    simpa using Heap.get?_push_size _ rfl
  · intro i h hs
    exact ⟨_, hs⟩
  · intro b hb hne _
    exact absurd (List.mem_singleton.mp hb) hne
  · rintro i v c u h tk oI hi ⟨t, rfl⟩ hP F₁ N₁ hoff
    have e1 : a₀ + (i : Int) * 1 = a₀ + (i : Int) := by omega
    rw [e1] at F₁
    exact turn i t c u h tk _ oI hi hP F₁ N₁ hoff
  · intro c u h tk hP F₁ N₁
    exact done c u h tk hP F₁ N₁

theorem my_list {l : Addr} {vs : List Value} (Led : σ → List (Addr × Obj)) (ps : σ → List (Str × Value)) (P : Nat → σ → Prop) (c₀ : σ)
    (hh : A.handled = none) (hl : (∃ o, h₀.get? l = some o) ∨ ∃ nn, ∀ c, (l, listOf vs.toArray nn) ∈ Led c) (hls : s.heap.IsList l vs.toArray)
    (F : Fr h₀ env.locals s.heap m₀) (N : News h₀ env.locals s.heap led) (hk : ∀ p ∈ ps c₀, m₀ p.1 = some p.2) (hn : ∀ p ∈ Led c₀, p ∈ led) (hp : P 0 c₀)
    (turn : ∀ i v (c : σ) (u : Str → Option Value) h tk I oI, vs[i]? = some v → P i c → Fr h₀ env.locals h (fun y => if y = x then some v else kstB u (ps c) y) → News h₀ env.locals h ((I, oI) :: Led c) → (∀ p ∈ Led c, p.1 ≠ I) →
      wpAny (model prog w) A (execs body env) (FPost h₀ env.locals { s with heap := h, toks := tk } I oI Led ps P Q i) E { s with heap := h, toks := tk })
    (done : ∀ (c : σ) (u : Str → Option Value) h tk, P vs.length c → Fr h₀ env.locals h (kstB u (ps c)) → News h₀ env.locals h (Led c) → Q .next { s with heap := h, toks := tk }) :
    wpAny (model prog w) A (pyIter (.ref l)) (fun it s₂ => LoopAtV prog w A h₀ env x body Q E it s₂) E s := by
  obtain ⟨ol, hol, _⟩ := id hls
  have hlt : l < s.heap.objs.size := Heap.lt_size hol
  have hne : l ≠ s.heap.objs.size := Nat.ne_of_lt hlt
  refine wpAny_pyIter_list hls ?_
  have W := Walks.list (prog := prog) (w := w) hh s.heap.objs.size l hne vs.toArray
  have hnl : l ≠ env.locals := by
    rcases hl with ⟨o, ho⟩ | ⟨nn, hm⟩
    · exact Nat.ne_of_lt (Nat.lt_of_lt_of_le (Heap.lt_size ho) F.above)
    · exact (N _ (hn _ (hm c₀))).2.1
  refine for_core Led ps P c₀ W ?_ ?_ ⟨⟨_, Heap.get?_push_size _ rfl, rfl, rfl⟩, hls.at fun o e => Heap.get?_push_of_some _ e⟩ ?_ (fun p hp => Nat.ne_of_lt (Heap.lt_size (N p hp).1)) ?_ (F.push _) (fun p hp => ⟨Heap.get?_push_of_some _ (N p hp).1, (N p hp).2⟩) hk hn hp ?_ ?_
  · intro hm
    rcases List.mem_cons.mp hm with e | hm
    · exact absurd F.ns.lt (e ▸ Nat.lt_irrefl _)
    · exact hnl (List.mem_singleton.mp hm).symm
  · exact next_is_new F
  · rintro i h ⟨⟨o, ho, _, _⟩, _⟩
    exact ⟨o, ho⟩
  · intro b hb hne' hno
    rcases List.mem_cons.mp hb with e | hb
    · exact absurd e hne'
    · have e := List.mem_singleton.mp hb
      subst e
      rcases hl with ⟨o, ho⟩ | ⟨nn, hm⟩
      · rw [hno] at ho; cases ho
      · exact ⟨_, hm⟩
  · rintro i v c u h tk oI hi hv hP F₁ N₁ hoff
    exact turn i v c u h tk _ oI (by simpa using hv) hP F₁ N₁ hoff
  · intro c u h tk hP F₁ N₁
    exact done c u h tk (by simpa using hP) F₁ N₁
end
end Mine

namespace Mine
set_option maxRecDepth 100000
set_option maxHeartbeats 8000000
section
variable {σ : Type} {prog : Program} {w : World} {A : Around} {E : Value → Shared → Prop} {Q : Flow → Shared → Prop} {s : Shared} {env : Env} {h₀ : Heap} {target : PySem.Expr} {body : List Stmt} {m₀ : Str → Option Value} {led : List (Addr × Obj)}

/-- a for over a list, any target -/
theorem my_listT {l : Addr} {vs : List Value} (Led : σ → List (Addr × Obj)) (ps : σ → List (Str × Value)) (P : Nat → σ → Prop) (c₀ : σ)
    (hh : A.handled = none) (hl : (∃ o, h₀.get? l = some o) ∨ ∃ nn, ∀ c, (l, listOf vs.toArray nn) ∈ Led c) (hls : s.heap.IsList l vs.toArray)
    (F : Fr h₀ env.locals s.heap m₀) (N : News h₀ env.locals s.heap led) (hk : ∀ p ∈ ps c₀, m₀ p.1 = some p.2) (hn : ∀ p ∈ Led c₀, p ∈ led) (hp : P 0 c₀)
    (turn : ∀ i v (c : σ) (u : Str → Option Value) h tk I oI, vs[i]? = some v → P i c → Fr h₀ env.locals h (kstB u (ps c)) → News h₀ env.locals h ((I, oI) :: Led c) → (∀ p ∈ Led c, p.1 ≠ I) →
      wpAny (model prog w) A (assign target env v) (fun _ s₃ => wpAny (model prog w) A (execs body env) (FPost h₀ env.locals { s with heap := h, toks := tk } I oI Led ps P Q i) E s₃) E { s with heap := h, toks := tk })
    (done : ∀ (c : σ) (u : Str → Option Value) h tk, P vs.length c → Fr h₀ env.locals h (kstB u (ps c)) → News h₀ env.locals h (Led c) → Q .next { s with heap := h, toks := tk }) :
    wpAny (model prog w) A (pyIter (.ref l)) (fun it s₂ => TurnsAt prog w A h₀ env target body Q E it s₂) E s := by
  obtain ⟨ol, hol, _⟩ := id hls
  have hlt : l < s.heap.objs.size := Heap.lt_size hol
  have hne : l ≠ s.heap.objs.size := Nat.ne_of_lt hlt
  refine wpAny_pyIter_list hls ?_
  have W := KTurns.ofWalks (target := target) (Walks.list (prog := prog) (w := w) hh s.heap.objs.size l hne vs.toArray) fun i v s Q E st q => letGo_listiter st.1 q
  have hnl : l ≠ env.locals := by
    rcases hl with ⟨o, ho⟩ | ⟨nn, hm⟩
    · exact Nat.ne_of_lt (Nat.lt_of_lt_of_le (Heap.lt_size ho) F.above)
    · exact (N _ (hn _ (hm c₀))).2.1
  generalize eI : s.heap.objs.size = I at W hne hlt
  let St : Nat → Heap → Prop := fun i h => h.IsListIter I l i ∧ h.IsList l vs.toArray
  let s' : Shared := { s with heap := s.heap.push { cls := .type "list_iterator", data := .fields #[.ref l, .int 0 0] } }
  have hst : St 0 s'.heap := ⟨⟨_, eI ▸ Heap.get?_push_size _ rfl, rfl, rfl⟩, hls.at fun o e => Heap.get?_push_of_some _ e⟩
  have F' : Fr h₀ env.locals s'.heap m₀ := F.push _
  have N' : News h₀ env.locals s'.heap (Led c₀) := fun p hp => ⟨Heap.get?_push_of_some _ (N p (hn p hp)).1, (N p (hn p hp)).2⟩
  have hI : h₀.get? I = none := eI ▸ next_is_new F
  have hst' : ∀ i h, St i h → ∃ o, h.get? I = some o := by
    rintro i h ⟨⟨o, ho, _, _⟩, _⟩
    exact ⟨o, ho⟩
  have h0I : ∀ p ∈ led, p.1 ≠ I := fun p hp => Nat.ne_of_lt (eI ▸ Heap.lt_size (N p hp).1)
  have hfp : ∀ b, b ∈ [I, l] → b ≠ I → h₀.get? b = none → ∃ o, ∀ c, (b, o) ∈ Led c := by
    intro b hb hne' hno
    rcases List.mem_cons.mp hb with e | hb
    · exact absurd e hne'
    · have e := List.mem_singleton.mp hb
      subst e
      rcases hl with ⟨o, ho⟩ | ⟨nn, hm⟩
      · rw [hno] at ho; cases ho
      · exact ⟨_, hm⟩
  have hLf : env.locals ∉ [I, l] := by
    intro hm
    rcases List.mem_cons.mp hm with e | hm
    · exact absurd F.ns.lt (e ▸ eI ▸ Nat.lt_irrefl _)
    · exact hnl (List.mem_singleton.mp hm).symm
  refine ⟨I, [I, l], [I], vs.toArray.size, _, _, St, m₀, Led c₀, fun i m nx => ∃ c, nx = Led c ∧ (∀ p ∈ ps c, m p.1 = some p.2) ∧ P i c, rfl, W, hLf, (fun b hb => by rw [List.mem_singleton.mp hb]; exact hI), (fun p hp' hb => h0I p (hn p hp') (List.mem_singleton.mp hb)), hst, F', N', ⟨c₀, rfl, hk, hp⟩, ?_, ?_⟩
  · rintro i v m₁ news₁ hh tk own hin hP ⟨c, rfl, h1, hp'⟩ hoff hown hget hall hst₁ F₁ N₁
    obtain ⟨oI, hoI⟩ := hst' _ _ hst₁
    have hIo : (I, oI) ∈ own := hall I (W.sub I (.head _)) hI oI hoI
    have NI : News h₀ env.locals hh ((I, oI) :: Led c) := fun p hq => by
      rcases List.mem_cons.mp hq with rfl | hq
      · exact N₁ _ (List.mem_append_left _ hIo)
      · exact N₁ p (List.mem_append_right _ hq)
    have hoffI : ∀ p ∈ Led c, p.1 ≠ I := fun p hp hb => hoff p hp (by rw [hb]; exact .head _)
    refine wpAny_mono (turn i v c m₁ hh tk I oI (by simpa using hP) hp' (fr_known h1 F₁) NI hoffI) (fun _ s₃ q => wpAny_mono q (fun f s₂ q => ?_) fun _ _ e => e) fun _ _ e => e
    have fin : FEnd h₀ env.locals { s with heap := hh, toks := tk } I oI Led ps P i s₂ → LoopStepU h₀ env.locals [I] own (fun m nx => ∃ c, nx = Led c ∧ (∀ p ∈ ps c, m p.1 = some p.2) ∧ P (i + 1) c) { s with heap := hh, toks := tk } .next s₂ := by
      rintro ⟨c', h', tk', m', news', rfl, F', N', hn', hk', hoff9, hp9⟩
      have NL : News h₀ env.locals h' (Led c') := fun p hp => N' p (hn' p (.tail _ hp))
      have hII := N' _ (hn' _ (.head _))
      refine ⟨rfl, h', tk', m', Led c', rfl, F', fun p hp => ?_, fun p hp hb => ?_, c', rfl, hk', hp9⟩
      · rcases List.mem_append.mp hp with ho | hl
        · by_cases e : p.1 = I
          · have e2 : p.2 = oI := by
              have := hget p ho
              rw [e, hoI] at this
              exact (Option.some.inj this).symm
            have : p = (I, oI) := by rw [← e, ← e2]
            rw [this]; exact hII
          · have hpn : h₀.get? p.1 = none := (N₁ p (List.mem_append_left _ ho)).2.2
            obtain ⟨o, hoL⟩ := hfp p.1 (hown p ho) e hpn
            have e3 : o = p.2 := by
              have := (N₁ _ (List.mem_append_right _ (hoL c))).1
              rw [hget p ho] at this
              exact (Option.some.inj this).symm
            have : p = (p.1, o) := by rw [e3]
            rw [this]; exact NL _ (hoL c')
        · exact NL p hl
      · exact hoff9 p hp (List.mem_singleton.mp hb)
    cases f with
    | ret v => exact .ret q
    | brk => exact .brk q
    | next => exact .next (fin q)
    | cont => exact .cont (fin q)
  · rintro h' tk m' news' F' N' _ ⟨c, rfl, hk', hp'⟩
    exact done c m' h' tk (by simpa using hp') (fr_known hk' F') N'
end
end Mine

namespace Mine
set_option maxRecDepth 100000

/-- the signs that the law draws, the marks of runs, the row's end -/
def goods : List Nat := [97, 90, 55, 233, 1078, 20013, 1635, 32, 9, 160, 8195, 46, 33, 40, 34, 92, 8212, 8364, 169, 65532, 42, 95, 10]
abbrev good (c : Nat) : Prop := c ∈ goods
abbrev goodT (x : Str) : Prop := ∀ c ∈ x.cps, good c
def chr (c : Nat) : Str := ⟨#[c]⟩
def star (c : Nat) : Bool := c == 42 || c == 95
def isN (c : Nat) : Bool := [97, 90, 55, 233, 1078, 20013, 1635].contains c
def isW (c : Nat) : Bool := [32, 9, 160, 8195, 10].contains c
def isP (c : Nat) : Bool := !isN c && !isW c
/-- what _law_kind tells -/
def kindS (c : Nat) : Str := if isN c then Str.ofString "n" else if isW c then Str.ofString "w" else Str.ofString "p"
theorem all_goods {P : Nat → Prop} [DecidablePred P] (h : goods.all (fun c => decide (P c)) = true) : ∀ c, good c → P c := fun c hc => by
  simpa using List.all_eq_true.mp h c hc
theorem space_good : ∀ c, good c → Txt.isspace (chr c) = isW c := all_goods (by decide +kernel)
theorem alnum_good : ∀ c, good c → Txt.isalnum (chr c) = isN c := all_goods (by decide +kernel)
theorem kind_good : ∀ c, good c → isN c = true ∨ isW c = true ∨ isP c = true := all_goods (by decide +kernel)
theorem nw (c : Nat) : good c → ¬ (isN c = true ∧ isW c = true) := fun h => by
  have := all_goods (P := fun c => ¬ (isN c = true ∧ isW c = true)) (by decide +kernel) c h
  exact this

/-- the sign at a place -/
def atC (x : Str) (k : Nat) : Nat := x.cps.getD k 0
theorem item_at {x : Str} {i : Int} (h0 : 0 ≤ i) (h1 : i < x.length) : Txt.item x i = chr (atC x i.toNat) := by
  obtain ⟨k, rfl⟩ := Int.eq_ofNat_of_zero_le h0
  have hk : k < x.cps.size := by
    have : (k : Int) < (x.cps.size : Int) := h1
    omega
  unfold Txt.item Txt.charAt chr atC
  congr 2
  have e : seqIndex? (k : Int) x.length = some k := by
    unfold seqIndex?
    have : (k : Int) < (x.length : Int) := h1
    simp
    omega
  rw [e]
  simp [hk]
theorem good_at {x : Str} {k : Nat} (hx : goodT x) (h : k < x.length) : good (atC x k) := by
  have hk : k < x.cps.size := h
  unfold atC
  rw [Array.getD_eq_getD_getElem?]
  simp [hk]
  exact hx _ (by simp)

/-- the place where a stretch of signs with f ends -/
def spanEnd (f : Nat → Bool) (x : Str) (p : Nat) : Nat := p + ((x.cps.toList.drop p).takeWhile f).length
theorem drop_at {x : Str} {p : Nat} (h : p < x.length) : x.cps.toList.drop p = atC x p :: x.cps.toList.drop (p + 1) := by
  have hk : p < x.cps.toList.length := by
    have h' : p < x.cps.size := h
    simpa using h'
  rw [List.drop_eq_getElem_cons hk]
  unfold atC
  rw [Array.getD_eq_getD_getElem?]
  simp at hk
  simp [hk]
theorem span_step {f : Nat → Bool} {x : Str} {p : Nat} (h : p < x.length) (hf : f (atC x p) = true) : spanEnd f x p = spanEnd f x (p + 1) := by
  unfold spanEnd
  rw [drop_at h, List.takeWhile_cons, if_pos hf]
  simp
  omega
theorem span_stop {f : Nat → Bool} {x : Str} {p : Nat} (h : p < x.length → f (atC x p) = false) : spanEnd f x p = p := by
  unfold spanEnd
  by_cases hp : p < x.length
  · rw [drop_at hp, List.takeWhile_cons, h hp]
    simp
  · have : x.cps.toList.length ≤ p := by
      have : ¬ p < x.cps.size := hp
      simpa using this
    rw [List.drop_of_length_le this]
    simp
theorem span_ge (f : Nat → Bool) (x : Str) (p : Nat) : p ≤ spanEnd f x p := Nat.le_add_right _ _
theorem span_le {f : Nat → Bool} {x : Str} {p : Nat} (h : p ≤ x.length) : spanEnd f x p ≤ x.length := by
  unfold spanEnd
  have h1 := (List.takeWhile_sublist (l := x.cps.toList.drop p) f).length_le
  have h2 : x.cps.toList.length = x.length := by simp [Str.length]
  rw [List.length_drop, h2] at h1
  omega
theorem span_in {f : Nat → Bool} {x : Str} : ∀ {n p q : Nat}, q - p = n → p ≤ q → q < spanEnd f x p → p ≤ x.length → f (atC x q) = true := by
  intro n
  induction n with
  | zero =>
    intro p q hn hpq hq hp
    have e : q = p := by omega
    subst e
    by_cases hl : q < x.length
    · cases h : f (atC x q) with
      | true => rfl
      | false => rw [span_stop (fun _ => h)] at hq; omega
    · rw [span_stop (fun h => absurd h hl)] at hq; omega
  | succ n ih =>
    intro p q hn hpq hq hp
    by_cases hl : p < x.length
    · cases h : f (atC x p) with
      | true => rw [span_step hl h] at hq; exact ih (p := p + 1) (by omega) (by omega) hq (by omega)
      | false => rw [span_stop (fun _ => h)] at hq; omega
    · rw [span_stop (fun h => absurd h hl)] at hq; omega
abbrev plain (c : Nat) : Bool := !star c

/-- the signs before and behind a run; the row's ends count as a line's end -/
def beforeC (x : Str) (i : Int) : Nat := if 0 < i then atC x (i - 1).toNat else 10
def afterC (x : Str) (i : Int) : Nat := if i < x.length then atC x i.toNat else 10
def leftF (b a : Nat) : Bool := !isW a && (!isP a || isW b || isP b)
def rightF (b a : Nat) : Bool := !isW b && (!isP b || isW a || isP a)
def openF (mk b a : Nat) : Bool := leftF b a && (mk == 42 || !rightF b a || isP b)
def closeF (mk b a : Nat) : Bool := rightF b a && (mk == 42 || !leftF b a || isP a)
def isM (c : Nat) : Prop := c = 42 ∨ c = 95
theorem before_pos {x : Str} {i : Int} (h : 0 < i) : beforeC x i = atC x (i - 1).toNat := if_pos h
theorem before_neg {x : Str} {i : Int} (h : ¬ 0 < i) : beforeC x i = 10 := if_neg h
theorem after_pos {x : Str} {i : Int} (h : i < x.length) : afterC x i = atC x i.toNat := if_pos h
theorem after_neg {x : Str} {i : Int} (h : ¬ i < x.length) : afterC x i = 10 := if_neg h
theorem chr_us (c : Nat) : (chr c == Str.ofString "_") = (c == 95) := by
  rw [show Str.ofString "_" = chr 95 from by decide +kernel, Bool.eq_iff_iff]
  simp [chr]
theorem w10 : isW 10 = true := by decide
theorem n10 : isN 10 = false := by decide
theorem p10 : isP 10 = false := by decide
theorem kind_p : ∀ c, good c → (kindS c == Str.ofString "p") = isP c := all_goods (by decide +kernel)
theorem kind_w : ∀ c, good c → (kindS c == Str.ofString "w") = isW c := all_goods (by decide +kernel)
theorem ww : (Str.ofString "w" == Str.ofString "w") = true := by decide +kernel
theorem wp : (Str.ofString "w" == Str.ofString "p") = false := by decide +kernel
theorem chr_st (c : Nat) : (chr c == Str.ofString "*") = (c == 42) := by
  rw [show Str.ofString "*" = chr 42 from by decide +kernel, Bool.eq_iff_iff]
  simp [chr]
theorem open_eq {mk b a : Nat} {r : Bool} (hm : isM mk) (hb : good b) (ha : good a)
    (h : r = if (mk == 95) && isN b && isN a then false else if isW a then false else if isP a && !isW b && !isP b then false else true) : r = openF mk b a := by
  have nb := nw b hb
  have na := nw a ha
  subst h
  unfold openF leftF rightF isP
  rcases hm with rfl | rfl <;> cases hb1 : isN b <;> cases hb2 : isW b <;> cases ha1 : isN a <;> cases ha2 : isW a <;> simp_all
theorem close_eq {mk b a : Nat} {r : Bool} (hm : isM mk) (hb : good b) (ha : good a)
    (h : r = if (mk == 95) && isN b && isN a then false else if isW b then false else if isP b && !isW a && !isP a then false else true) : r = closeF mk b a := by
  have nb := nw b hb
  have na := nw a ha
  subst h
  unfold closeF leftF rightF isP
  rcases hm with rfl | rfl <;> cases hb1 : isN b <;> cases hb2 : isW b <;> cases ha1 : isN a <;> cases ha2 : isW a <;> simp_all
theorem good_before {x : Str} {i : Int} (hx : goodT x) (h : i ≤ x.length) : good (beforeC x i) := by
  unfold beforeC
  split
  · exact good_at hx (by omega)
  · decide
theorem good_after {x : Str} {i : Int} (hx : goodT x) (h : 0 ≤ i) : good (afterC x i) := by
  unfold afterC
  split
  · exact good_at hx (by omega)
  · decide

def tabS : List (Str × Str) := [97, 90, 55, 233, 1078, 20013, 1635, 32, 9, 160, 8195, 32, 46, 33, 40, 34, 92, 8212, 8364, 169, 65532].map fun c => (chr c, kindS c)
def tabR : List Str := [⟨#[42]⟩, ⟨#[42, 42]⟩, ⟨#[42, 42, 42]⟩, ⟨#[95]⟩, ⟨#[95, 95]⟩]
def pieceOk (x : Str) : Prop := goodT x ∧ 1 ≤ x.length ∧ x.length ≤ 3
theorem tabS_ok {i : Nat} {x k : Str} (h : tabS[i]? = some (x, k)) : pieceOk x := by
  have := List.mem_of_getElem? h
  have q : ∀ p ∈ tabS, goodT p.1 ∧ 1 ≤ p.1.length ∧ p.1.length ≤ 3 := by decide +kernel
  exact q _ this
theorem tabR_ok {i : Nat} {x : Str} (h : tabR[i]? = some x) : pieceOk x := by
  have := List.mem_of_getElem? h
  have q : ∀ p ∈ tabR, goodT p ∧ 1 ≤ p.length ∧ p.length ≤ 3 := by decide +kernel
  exact q _ this
theorem good_append {x y : Str} (hx : goodT x) (hy : goodT y) : goodT (x ++ y) := by
  intro c hc
  rw [Str.cps_append] at hc
  rcases Array.mem_append.mp hc with h | h
  · exact hx c h
  · exact hy c h
end Mine

namespace Mine
set_option maxRecDepth 100000
/-- the texts one behind the other -/
def cat : List Str → Str
  | [] => Str.ofString ""
  | x :: r => x ++ cat r
theorem str_append_nil (x : Str) : x ++ Str.ofString "" = x := by
  apply Str.ext'
  rw [Str.cps_append, show (Str.ofString "").cps = #[] from by decide +kernel]
  simp
theorem str_nil_append (x : Str) : Str.ofString "" ++ x = x := by
  apply Str.ext'
  rw [Str.cps_append, show (Str.ofString "").cps = #[] from by decide +kernel]
  simp
theorem cat_snoc (xs : List Str) (y : Str) : cat (xs ++ [y]) = cat xs ++ y := by
  induction xs with
  | nil => show y ++ Str.ofString "" = Str.ofString "" ++ y; rw [str_append_nil, str_nil_append]
  | cons x r ih => show x ++ cat (r ++ [y]) = (x ++ cat r) ++ y; rw [ih, Str.append_assoc]
theorem foldl_cat (r : List Str) (a : Array Nat) : r.foldl (fun acc p => acc ++ (Str.ofString "").cps ++ p.cps) a = a ++ (cat r).cps := by
  induction r generalizing a with
  | nil => simp [cat, show (Str.ofString "").cps = #[] from by decide +kernel]
  | cons x r ih =>
    rw [List.foldl_cons, ih, cat, Str.cps_append, show (Str.ofString "").cps = #[] from by decide +kernel]
    simp
theorem join_cat (xs : List Str) : Txt.join (Str.ofString "") xs = cat xs := by
  show Builtin.Str.glued _ _ = _
  cases xs with
  | nil => decide +kernel
  | cons x r =>
    unfold Builtin.Str.glued
    apply Str.ext'
    show (List.foldl _ x.cps r) = _
    rw [foldl_cat, cat, Str.cps_append]
theorem cat_len (xs : List Str) : (cat xs).length = (xs.map (·.length)).sum := by
  induction xs with
  | nil => decide +kernel
  | cons x r ih => rw [cat, Str.length_append, ih]; simp
theorem cat_good {xs : List Str} (h : ∀ x ∈ xs, goodT x) : goodT (cat xs) := by
  induction xs with
  | nil => intro c hc; exact absurd hc (by simp [cat, show (Str.ofString "").cps = #[] from by decide +kernel])
  | cons x r ih => exact good_append (h x (.head _)) (ih fun y hy => h y (.tail _ hy))
theorem cat_bound {xs : List Str} {n : Nat} (h : ∀ x ∈ xs, x.length ≤ n) : (cat xs).length ≤ n * xs.length := by
  rw [cat_len]
  induction xs with
  | nil => simp
  | cons x r ih =>
    have h1 := h x (.head _)
    have h2 := ih fun y hy => h y (.tail _ hy)
    rw [List.map_cons, List.sum_cons, List.length_cons, Nat.mul_succ]
    omega

/-- the tokens of a row -/
inductive Tk
  | live (x : Str)
  | dead (x : Str)
  | soft
  | brk
  | code
  | link
def Tk.type : Tk → Str
  | .live _ => Str.ofString "text"
  | .dead _ => Str.ofString "text"
  | .soft => Str.ofString "softbreak"
  | .brk => Str.ofString "linebreak"
  | .code => Str.ofString "codespan"
  | .link => Str.ofString "link"
def Tk.ok : Tk → Prop
  | .live x => goodT x ∧ 1 ≤ x.length ∧ x.length ≤ 18
  | .dead x => goodT x ∧ 1 ≤ x.length ∧ x.length ≤ 18
  | _ => True
def Tk.isText : Tk → Bool
  | .live _ => true
  | .dead _ => true
  | _ => false
def Tk.isBreak : Tk → Bool
  | .soft => true
  | .brk => true
  | _ => false
def Tk.isLive : Tk → Bool
  | .live _ => true
  | _ => false
def Tk.raw : Tk → Str
  | .live x => x
  | .dead x => x
  | _ => Str.ofString ""
def Tk.src (k : Tk) : Str := if k.isText then k.raw else if k.isBreak then Str.ofString "\n" else chr 65532
theorem type_text (k : Tk) : (k.type == Str.ofString "text") = k.isText := by cases k <;> first | decide +kernel | (dsimp only [Tk.type, Tk.isText, Tk.isBreak]; decide +kernel)
theorem type_code (k : Tk) : ((k.type == Str.ofString "codespan") || (k.type == Str.ofString "link")) = (!k.isText && !k.isBreak) := by cases k <;> first | decide +kernel | (dsimp only [Tk.type, Tk.isText, Tk.isBreak]; decide +kernel)
theorem type_brk (k : Tk) : ([Str.ofString "softbreak", Str.ofString "linebreak"].any (· == k.type)) = k.isBreak := by cases k <;> first | decide +kernel | (dsimp only [Tk.type, Tk.isText, Tk.isBreak]; decide +kernel)
theorem src_ok {k : Tk} (h : k.ok) : goodT k.src ∧ 1 ≤ k.src.length ∧ k.src.length ≤ 18 := by
  cases k with
  | live x => exact h
  | dead x => exact h
  | soft => decide +kernel
  | brk => decide +kernel
  | code => decide +kernel
  | link => decide +kernel
def srcOf (ks : List Tk) : Str := cat (ks.map Tk.src)
theorem srcOf_ok {ks : List Tk} (h : ∀ k ∈ ks, k.ok) (h1 : 1 ≤ ks.length) (h6 : ks.length ≤ 6) : goodT (srcOf ks) ∧ 1 ≤ (srcOf ks).length ∧ (srcOf ks).length ≤ 108 := by
  refine ⟨cat_good fun x hx => ?_, ?_, ?_⟩
  · obtain ⟨k, hk, rfl⟩ := List.mem_map.mp hx
    exact (src_ok (h k hk)).1
  · cases ks with
    | nil => simp at h1
    | cons k r =>
      show 1 ≤ (k.src ++ cat (r.map Tk.src)).length
      rw [Str.length_append]
      have := (src_ok (h k (.head _))).2.1
      omega
  · have := cat_bound (xs := ks.map Tk.src) (n := 18) fun x hx => by
      obtain ⟨k, hk, rfl⟩ := List.mem_map.mp hx
      exact (src_ok (h k hk)).2.2
    rw [List.length_map] at this
    unfold srcOf
    omega
end Mine

namespace Mine
set_option maxRecDepth 100000
/-- a delimiter: place of its part, sign, length, both flags, number -/
structure Row where
  idx : Int
  mark : Nat
  len : Int
  o : Bool
  c : Bool
  ord : Int
structure CSt where
  p : Int
  segs : List Str
  rows : List Row
def same (a c : Nat) : Bool := c == a
/-- where the part that begins at p ends -/
def cutEnd (x : Str) (p : Int) : Int := if star (atC x p.toNat) then (spanEnd (same (atC x p.toNat)) x p.toNat : Nat) else (spanEnd plain x p.toNat : Nat)
/-- the row of the run that begins at p -/
def cutRow (x S : Str) (st np nr : Int) (c : CSt) : List Row :=
  let mk := atC x c.p.toNat
  let o := openF mk (beforeC S (st + c.p)) (afterC S (st + c.p + (cutEnd x c.p - c.p)))
  let k := closeF mk (beforeC S (st + c.p)) (afterC S (st + c.p + (cutEnd x c.p - c.p)))
  if star mk && (o || k) then [⟨np + c.segs.length, mk, cutEnd x c.p - c.p, o, k, nr + c.rows.length⟩] else []
def stepC (x S : Str) (st np nr : Int) (c : CSt) : CSt :=
  if c.p < x.length then ⟨cutEnd x c.p, c.segs ++ [Txt.slice x (some c.p) (some (cutEnd x c.p))], c.rows ++ cutRow x S st np nr c⟩ else c
def iterC (x S : Str) (st np nr : Int) : Nat → CSt
  | 0 => ⟨0, [], []⟩
  | n + 1 => stepC x S st np nr (iterC x S st np nr n)
theorem iter_stays {x S : Str} {st np nr : Int} {i : Nat} (h : ¬ (iterC x S st np nr i).p < x.length) : ∀ j, iterC x S st np nr (i + j) = iterC x S st np nr i := by
  intro j
  induction j with
  | zero => rfl
  | succ j ih =>
    show stepC x S st np nr (iterC x S st np nr (i + j)) = _
    rw [ih, stepC, if_neg h]
theorem iter_one {x S : Str} {st np nr : Int} {i j : Nat} (hi : ¬ (iterC x S st np nr i).p < x.length) (hj : ¬ (iterC x S st np nr j).p < x.length) : iterC x S st np nr i = iterC x S st np nr j := by
  rcases Nat.le_total i j with h | h
  · obtain ⟨d, rfl⟩ := Nat.exists_eq_add_of_le h
    exact (iter_stays hi d).symm
  · obtain ⟨d, rfl⟩ := Nat.exists_eq_add_of_le h
    exact iter_stays hj d
theorem cutEnd_gt {x : Str} {p : Int} (h0 : 0 ≤ p) (h : p < x.length) : p < cutEnd x p := by
  have hk : p.toNat < x.length := by omega
  unfold cutEnd
  split
  · rw [span_step hk (by simp [same])]
    have := span_ge (same (atC x p.toNat)) x (p.toNat + 1)
    omega
  · rename_i hs
    rw [span_step hk (by simp [plain, hs])]
    have := span_ge plain x (p.toNat + 1)
    omega
theorem cutEnd_le {x : Str} {p : Int} (h0 : 0 ≤ p) (h : p < x.length) : cutEnd x p ≤ x.length := by
  have hk : p.toNat ≤ x.length := by omega
  unfold cutEnd
  split
  · have := span_le (f := same (atC x p.toNat)) hk
    omega
  · have := span_le (f := plain) hk
    omega
theorem cutEnd_star {x : Str} {p : Int} (h : star (atC x p.toNat) = true) : cutEnd x p = (spanEnd (same (atC x p.toNat)) x p.toNat : Nat) := by unfold cutEnd; rw [if_pos h]
theorem cutEnd_plain {x : Str} {p : Int} (h : star (atC x p.toNat) = false) : cutEnd x p = (spanEnd plain x p.toNat : Nat) := by unfold cutEnd; rw [if_neg (by rw [h]; exact Bool.false_ne_true)]
/-- one step of a scan -/
theorem scan_step {f : Nat → Bool} {x : Str} {p j : Int} (g0 : p ≤ j) (hp : 0 ≤ p) (g : j < x.length) (g2 : spanEnd f x j.toNat = spanEnd f x p.toNat) (h : f (atC x j.toNat) = true) : spanEnd f x (j + 1).toNat = spanEnd f x p.toNat := by
  have e : (j + 1).toNat = j.toNat + 1 := by omega
  rw [← g2, e]
  exact (span_step (by omega) h).symm
theorem scan_stop {f : Nat → Bool} {x : Str} {p j : Int} (g0 : p ≤ j) (hp : 0 ≤ p) (g2 : spanEnd f x j.toNat = spanEnd f x p.toNat) (h : j < x.length → f (atC x j.toNat) = false) : j = (spanEnd f x p.toNat : Nat) := by
  rw [← g2, span_stop fun h' => h (by omega)]
  omega
theorem star_mk {c : Nat} (h : star c = true) : isM c := by
  unfold star at h
  unfold isM
  simpa using h
end Mine

namespace Mine
set_option maxRecDepth 100000
set_option maxHeartbeats 8000000

section
variable {w : World} {mean : ExcName → Option Value} {mg mb : Str → Option Value} {dp un : Nat} {gd : Option (List Code)} {cn : Str} {cs : Scope} {a : Addr} {ccd : Value} {cl : List (Str × Addr)} {outer : List Env} {A₀ : Around} {base h₀ : Heap} {L : Addr} {m : Str → Option Value} {s : Shared} {news : List (Addr × Obj)} {Q E : Value → Shared → Prop}

local macro_rules | `(tactic| k_all) => `(tactic| with_reducible assumption)
local macro_rules | `(tactic| size_fits) => `(tactic| first | (with_reducible assumption) | (rw [sizeLine_eq]; omega))
abbrev boxO (l : Addr) (p q : Int) (t1 t2 : Tok) (n : Nat) : Obj := listOf #[.ref l, .int p t1, .int q t2] n

theorem draw_fin {bx l : Addr} {p X k : Int} {tv t1' t2' : Tok} {n : Nat} {g : Obj → List (Addr × Obj)} {pre post : List (Addr × Obj)} {h' : Heap} {tk' : Nat} (hk0 : 1 ≤ k)
  (ret : ∀ v q' tv t1' t2' h' tk', 0 ≤ v → v < k → 0 ≤ q' → q' < 2147483647 → Fr h₀ L h' m → News h₀ L h' (g (boxO l (p + 1) q' t1' t2' n)) → Q (.int v tv) { s with heap := h', toks := tk' })
  (eg : ∀ o', g o' = pre ++ (bx, o') :: post) (F : Fr h₀ L h' m) (N : News h₀ L h' ((bx, boxO l (p + 1) (X.fmod 2147483647) t1' t2' n) :: (pre ++ post))) :
  Q (.int (((X.fmod 2147483647).fdiv 8).fmod k) tv) { s with heap := h', toks := tk' } :=
  ret _ (X.fmod 2147483647) tv t1' t2' h' tk' (fmod_lo _ (by omega)) (fmod_hi _ (by omega)) (fmod_lo _ (by omega)) (fmod_hi _ (by omega)) F (by rw [eg]; exact news_sub N (by simp; grind))

theorem c_draw {bx l : Addr} {vs : List Value} {ns : List Int} {p q k : Int} {t1 t2 t3 : Tok} {n : Nat} {g : Obj → List (Addr × Obj)} 
  (B : Below A₀ base outer h₀) (F : Fr h₀ L s.heap m) (X : (hd.heap_39 w.params).In h₀) (N : News h₀ L s.heap news) (T : Top hd.view_39 (looseW hd.view_39 [Str.ofString "_Delimiter"]) mean mg mb h₀) (hk : cs.kind = .function)
  (hl : base.IsList l vs.toArray) (hi : IntsAre vs ns) (hlen : ns.length ≤ 63)
  (U : UpdF bx (boxO l p q t1 t2 n) news g) (hp0 : 0 ≤ p) (hp1 : p < 2 ^ 40) (hq0 : 0 ≤ q) (hq1 : q < 2147483647) (hk0 : 1 ≤ k) (hk1 : k < 2 ^ 20)
  (hd : dp + 1 < recursionLimit) (hu : un + 8 < cLine)
  (ret : ∀ v q' tv t1' t2' h' tk', 0 ≤ v → v < k → 0 ≤ q' → q' < 2147483647 → Fr h₀ L h' m → News h₀ L h' (g (boxO l (p + 1) q' t1' t2' n)) → Q (.int v tv) { s with heap := h', toks := tk' }) :
  wpAny (model PySem.Challenge.rw_fe5002_01.row.prog w) (ktrTop dp un gd cn cs L a ccd cl outer) (call (.ref 146) [.ref bx, .int k t3]) Q E s := by
  obtain ⟨pre, post, rfl, eg, hA, hB⟩ := U.split
  have N1 : News h₀ L s.heap ((bx, boxO l p q t1 t2 n) :: (pre ++ post)) := news_sub N (by simp; grind)
  have hoff : ∀ z ∈ pre ++ post, z.1 ≠ bx := by intro z hz; rcases List.mem_append.mp hz with h | h; exact hA z h; exact hB z h
  clear N U
  w_top off
  revert X; k_fill; intro X
  refine wpAny_call ?_
  k_dflt cell_enter
  k_steps
  all_goals (refine' draw_fin hk0 ret eg ?fF ?fN; (case fF => k_asm); (case fN => k_asm))
end
end Mine

namespace Mine
set_option maxRecDepth 100000
set_option maxHeartbeats 8000000

section
variable {prog : Program} {w : World} {A : Around} {E : Value → Shared → Prop} {s : Shared} {x : Str} {t u : Tok} {i : Int}
theorem my_item {value slice : PySem.Expr} {Q : Value → Shared → Prop} (hx : x.length ≤ 1000) (h0 : 0 ≤ i) (h1 : i < x.length) (h : ∀ u, Q (.str (chr (atC x i.toNat)) u) { s with toks := s.toks + 1 })
    (hs : subscripted slice false (.str x t) (.int i u) = operate [.str x t, .int i u] (getItem (.str x t) (.int i u)) := by with_unfolding_all rfl)
    (ht : ∀ r, letTemporaryGo value (.str x t) r = pure () := by intro _; with_unfolding_all rfl) :
    wpAny (model prog w) A (subscriptTail value slice (.str x t) (.int i u)) Q E s :=
  item_str (fitsSsize_of (N := 9223372036854775808) (by omega) (by omega) (Int.le_refl _)) (by omega) h1 (fun _ => item_at h0 h1 ▸ h _) hs ht
theorem my_isspace {c : Nat} {Q : Value → Shared → Prop} (hc : good c) (h : Q (.bool (isW c)) s) : wpAny (model prog w) A (call (.builtin "str.isspace") [.str (chr c) t]) Q E s := SC.isspace (by rw [space_good c hc]; exact h)
theorem my_isalnum {c : Nat} {Q : Value → Shared → Prop} (hc : good c) (h : Q (.bool (isN c)) s) : wpAny (model prog w) A (call (.builtin "str.isalnum") [.str (chr c) t]) Q E s := SC.isalnum (by rw [alnum_good c hc]; exact h)
theorem nl_chr : Str.ofString "\n" = chr 10 := by decide +kernel
theorem my_notin {c : Nat} {Q : Value → Shared → Prop} (h : Q (.bool (!star c)) s) : wpAny (model prog w) A (compareOp .NotIn (.str (chr c) u) (.str (Str.ofString "*_") t)) Q E s :=
  notIn_str (by
    have e : (!(Builtin.Str.occurrences (Str.ofString "*_") (chr c) 0 (Str.ofString "*_").length 1).isEmpty) = star c := by
      have := StrLaws.found_one (Str.ofString "*_") c
      unfold chr
      rw [this, show (Str.ofString "*_").cps.toList = [42, 95] from by decide +kernel]
      unfold star
      rw [Bool.eq_iff_iff]
      simp
    rw [e]; exact h)
end

local macro_rules | `(tactic| walk_at "subscriptTail Name Name str int") => `(tactic| ((with_reducible show wpAny _ _ (subscriptTail _ _ (Value.str _ _) (Value.int _ _)) _ _ _); (refine my_item (by omega) (by omega) (by omega) ?_); intro u9))
local macro_rules | `(tactic| walk_at "subscriptTail Name BinOp str int") => `(tactic| ((with_reducible show wpAny _ _ (subscriptTail _ _ (Value.str _ _) (Value.int _ _)) _ _ _); (refine my_item (by omega) (by omega) (by omega) ?_); intro u9))
local macro_rules | `(tactic| walk_at "compareOp NotIn str str") => `(tactic| ((with_reducible refine my_notin ?_)))
local macro_rules | `(tactic| walk_at "exec While") => `(tactic| (refine Stop.out ?_))
local macro_rules | `(tactic| walk_at "WOut") => `(tactic| (refine' wout ?F ?N ?hs ?hk ?hn ?_; (case hs => with_unfolding_all rfl); (case F => k_asm); (case N => k_asm); (case hk => kst_all); (case hn => exact fun _ h => h)))

section
variable {w : World} {mean : ExcName → Option Value} {mg mb : Str → Option Value} {dp un : Nat} {gd : Option (List Code)} {cn : Str} {cs : Scope} {a : Addr} {ccd : Value} {cl : List (Str × Addr)} {outer : List Env} {A₀ : Around} {base h₀ : Heap} {L : Addr} {m : Str → Option Value} {s : Shared} {news : List (Addr × Obj)} {Q E : Value → Shared → Prop}

theorem c_next {x : Str} {t t' : Tok} {p : Int} (hx : x.length ≤ 1000) (hp0 : 0 ≤ p) (hp : p ≤ x.length)
  (B : Below A₀ base outer h₀) (F : Fr h₀ L s.heap m) (X : (hd.heap_39 w.params).In h₀) (N : News h₀ L s.heap news) (T : Top hd.view_39 (looseW hd.view_39 [Str.ofString "_Delimiter"]) mean mg mb h₀) (hk : cs.kind = .function)
  (hd : dp + 1 < recursionLimit) (hu : un + 8 < cLine)
  (ret : ∀ t'' h' tk', Fr h₀ L h' m → News h₀ L h' news → Q (.int (spanEnd plain x p.toNat) t'') { s with heap := h', toks := tk' }) :
  wpAny (model PySem.Challenge.rw_fe5002_01.row.prog w) (ktrTop dp un gd cn cs L a ccd cl outer) (call (.ref 104) [.str x t, .int p t']) Q E s := by
  w_top off
  revert X; k_fill; intro X
  refine wpAny_call ?_
  k_dflt cell_enter
  k_steps
  unfold Stop
  refine my_while (σ := Int × Nat) (fun _ => news) (fun c => [("text", .str x t), ("pos", .int c.1 c.2)]) (fun c => 0 ≤ c.1 ∧ c.1 ≤ x.length ∧ spanEnd plain x c.1.toNat = spanEnd plain x p.toNat) (fun c => 0 ≤ c.1 ∧ spanEnd plain x p.toNat = c.1.toNat) (fun c => x.length - c.1.toNat) (p, t') (by assumption) (by assumption) (by kst_all) (fun _ h => h) ⟨hp0, hp, rfl⟩ ?_ ?_
  · rintro ⟨k, tk1⟩ u h tk ⟨h0, h1, h2⟩ F1 N1
    dsimp only at h0 h1 h2
    k_steps
    · unfold Stop
      refine ⟨h0, ?_⟩
      rw [← h2]
      exact span_stop fun _ => by simp_all [plain]
    · refine' wend (_, _) ?F ?N ?hs ?hk ?hn ?_ ?_
      (case hs => with_unfolding_all rfl); (case F => k_asm); (case N => k_asm); (case hk => kst_all); (case hn => exact fun _ h => h)
      · have e : (k + 1).toNat = k.toNat + 1 := by omega
        refine ⟨by omega, by omega, ?_⟩
        rw [← h2, e]
        exact (span_step (by omega) (by simp_all [plain])).symm
      · show _ < _
        dsimp only
        omega
    · unfold Stop
      refine ⟨h0, ?_⟩
      rw [← h2]
      exact span_stop fun h => by omega
  · rintro ⟨k, tk1⟩ u h tk ⟨h0, h1⟩ F1 N1
    dsimp only at h0 h1
    k_steps
    have e : k = (spanEnd plain x p.toNat : Int) := by omega
    rw [e]
    exact ret _ _ _ (by k_asm) (by k_asm)
end
end Mine

namespace Mine
set_option maxRecDepth 100000
set_option maxHeartbeats 8000000

local macro_rules | `(tactic| walk_at "none of mine") => `(tactic| fail "none of mine")
local macro_rules | `(tactic| walk_at "subscriptTail Name Name str int") => `(tactic| ((with_reducible show wpAny _ _ (subscriptTail _ _ (Value.str _ _) (Value.int _ _)) _ _ _); (refine my_item (by omega) (by omega) (by omega) ?_); intro u9))
local macro_rules | `(tactic| walk_at "subscriptTail Name BinOp str int") => `(tactic| ((with_reducible show wpAny _ _ (subscriptTail _ _ (Value.str _ _) (Value.int _ _)) _ _ _); (refine my_item (by omega) (by omega) (by omega) ?_); intro u9))
local macro_rules | `(tactic| walk_at "compareOp NotIn str str") => `(tactic| ((with_reducible refine my_notin ?_)))
local macro_rules | `(tactic| walk_at "exec While") => `(tactic| (refine Stop.out ?_))
local macro_rules | `(tactic| walk_at "WOut") => `(tactic| (refine' wout ?F ?N ?hs ?hk ?hn ?_; (case hs => with_unfolding_all rfl); (case F => k_asm); (case N => k_asm); (case hk => kst_all); (case hn => exact fun _ h => h)))

section
variable {w : World} {mean : ExcName → Option Value} {mg mb : Str → Option Value} {dp un : Nat} {gd : Option (List Code)} {cn : Str} {cs : Scope} {a : Addr} {ccd : Value} {cl : List (Str × Addr)} {outer : List Env} {A₀ : Around} {base h₀ : Heap} {L : Addr} {m : Str → Option Value} {s : Shared} {news : List (Addr × Obj)} {Q E : Value → Shared → Prop}


abbrev pairO (x k : Str) (t1 t2 : Tok) (n : Nat) : Obj := { cls := .type "tuple", data := .seq #[.str x t1, .str k t2] n }
inductive SignsAre (tl : List (Addr × Obj)) : List Value → List (Str × Str) → Prop
  | nil : SignsAre tl [] []
  | cons {a : Addr} {x k : Str} {t1 t2 : Tok} {n : Nat} {vs : List Value} {tab : List (Str × Str)} : (a, pairO x k t1 t2 n) ∈ tl → SignsAre tl vs tab → SignsAre tl (.ref a :: vs) ((x, k) :: tab)
theorem SignsAre.len {tl : List (Addr × Obj)} {vs : List Value} {tab : List (Str × Str)} (h : SignsAre tl vs tab) : vs.length = tab.length := by
  induction h with
  | nil => rfl
  | cons _ _ ih => simp [ih]
theorem SignsAre.get {tl : List (Addr × Obj)} {vs : List Value} {tab : List (Str × Str)} (h : SignsAre tl vs tab) : ∀ {i : Nat} {v : Value}, vs[i]? = some v → ∃ a x k t1 t2 n, v = .ref a ∧ (a, pairO x k t1 t2 n) ∈ tl ∧ tab[i]? = some (x, k) := by
  induction h with
  | nil => intro i v h; simp at h
  | cons hm _ ih =>
    intro i v h
    cases i with
    | zero => simp at h; exact ⟨_, _, _, _, _, _, h.symm, hm, by simp⟩
    | succ i => simp at h; simpa using ih h

theorem signs_ret {tl : List (Addr × Obj)} {lst : Addr} {vs : List Value} {n : Nat} {tab : List (Str × Str)} {h' : Heap} {tk' : Nat}
  (ret : ∀ lst n tl vs h' tk', SignsAre tl vs tabS → Fr h₀ L h' m → News h₀ L h' ((lst, listOf vs.toArray n) :: (tl ++ news)) → Q (.ref lst) { s with heap := h', toks := tk' })
  (F : Fr h₀ L h' m) (N : News h₀ L h' ((lst, listOf vs.toArray n) :: (tl ++ news))) (S : SignsAre tl vs tab) (e : tab = tabS) : Q (.ref lst) { s with heap := h', toks := tk' } := ret _ _ _ _ _ _ (e ▸ S) F N
theorem c_signs 
  (B : Below A₀ base outer h₀) (F : Fr h₀ L s.heap m) (X : (hd.heap_39 w.params).In h₀) (N : News h₀ L s.heap news) (T : Top hd.view_39 (looseW hd.view_39 [Str.ofString "_Delimiter"]) mean mg mb h₀) (hk : cs.kind = .function)
  (hd : dp + 1 < recursionLimit) (hu : un + 8 < cLine)
  (ret : ∀ lst n tl vs h' tk', SignsAre tl vs tabS → Fr h₀ L h' m → News h₀ L h' ((lst, listOf vs.toArray n) :: (tl ++ news)) → Q (.ref lst) { s with heap := h', toks := tk' }) :
  wpAny (model PySem.Challenge.rw_fe5002_01.row.prog w) (ktrTop dp un gd cn cs L a ccd cl outer) (call (.ref 132) []) Q E s := by
  w_top off
  revert X; k_fill; intro X
  refine wpAny_call ?_
  k_dflt cell_enter
  k_steps
  refine' signs_ret (tl := [_, _, _, _, _, _, _, _, _, _, _, _, _, _, _, _, _, _, _, _, _]) ret ?fF ?fN ?fS ?fE
  (case fF => k_asm)
  (case fN => k_asm)
  (case fS => (repeat' (first | exact SignsAre.nil | (refine' SignsAre.cons ?sgm ?_; (case sgm => k_mem)))))
  (case fE => decide +kernel)

local macro_rules | `(tactic| walk_at "call ref") => `(tactic| (k_here; k_dflt (refine' c_signs ?B ?F ?X ?N ?T ?hk ?hd ?hu ?_; (case B => k_asm); (case F => k_asm); (case X => k_asm); (case N => k_asm); (case T => k_asm); (case hk => first | exact rfl | assumption); (case hd => ktr_room); (case hu => ktr_units)); intro lst9 n9 tl9 vs9 h9 tk9 S9 F9 N9))
local macro_rules | `(tactic| walk_at "exec For Tuple Call cons nil") => `(tactic| (refine Stop.out ?_))
local macro_rules | `(tactic| walk_at "pyIter ref") => `(tactic| (refine Stop.out ?_))

local macro_rules | `(tactic| walk_at "FPost") => `(tactic| (refine fpost_ret ?_; (try dsimp only)))

theorem kind_ret {ch : Nat} {y : Str} {t : Tok} {h' : Heap} {tk' : Nat} (ret : ∀ t'' h' tk', Fr h₀ L h' m → News h₀ L h' news → Q (.str (kindS ch) t'') { s with heap := h', toks := tk' })
  (e : kindS ch = y) (F : Fr h₀ L h' m) (N : News h₀ L h' news) : Q (.str y t) { s with heap := h', toks := tk' } := e ▸ ret _ _ _ F N
theorem c_kind {ch : Nat} {t : Tok} (hc : good ch)
  (B : Below A₀ base outer h₀) (F : Fr h₀ L s.heap m) (X : (hd.heap_39 w.params).In h₀) (N : News h₀ L s.heap news) (T : Top hd.view_39 (looseW hd.view_39 [Str.ofString "_Delimiter"]) mean mg mb h₀) (hk : cs.kind = .function)
  (hd : dp + 2 < recursionLimit) (hu : un + 16 < cLine)
  (ret : ∀ t'' h' tk', Fr h₀ L h' m → News h₀ L h' news → Q (.str (kindS ch) t'') { s with heap := h', toks := tk' }) :
  wpAny (model PySem.Challenge.rw_fe5002_01.row.prog w) (ktrTop dp un gd cn cs L a ccd cl outer) (call (.ref 153) [.str (chr ch) t]) Q E s := by
  w_top off
  revert X; k_fill; intro X
  refine wpAny_call ?_
  k_dflt cell_enter
  k_steps
  · refine' kind_ret ret (all_goods (P := fun c => (chr c == Str.ofString "\n") = true → kindS c = Str.ofString "w") (by decide +kernel) ch hc (by assumption)) (by k_asm) (by k_asm)
  · refine' kind_ret ret (all_goods (P := fun c => (chr c == Str.ofString "*") = true → kindS c = Str.ofString "p") (by decide +kernel) ch hc (by assumption)) (by k_asm) (by k_asm)
  · refine' kind_ret ret (all_goods (P := fun c => (chr c == Str.ofString "_") = true → kindS c = Str.ofString "p") (by decide +kernel) ch hc (by assumption)) (by k_asm) (by k_asm)
  unfold Stop
  refine For_turns (by assumption) ?_
  k_steps
  unfold Stop
  rename_i lst9 n9 tl9 vs9 h9 tk9 S9 F9 N9
  refine my_listT (σ := Unit) (vs := vs9) (fun _ => (lst9, listOf vs9.toArray n9) :: (tl9 ++ news)) (fun _ => [("sign", .str (chr ch) t)]) (fun i _ => ∀ j x k, j < i → tabS[j]? = some (x, k) → (x == chr ch) = false) () rfl (.inr ⟨n9, fun _ => .head _⟩) (News.isList N9 (.head _)) F9 N9 (by kst_all) (fun _ h => h) (fun _ _ _ h => nomatch h) ?_ ?_
  · intro i v _ u h tk I oI hv hP F1 N1 hoff
    obtain ⟨a9, x9, k9, t91, t92, n91, rfl, hm9, htab⟩ := S9.get hv
    have T9 := News.isTup N1 (.tail _ (.tail _ (List.mem_append_left _ hm9)))
    dsimp only [envOf] at F1 N1
    k_steps
    · refine' kind_ret ret ?_ (by k_asm) (cb_drop (news := news) (by k_asm) (fun p hp => .tail _ (.tail _ (List.mem_append_right _ hp))))
      have ht := all_goods (P := fun c => ∀ x ∈ tabS, (x.1 == chr c) = true → kindS c = x.2) (by decide +kernel) ch hc
      exact ht (x9, k9) (List.mem_of_getElem? htab) (by assumption)
    · refine' fend () ?F ?N ?hs ?hk ?hn ?ho ?_
      (case hs => with_unfolding_all rfl); (case F => k_asm); (case N => k_asm); (case hk => kst_all); (case hn => exact fun _ h => h); (case ho => exact hoff)
      unfold Stop
      intro j x k hj hx
      by_cases e : j = i
      · subst e
        rw [htab] at hx
        cases hx
        assumption
      · exact hP j x k (by omega) hx
  · intro _ u h tk hP F1 N1
    exfalso
    have hl := S9.len
    have h9 := all_goods (P := fun c => (∀ x ∈ tabS, (x.1 == chr c) = false) → (chr c == Str.ofString "\n") = false → (chr c == Str.ofString "*") = false → (chr c == Str.ofString "_") = false → False) (by decide +kernel) ch hc
    refine h9 (fun x hx => ?_) (by assumption) (by assumption) (by assumption)
    obtain ⟨j, hj⟩ := List.mem_iff_getElem?.mp hx
    exact hP j x.1 x.2 (by rw [hl]; exact (List.getElem?_eq_some_iff.mp hj).1) hj
end
end Mine

namespace Mine
set_option maxRecDepth 100000
set_option maxHeartbeats 8000000

local macro_rules | `(tactic| walk_at "subscriptTail Name Name str int") => `(tactic| ((with_reducible show wpAny _ _ (subscriptTail _ _ (Value.str _ _) (Value.int _ _)) _ _ _); (refine my_item (by omega) (by omega) (by omega) ?_); intro u9))
local macro_rules | `(tactic| walk_at "subscriptTail Name BinOp str int") => `(tactic| ((with_reducible show wpAny _ _ (subscriptTail _ _ (Value.str _ _) (Value.int _ _)) _ _ _); (refine my_item (by omega) (by omega) (by omega) ?_); intro u9))
local macro_rules | `(tactic| walk_at "compareOp NotIn str str") => `(tactic| ((with_reducible refine my_notin ?_)))
local macro_rules | `(tactic| walk_at "call builtin:str.isspace") => `(tactic| (refine my_isspace (by first | assumption | exact good_at (by assumption) (by omega)) ?_))
local macro_rules | `(tactic| walk_at "call builtin:str.isalnum") => `(tactic| (refine my_isalnum (by first | assumption | exact good_at (by assumption) (by omega)) ?_))
section
variable {prog : Program} {w : World} {A : Around} {E : Value → Shared → Prop} {s : Shared} {c : Nat} {t u : Tok} {Q : Value → Shared → Prop}
theorem eq_kw (hc : good c) (h : Q (.bool (isW c)) s) : wpAny (model prog w) A (compareOp .Eq (.str (kindS c) t) (.str (Str.ofString "w") u)) Q E s := eq_str (by rw [kind_w c hc]; exact h)
theorem eq_kp (hc : good c) (h : Q (.bool (isP c)) s) : wpAny (model prog w) A (compareOp .Eq (.str (kindS c) t) (.str (Str.ofString "p") u)) Q E s := eq_str (by rw [kind_p c hc]; exact h)
theorem ne_kw (hc : good c) (h : Q (.bool (!isW c)) s) : wpAny (model prog w) A (compareOp .NotEq (.str (kindS c) t) (.str (Str.ofString "w") u)) Q E s := ne_str (by rw [bne, kind_w c hc]; exact h)
theorem ne_kp (hc : good c) (h : Q (.bool (!isP c)) s) : wpAny (model prog w) A (compareOp .NotEq (.str (kindS c) t) (.str (Str.ofString "p") u)) Q E s := ne_str (by rw [bne, kind_p c hc]; exact h)
theorem eq_cs (h : Q (.bool (c == 42)) s) : wpAny (model prog w) A (compareOp .Eq (.str (chr c) t) (.str (Str.ofString "*") u)) Q E s := eq_str (by rw [chr_st]; exact h)
theorem eq_cu (h : Q (.bool (c == 95)) s) : wpAny (model prog w) A (compareOp .Eq (.str (chr c) t) (.str (Str.ofString "_") u)) Q E s := eq_str (by rw [chr_us]; exact h)
theorem ne_cs (h : Q (.bool (!(c == 42))) s) : wpAny (model prog w) A (compareOp .NotEq (.str (chr c) t) (.str (Str.ofString "*") u)) Q E s := ne_str (by rw [bne, chr_st]; exact h)
theorem ne_cu (h : Q (.bool (!(c == 95))) s) : wpAny (model prog w) A (compareOp .NotEq (.str (chr c) t) (.str (Str.ofString "_") u)) Q E s := ne_str (by rw [bne, chr_us]; exact h)
end
local macro_rules | `(tactic| walk_at "compareOp Eq str str") => `(tactic| first | (refine eq_kw (by first | assumption | exact good_at (by assumption) (by omega)) ?_) | (refine eq_kp (by first | assumption | exact good_at (by assumption) (by omega)) ?_) | (refine eq_cs ?_) | (refine eq_cu ?_))
local macro_rules | `(tactic| walk_at "compareOp NotEq str str") => `(tactic| first | (refine ne_kw (by first | assumption | exact good_at (by assumption) (by omega)) ?_) | (refine ne_kp (by first | assumption | exact good_at (by assumption) (by omega)) ?_) | (refine ne_cs ?_) | (refine ne_cu ?_))
section
variable {w : World} {mean : ExcName → Option Value} {mg mb : Str → Option Value} {dp un : Nat} {gd : Option (List Code)} {cn : Str} {cs : Scope} {a : Addr} {ccd : Value} {cl : List (Str × Addr)} {outer : List Env} {A₀ : Around} {base h₀ : Heap} {L : Addr} {m : Str → Option Value} {s : Shared} {news : List (Addr × Obj)} {Q E : Value → Shared → Prop}



theorem ret_bool {b y : Bool} {h' : Heap} {tk' : Nat} (ret : ∀ h' tk', Fr h₀ L h' m → News h₀ L h' news → Q (.bool y) { s with heap := h', toks := tk' }) (e : b = y) (F : Fr h₀ L h' m) (N : News h₀ L h' news) : Q (.bool b) { s with heap := h', toks := tk' } := e ▸ ret _ _ F N

theorem c_punct {ch : Nat} {t : Tok} (hc : good ch)
  (B : Below A₀ base outer h₀) (F : Fr h₀ L s.heap m) (X : (hd.heap_39 w.params).In h₀) (N : News h₀ L s.heap news) (T : Top hd.view_39 (looseW hd.view_39 [Str.ofString "_Delimiter"]) mean mg mb h₀) (hk : cs.kind = .function)
  (hd : dp + 1 < recursionLimit) (hu : un + 8 < cLine)
  (ret : ∀ h' tk', Fr h₀ L h' m → News h₀ L h' news → Q (.bool (isP ch)) { s with heap := h', toks := tk' }) :
  wpAny (model PySem.Challenge.rw_fe5002_01.row.prog w) (ktrTop dp un gd cn cs L a ccd cl outer) (call (.ref 125) [.str (chr ch) t]) Q E s := by
  w_top off
  revert X; k_fill; intro X
  refine wpAny_call ?_
  k_dflt cell_enter
  k_steps
  all_goals (refine' ret_bool ret ?fe (by k_asm) (by k_asm); (case fe => simp_all [isP]))

local macro_rules | `(tactic| walk_at "call ref") => `(tactic| (k_here; k_dflt (refine' c_punct ?hc ?B ?F ?X ?N ?T ?hk ?hd ?hu ?_; (case hc => first | assumption | exact good_at (by assumption) (by omega)); (case B => k_asm); (case F => k_asm); (case X => k_asm); (case N => k_asm); (case T => k_asm); (case hk => first | exact rfl | assumption); (case hd => ktr_room); (case hu => ktr_units)); intro h9 tk9 F9 N9))

theorem c_open {x : Str} {i n : Int} {mk : Nat} {t t2 t3 t4 : Tok} (hx : goodT x) (hxl : x.length ≤ 1000) (hi0 : 0 ≤ i) (hi1 : i ≤ x.length) (hn0 : 0 ≤ n) (hn1 : n ≤ 1000) (hm : isM mk)
  (B : Below A₀ base outer h₀) (F : Fr h₀ L s.heap m) (X : (hd.heap_39 w.params).In h₀) (N : News h₀ L s.heap news) (T : Top hd.view_39 (looseW hd.view_39 [Str.ofString "_Delimiter"]) mean mg mb h₀) (hk : cs.kind = .function)
  (hd : dp + 2 < recursionLimit) (hu : un + 16 < cLine)
  (ret : ∀ h' tk', Fr h₀ L h' m → News h₀ L h' news → Q (.bool (openF mk (beforeC x i) (afterC x (i + n)))) { s with heap := h', toks := tk' }) :
  wpAny (model PySem.Challenge.rw_fe5002_01.row.prog w) (ktrTop dp un gd cn cs L a ccd cl outer) (call (.ref 111) [.str x t, .int i t2, .int n t3, .str (chr mk) t4]) Q E s := by
  w_top off
  revert X; k_fill; intro X
  refine wpAny_call ?_
  k_dflt cell_enter
  k_steps
  all_goals (
    refine' ret_bool ret (open_eq hm (good_before hx hi1) (good_after hx (by omega)) ?fe) (by k_asm) (by k_asm)
    (case fe =>
      first | rw [before_pos (by assumption)] | rw [before_neg (by assumption)]
      first | rw [after_pos (by assumption)] | rw [after_neg (by assumption)]
      clear B F X N T ret
      simp only [chr_us] at *
      (try generalize atC x (i - 1).toNat = pb at *)
      (try generalize atC x (i + n).toNat = pa at *)
      simp [*, w10, n10, p10]))
theorem c_close {x : Str} {i n : Int} {mk : Nat} {t t2 t3 t4 : Tok} (hx : goodT x) (hxl : x.length ≤ 1000) (hi0 : 0 ≤ i) (hi1 : i ≤ x.length) (hn0 : 0 ≤ n) (hn1 : n ≤ 1000) (hm : isM mk)
  (B : Below A₀ base outer h₀) (F : Fr h₀ L s.heap m) (X : (hd.heap_39 w.params).In h₀) (N : News h₀ L s.heap news) (T : Top hd.view_39 (looseW hd.view_39 [Str.ofString "_Delimiter"]) mean mg mb h₀) (hk : cs.kind = .function)
  (hd : dp + 2 < recursionLimit) (hu : un + 16 < cLine)
  (ret : ∀ h' tk', Fr h₀ L h' m → News h₀ L h' news → Q (.bool (closeF mk (beforeC x i) (afterC x (i + n)))) { s with heap := h', toks := tk' }) :
  wpAny (model PySem.Challenge.rw_fe5002_01.row.prog w) (ktrTop dp un gd cn cs L a ccd cl outer) (call (.ref 118) [.str x t, .int i t2, .int n t3, .str (chr mk) t4]) Q E s := by
  w_top off
  revert X; k_fill; intro X
  refine wpAny_call ?_
  k_dflt cell_enter
  k_steps
  all_goals (
    refine' ret_bool ret (close_eq hm (good_before hx hi1) (good_after hx (by omega)) ?fe) (by k_asm) (by k_asm)
    (case fe =>
      first | rw [before_pos (by assumption)] | rw [before_neg (by assumption)]
      first | rw [after_pos (by assumption)] | rw [after_neg (by assumption)]
      clear B F X N T ret
      simp only [chr_us] at *
      (try generalize atC x (i - 1).toNat = pb at *)
      (try generalize atC x (i + n).toNat = pa at *)
      simp [*, w10, n10, p10]))

local macro_rules | `(tactic| walk_at "call ref") => `(tactic| (k_here; k_dflt (refine' c_kind ?hc ?B ?F ?X ?N ?T ?hk ?hd ?hu ?_; (case hc => first | assumption | exact good_at (by assumption) (by omega)); (case B => k_asm); (case F => k_asm); (case X => k_asm); (case N => k_asm); (case T => k_asm); (case hk => first | exact rfl | assumption); (case hd => ktr_room); (case hu => ktr_units)); intro t9 h9 tk9 F9 N9))

theorem flags_fin {o1 c1 o2 c2 : Bool} {D : Addr} {k : Nat} {h' : Heap} {tk' : Nat}
  (ret : ∀ D k h' tk', (∀ p ∈ news, p.1 < D) → Fr h₀ L h' m → News h₀ L h' ((D, ({ cls := .type "tuple", data := .seq #[.bool o2, .bool c2] k } : Obj)) :: news) → Q (.ref D) { s with heap := h', toks := tk' })
  (e1 : o1 = o2) (e2 : c1 = c2) (l : ∀ p ∈ news, p.1 < D) (F : Fr h₀ L h' m) (N : News h₀ L h' ((D, ({ cls := .type "tuple", data := .seq #[.bool o1, .bool c1] k } : Obj)) :: news)) : Q (.ref D) { s with heap := h', toks := tk' } := by
  subst e1; subst e2
  exact ret _ _ _ _ l F N
theorem c_flags {x : Str} {i n : Int} {mk : Nat} {t t2 t3 t4 : Tok} (hx : goodT x) (hxl : x.length ≤ 1000) (hi0 : 0 ≤ i) (hi1 : i ≤ x.length) (hn0 : 0 ≤ n) (hn1 : n ≤ 1000) (hm : isM mk)
  (B : Below A₀ base outer h₀) (F : Fr h₀ L s.heap m) (X : (hd.heap_39 w.params).In h₀) (N : News h₀ L s.heap news) (T : Top hd.view_39 (looseW hd.view_39 [Str.ofString "_Delimiter"]) mean mg mb h₀) (hk : cs.kind = .function)
  (hd : dp + 3 < recursionLimit) (hu : un + 24 < cLine)
  (ret : ∀ D k h' tk', (∀ p ∈ news, p.1 < D) → Fr h₀ L h' m → News h₀ L h' ((D, ({ cls := .type "tuple", data := .seq #[.bool (openF mk (beforeC x i) (afterC x (i + n))), .bool (closeF mk (beforeC x i) (afterC x (i + n)))] k } : Obj)) :: news) → Q (.ref D) { s with heap := h', toks := tk' }) :
  wpAny (model PySem.Challenge.rw_fe5002_01.row.prog w) (ktrTop dp un gd cn cs L a ccd cl outer) (call (.ref 174) [.str x t, .int i t2, .int n t3, .str (chr mk) t4]) Q E s := by
  w_top off
  revert X; k_fill; intro X
  refine wpAny_call ?_
  k_dflt cell_enter
  k_steps
  all_goals (
    refine' flags_fin ret ?_ ?_ (by assumption) (by k_asm) (by k_asm)
    all_goals (
      clear B F X N T ret
      first | rw [before_pos (by assumption)] | rw [before_neg (by assumption)]
      first | rw [after_pos (by assumption)] | rw [after_neg (by assumption)]
      simp only [openF, closeF, leftF, rightF]
      (try generalize atC x (i - 1).toNat = pb at *)
      (try generalize atC x (i + n).toNat = pa at *)
      first | (simp [*, w10, n10, p10]; done) | (simp_all [w10, n10, p10]; done)))
end
end Mine

namespace Mine
set_option maxRecDepth 100000
set_option maxHeartbeats 8000000


inductive RunsAre : List Value → List Str → Prop
  | nil : RunsAre [] []
  | cons {x : Str} {t : Tok} {vs : List Value} {tab : List Str} : RunsAre vs tab → RunsAre (.str x t :: vs) (x :: tab)
theorem RunsAre.len {vs : List Value} {tab : List Str} (h : RunsAre vs tab) : vs.length = tab.length := by
  induction h with
  | nil => rfl
  | cons _ ih => simp [ih]
theorem RunsAre.get {vs : List Value} {tab : List Str} (h : RunsAre vs tab) : ∀ {i : Nat} {v : Value}, vs[i]? = some v → ∃ x t, v = .str x t ∧ tab[i]? = some x := by
  induction h with
  | nil => intro i v h; simp at h
  | cons _ ih =>
    intro i v h
    cases i with
    | zero => simp at h; exact ⟨_, _, h.symm, by simp⟩
    | succ i => simp at h; simpa using ih h
section
variable {prog : Program} {w : World} {A : Around} {E : Value → Shared → Prop} {s : Shared} {h₀ : Heap} {L l : Addr} {tl news : List (Addr × Obj)} {vs : List Value} {n : Nat} {k : Int} {u : Tok} {Q : Value → Shared → Prop}
theorem item_list {value slice : PySem.Expr} (N : News h₀ L s.heap news) (hm : (l, listOf vs.toArray n) ∈ news) (h0 : 0 ≤ k) (h1 : k < vs.length) (hf : k < 2 ^ 62)
    (h : ∀ v, vs[k.toNat]? = some v → Q v s)
    (hs : subscripted slice false (.ref l) (.int k u) = operate [.ref l, .int k u] (getItem (.ref l) (.int k u)) := by with_unfolding_all rfl) :
    wpAny (model prog w) A (subscriptTail value slice (.ref l) (.int k u)) Q E s := by
  have hL := News.isList N hm
  have hk : k.toNat < vs.length := by omega
  have hx : vs.toArray[k.toNat]? = some vs[k.toNat] := by simp [hk]
  exact tail_any hL.typeIs slot_list_getitem.lookup (wpAny_getItem_list hL h0 (by omega) hx (h _ (by simp [hk]))) hs
theorem item_signs {value slice : PySem.Expr} (N : News h₀ L s.heap ((l, listOf vs.toArray n) :: (tl ++ news))) (S : SignsAre tl vs tabS) (h0 : 0 ≤ k) (h1 : k < 21)
    (h : ∀ a x y t1 t2, goodT x → 1 ≤ x.length → x.length ≤ 3 → IsTup s.heap a #[.str x t1, .str y t2] → Q (.ref a) s)
    (hs : subscripted slice false (.ref l) (.int k u) = operate [.ref l, .int k u] (getItem (.ref l) (.int k u)) := by with_unfolding_all rfl) :
    wpAny (model prog w) A (subscriptTail value slice (.ref l) (.int k u)) Q E s := by
  refine item_list N (.head _) h0 (by rw [S.len]; exact h1) (by omega) (fun v hv => ?_) hs
  obtain ⟨a, x, y, t1, t2, n', rfl, hm, ht⟩ := S.get hv
  exact h a x y t1 t2 (tabS_ok ht).1 (tabS_ok ht).2.1 (tabS_ok ht).2.2 (News.isTup N (.tail _ (List.mem_append_left _ hm)))
theorem item_runs {value slice : PySem.Expr} (N : News h₀ L s.heap ((l, listOf vs.toArray n) :: news)) (S : RunsAre vs tabR) (h0 : 0 ≤ k) (h1 : k < 5)
    (h : ∀ x t, goodT x → 1 ≤ x.length → x.length ≤ 3 → Q (.str x t) s)
    (hs : subscripted slice false (.ref l) (.int k u) = operate [.ref l, .int k u] (getItem (.ref l) (.int k u)) := by with_unfolding_all rfl) :
    wpAny (model prog w) A (subscriptTail value slice (.ref l) (.int k u)) Q E s := by
  refine item_list N (.head _) h0 (by rw [S.len]; exact h1) (by omega) (fun v hv => ?_) hs
  obtain ⟨x, t, rfl, ht⟩ := S.get hv
  exact h x t (tabR_ok ht).1 (tabR_ok ht).2.1 (tabR_ok ht).2.2
theorem my_add {x y : Str} {t : Tok} (hx : x.length ≤ 1000) (hy : y.length ≤ 1000) (h : ∀ t' tk, Q (.str (x ++ y) t') { s with toks := tk }) : wpAny (model prog w) A (binaryOp .Add (.str x t) (.str y u)) Q E s := add_str h (by rw [sizeLine_eq]; omega)
end
section
variable {w : World} {mean : ExcName → Option Value} {mg mb : Str → Option Value} {dp un : Nat} {gd : Option (List Code)} {cn : Str} {cs : Scope} {a : Addr} {ccd : Value} {cl : List (Str × Addr)} {outer : List Env} {A₀ : Around} {base h₀ : Heap} {L : Addr} {m : Str → Option Value} {s : Shared} {news : List (Addr × Obj)} {Q E : Value → Shared → Prop}




theorem runs_ret {lst : Addr} {vs : List Value} {n : Nat} {tab : List Str} {h' : Heap} {tk' : Nat}
  (ret : ∀ lst n vs h' tk', RunsAre vs tabR → Fr h₀ L h' m → News h₀ L h' ((lst, listOf vs.toArray n) :: news) → Q (.ref lst) { s with heap := h', toks := tk' })
  (F : Fr h₀ L h' m) (N : News h₀ L h' ((lst, listOf vs.toArray n) :: news)) (S : RunsAre vs tab) (e : tab = tabR) : Q (.ref lst) { s with heap := h', toks := tk' } := ret _ _ _ _ _ (e ▸ S) F N
theorem c_runs 
  (B : Below A₀ base outer h₀) (F : Fr h₀ L s.heap m) (X : (hd.heap_39 w.params).In h₀) (N : News h₀ L s.heap news) (T : Top hd.view_39 (looseW hd.view_39 [Str.ofString "_Delimiter"]) mean mg mb h₀) (hk : cs.kind = .function)
  (hd : dp + 1 < recursionLimit) (hu : un + 8 < cLine)
  (ret : ∀ lst n vs h' tk', RunsAre vs tabR → Fr h₀ L h' m → News h₀ L h' ((lst, listOf vs.toArray n) :: news) → Q (.ref lst) { s with heap := h', toks := tk' }) :
  wpAny (model PySem.Challenge.rw_fe5002_01.row.prog w) (ktrTop dp un gd cn cs L a ccd cl outer) (call (.ref 139) []) Q E s := by
  w_top off
  revert X; k_fill; intro X
  refine wpAny_call ?_
  k_dflt cell_enter
  k_steps
  refine' runs_ret ret ?fF ?fN ?fS ?fE
  (case fF => k_asm)
  (case fN => k_asm)
  (case fS => (repeat' (first | exact RunsAre.nil | (refine' RunsAre.cons ?_))))
  (case fE => decide +kernel)

local macro_rules | `(tactic| walk_at "call ref") => `(tactic| (k_here; k_dflt (refine' c_signs ?B ?F ?X ?N ?T ?hk ?hd ?hu ?_; (case B => k_asm); (case F => k_asm); (case X => k_asm); (case N => k_asm); (case T => k_asm); (case hk => first | exact rfl | assumption); (case hd => ktr_room); (case hu => ktr_units)); intro lst9 n9 tl9 vs9 h9 tk9 S9 F9 N9))
local macro_rules | `(tactic| walk_at "call ref") => `(tactic| (k_here; k_dflt (refine' c_runs ?B ?F ?X ?N ?T ?hk ?hd ?hu ?_; (case B => k_asm); (case F => k_asm); (case X => k_asm); (case N => k_asm); (case T => k_asm); (case hk => first | exact rfl | assumption); (case hd => ktr_room); (case hu => ktr_units)); intro lst9 n9 vs9 h9 tk9 S9 F9 N9))
local macro_rules | `(tactic| walk_at "call ref") => `(tactic| (k_here; k_dflt (refine' c_draw ?B ?F ?X ?N ?T ?hk ?hl ?hi ?hlen ?U ?p0 ?p1 ?q0 ?q1 ?k0 ?k1 ?hd ?hu ?_; (case B => k_asm); (case F => k_asm); (case X => k_asm); (case N => k_asm); (case T => k_asm); (case hk => first | exact rfl | assumption); (case hl => k_asm); (case hi => k_asm); (case hlen => k_asm); (case U => k_updF); (case p0 => omega); (case p1 => omega); (case q0 => omega); (case q1 => omega); (case k0 => omega); (case k1 => omega); (case hd => ktr_room); (case hu => ktr_units)); intro v9 q9 tv9 t19 t29 h9 tk9 hv0 hv1 hq0 hq1 F9 N9; (try dsimp only at N9)))
local macro_rules | `(tactic| walk_at "exec For Name Call cons nil") => `(tactic| (refine Stop.out ?_))
local macro_rules | `(tactic| walk_at "pyIter ref") => `(tactic| (refine Stop.out ?_))
local macro_rules | `(tactic| walk_at "call type:range") => `(tactic| ((rename Fr _ _ _ _ => F'); (rename News _ _ _ _ => N'); (with_unfolding_all refine range1_rows F' N' ?_); intro h9 tk9 tr1 tr2 tr3 R9 F9 N9 K9))
local macro_rules | `(tactic| k_all) => `(tactic| with_reducible assumption)
local macro_rules | `(tactic| size_fits) => `(tactic| first | (with_reducible assumption) | (rw [sizeLine_eq]; omega))
local macro_rules | `(tactic| walk_at "FPost") => `(tactic| (refine fpost_ret ?_; (try dsimp only)))

local macro_rules | `(tactic| walk_at "subscriptTail Name Name ref int") => `(tactic| (k_dflt (refine' item_signs ?N ?S ?h0 ?h1 ?_ ?hs; (case S => with_reducible assumption); (case N => k_asm); (case h0 => omega); (case h1 => omega); (case hs => with_unfolding_all rfl)); intro a9 x9 y9 t91 t92 ok91 ok92 ok93 T9))
local macro_rules | `(tactic| walk_at "subscriptTail Name BinOp ref int") => `(tactic| (k_dflt (refine' item_runs ?N ?S ?h0 ?h1 ?_ ?hs; (case S => with_reducible assumption); (case N => k_asm); (case h0 => omega); (case h1 => omega); (case hs => with_unfolding_all rfl)); intro x9 t91 ok91 ok92 ok93))
local macro_rules | `(tactic| walk_at "binaryOp Add str str") => `(tactic| ((refine my_add (by omega) (by omega) ?_); intro t9 tk9))
local macro_rules | `(tactic| k_mem) => `(tactic| first | exact my_head | (refine my_tail ?_; k_mem))
local macro_rules | `(tactic| kst_allIn) => `(tactic| (refine List.forall_mem_cons.mpr ⟨by k_mem, ?_⟩; kst_allIn))
structure TS where
  p : Int
  q : Int
  t1 : Tok
  t2 : Tok
  x : Str
  tx : Tok
theorem c_text {bx l : Addr} {vs : List Value} {ns : List Int} {p q : Int} {t1 t2 : Tok} {n : Nat} {g : Obj → List (Addr × Obj)} 
  (B : Below A₀ base outer h₀) (F : Fr h₀ L s.heap m) (X : (hd.heap_39 w.params).In h₀) (N : News h₀ L s.heap news) (T : Top hd.view_39 (looseW hd.view_39 [Str.ofString "_Delimiter"]) mean mg mb h₀) (hk : cs.kind = .function)
  (hl : base.IsList l vs.toArray) (hi : IntsAre vs ns) (hlen : ns.length ≤ 63)
  (U : UpdF bx (boxO l p q t1 t2 n) news g) (hp0 : 0 ≤ p) (hp1 : p < 2 ^ 30) (hq0 : 0 ≤ q) (hq1 : q < 2147483647)
  (hd : dp + 2 < recursionLimit) (hu : un + 16 < cLine)
  (ret : ∀ x tx p' q' t1' t2' h' tk', goodT x → 1 ≤ x.length → x.length ≤ 18 → 0 ≤ p' → p' ≤ p + 7 → 0 ≤ q' → q' < 2147483647 → Fr h₀ L h' m → News h₀ L h' (g (boxO l p' q' t1' t2' n)) → Q (.str x tx) { s with heap := h', toks := tk' }) :
  wpAny (model PySem.Challenge.rw_fe5002_01.row.prog w) (ktrTop dp un gd cn cs L a ccd cl outer) (call (.ref 160) [.ref bx]) Q E s := by
  obtain ⟨pre, post, rfl, eg, hA, hB⟩ := U.split
  have N1 : News h₀ L s.heap ((bx, boxO l p q t1 t2 n) :: (pre ++ post)) := news_sub N (by simp; grind)
  have hoff : ∀ z ∈ pre ++ post, z.1 ≠ bx := by intro z hz; rcases List.mem_append.mp hz with h | h; exact hA z h; exact hB z h
  clear N U
  w_top off
  revert X; k_fill; intro X
  refine wpAny_call ?_
  k_dflt cell_enter
  k_steps
  unfold Stop
  refine For_invVF (by assumption) rfl rfl ?_
  k_steps
  unfold Stop
  rename_i v2 q2 tv2 ta tb hA1 tkA hv0 hv1 hq02 hq12 FA NA hB1 tkB tr1 tr2 tr3 R9 F9 N9 K9
  refine' my_range (σ := TS) (n := (1 + v2).toNat) (fun c => (bx, boxO l c.p c.q c.t1 c.t2 n) :: (pre ++ post)) (fun c => [("box", .ref bx), ("text", .str c.x c.tx)]) (fun i c => 0 ≤ c.p ∧ c.p ≤ p + 1 + i ∧ 0 ≤ c.q ∧ c.q < 2147483647 ∧ goodT c.x ∧ i ≤ c.x.length ∧ c.x.length ≤ 3 * i) ⟨p + 1, q2, ta, tb, Str.ofString "", _⟩ rfl R9 (small_one (by decide) (by decide) (by omega) (by omega)) (by rw [rangeSize_nat]; simp) F9 N9 ?hk0 (fun _ h => h) ?hp0 ?turn ?done
  (case hk0 => kst_all)
  (case hp0 => exact ⟨by show 0 ≤ p + 1; omega, by show p + 1 ≤ p + 1 + ((0 : Nat) : Int); omega, hq02, hq12, (by decide +kernel : goodT (Str.ofString "")), Nat.zero_le _, (by decide +kernel : (Str.ofString "").length ≤ 3 * 0)⟩)
  (case turn =>
    rintro i ti ⟨p1, q1, t11, t12, x1, tx1⟩ u h tk I oI hi ⟨h1, h2, h3, h4, h5, h6, h7⟩ F1 N1 hoffI
    dsimp only [envOf, kstB] at h1 h2 h3 h4 h5 h6 h7 F1 N1 hoffI
    have hIb : I ≠ bx := (hoffI _ (.head _)).symm
    have hoI : ∀ p ∈ pre ++ post, p.1 ≠ I := fun p hp => hoffI p (.tail _ hp)
    k_steps
    all_goals (
      refine' fend ⟨_, _, _, _, _, _⟩ ?Fx ?Nx ?hsx ?hkx ?hnx ?hox ?_
      (case hsx => with_unfolding_all rfl)
      (case Fx => k_asm)
      (case Nx => k_asm)
      (case hkx => kst_all)
      (case hnx => dsimp only; kst_allIn)
      (case hox => exact List.forall_mem_cons.mpr ⟨hIb.symm, hoI⟩)
      unfold Stop
      dsimp only
      rw [Str.length_append]
      exact ⟨by omega, by omega, by assumption, by assumption, good_append (by assumption) (by assumption), by omega, by omega⟩))
  (case done =>
    rintro ⟨p1, q1, t11, t12, x1, tx1⟩ u h tk ⟨h1, h2, h3, h4, h5, h6, h7⟩ F1 N1
    dsimp only [envOf, kstB] at h1 h2 h3 h4 h5 h6 h7 F1 N1
    k_steps
    refine ret x1 tx1 p1 q1 t11 t12 _ _ h5 (by omega) (by omega) h1 (by omega) h3 h4 (by k_asm) ?_
    rw [eg]
    refine' news_sub ?N9 ?S9
    (case N9 => k_asm)
    (case S9 => simp; grind))
end
end Mine

namespace Mine
set_option maxRecDepth 100000
set_option maxHeartbeats 4000000


abbrev prog0 : Program := PySem.Challenge.rw_fe5002_01.row.prog
def TokO (w : World) (o : Obj) (k : Tk) : Prop := ∃ kvs, o.IsDictOf (strKind prog0 w) kvs ∧ (∃ t, valueAt kvs (Str.ofString "type") = some (.str k.type t)) ∧ (k.isText = true → (∃ u, valueAt kvs (Str.ofString "raw") = some (.str k.raw u)) ∧ valueAt kvs (Str.ofString "_emphasis") = if k.isLive then none else some (.bool false))
theorem tok_intro {w : World} {o : Obj} {k : Tk} {kvs : List (Str × Value)} {t : Tok} (hd : o.IsDictOf (strKind prog0 w) kvs) (h : valueAt kvs (Str.ofString "type") = some (.str k.type t)) (hr : k.isText = true → (∃ u, valueAt kvs (Str.ofString "raw") = some (.str k.raw u)) ∧ valueAt kvs (Str.ofString "_emphasis") = if k.isLive then none else some (.bool false)) : TokO w o k := ⟨kvs, hd, ⟨_, h⟩, hr⟩
inductive ToksAre (w : World) (tl : List (Addr × Obj)) : List Value → List Tk → Prop
  | nil : ToksAre w tl [] []
  | cons {a : Addr} {o : Obj} {k : Tk} {vs : List Value} {ks : List Tk} : (a, o) ∈ tl → TokO w o k → (a == sysModules) = false → ToksAre w tl vs ks → ToksAre w tl (.ref a :: vs) (k :: ks)
theorem ToksAre.mono {w : World} {tl tl' : List (Addr × Obj)} {vs : List Value} {ks : List Tk} (h : ToksAre w tl vs ks) (hs : ∀ p ∈ tl, p ∈ tl') : ToksAre w tl' vs ks := by
  induction h with
  | nil => exact .nil
  | cons a b c _ ih => exact .cons (hs _ a) b c ih
theorem ToksAre.snoc {w : World} {tl : List (Addr × Obj)} {vs : List Value} {ks : List Tk} {a : Addr} {o : Obj} {k : Tk} (h : ToksAre w tl vs ks) (hm : (a, o) ∈ tl) (ho : TokO w o k) (hs : (a == sysModules) = false) : ToksAre w tl (vs ++ [.ref a]) (ks ++ [k]) := by
  induction h with
  | nil => exact .cons hm ho hs .nil
  | cons a b c _ ih => exact .cons a b c ih
theorem ToksAre.len {w : World} {tl : List (Addr × Obj)} {vs : List Value} {ks : List Tk} (h : ToksAre w tl vs ks) : vs.length = ks.length := by
  induction h with
  | nil => rfl
  | cons _ _ _ _ ih => simp [ih]
theorem ToksAre.get {w : World} {tl : List (Addr × Obj)} {vs : List Value} {ks : List Tk} (h : ToksAre w tl vs ks) : ∀ {i : Nat} {v : Value}, vs[i]? = some v → ∃ a o k, v = .ref a ∧ (a, o) ∈ tl ∧ TokO w o k ∧ (a == sysModules) = false ∧ ks[i]? = some k := by
  induction h with
  | nil => intro i v h; simp at h
  | cons a b c _ ih =>
    intro i v h
    cases i with
    | zero => simp at h; exact ⟨_, _, _, h.symm, a, b, c, by simp⟩
    | succ i => simp at h; simpa using ih h
structure RS where
  p : Int
  q : Int
  t1 : Tok
  t2 : Tok
  vs : List Value
  nn : Nat
  ks : List Tk
  tl : List (Addr × Obj)
section
variable {prog : Program} {w : World} {A : Around} {E : Value → Shared → Prop} {s : Shared} {h₀ : Heap} {L l : Addr} {news : List (Addr × Obj)} {n : Nat} {k : Int} {u : Tok} {Q : Value → Shared → Prop}
theorem item_two {value slice : PySem.Expr} {v0 v1 : Value} (N : News h₀ L s.heap news) (hm : (l, listOf #[v0, v1] n) ∈ news) (h0 : 0 ≤ k) (h1 : k < 2)
    (q0 : Q v0 s) (q1 : Q v1 s)
    (hs : subscripted slice false (.ref l) (.int k u) = operate [.ref l, .int k u] (getItem (.ref l) (.int k u)) := by with_unfolding_all rfl) :
    wpAny (model prog w) A (subscriptTail value slice (.ref l) (.int k u)) Q E s := by
  refine item_list (vs := [v0, v1]) N hm h0 h1 (by omega) (fun v hv => ?_) hs
  rcases (by omega : k = 0 ∨ k = 1) with rfl | rfl
  · simp at hv; exact hv ▸ q0
  · simp at hv; exact hv ▸ q1
end
section
variable {w : World} {mean : ExcName → Option Value} {mg mb : Str → Option Value} {dp un : Nat} {gd : Option (List Code)} {cn : Str} {cs : Scope} {a : Addr} {ccd : Value} {cl : List (Str × Addr)} {outer : List Env} {A₀ : Around} {base h₀ : Heap} {L : Addr} {m : Str → Option Value} {s : Shared} {news : List (Addr × Obj)} {Q E : Value → Shared → Prop}





local macro_rules | `(tactic| walk_at "call ref") => `(tactic| (k_here; k_dflt (refine' c_text ?B ?F ?X ?N ?T ?hk ?hl ?hi ?hlen ?U ?p0 ?p1 ?q0 ?q1 ?hd ?hu ?_; (case B => k_asm); (case F => k_asm); (case X => k_asm); (case N => k_asm); (case T => k_asm); (case hk => first | exact rfl | assumption); (case hl => k_asm); (case hi => k_asm); (case hlen => k_asm); (case U => k_updF); (case p0 => omega); (case p1 => omega); (case q0 => omega); (case q1 => omega); (case hd => ktr_room); (case hu => ktr_units)); intro x9 tx9 p9 q9 t19 t29 h9 tk9 xg9 xl9 xu9 hp09 hp19 hq09 hq19 F9 N9; (try dsimp only at N9)))
local macro_rules | `(tactic| walk_at "call ref") => `(tactic| (k_here; k_dflt (refine' c_draw ?B ?F ?X ?N ?T ?hk ?hl ?hi ?hlen ?U ?p0 ?p1 ?q0 ?q1 ?k0 ?k1 ?hd ?hu ?_; (case B => k_asm); (case F => k_asm); (case X => k_asm); (case N => k_asm); (case T => k_asm); (case hk => first | exact rfl | assumption); (case hl => k_asm); (case hi => k_asm); (case hlen => k_asm); (case U => k_updF); (case p0 => omega); (case p1 => omega); (case q0 => omega); (case q1 => omega); (case k0 => omega); (case k1 => omega); (case hd => ktr_room); (case hu => ktr_units)); intro v9 q9 tv9 t19 t29 h9 tk9 hv0 hv1 hq0 hq1 F9 N9; (try dsimp only at N9)))
local macro_rules | `(tactic| walk_at "exec For Name Call cons nil") => `(tactic| (refine Stop.out ?_))
local macro_rules | `(tactic| walk_at "pyIter ref") => `(tactic| (refine Stop.out ?_))
local macro_rules | `(tactic| walk_at "call type:range") => `(tactic| ((rename Fr _ _ _ _ => F'); (rename News _ _ _ _ => N'); (with_unfolding_all refine range1_rows F' N' ?_); intro h9 tk9 tr1 tr2 tr3 R9 F9 N9 K9))
local macro_rules | `(tactic| k_all) => `(tactic| with_reducible assumption)
local macro_rules | `(tactic| size_fits) => `(tactic| first | (with_reducible assumption) | (rw [sizeLine_eq]; omega))
local macro_rules | `(tactic| walk_at "FPost") => `(tactic| (refine fpost_ret ?_; (try dsimp only)))
local macro_rules | `(tactic| k_mem) => `(tactic| first | exact my_head | (refine my_tail ?_; k_mem))
local macro_rules | `(tactic| kst_allIn) => `(tactic| (refine List.forall_mem_cons.mpr ⟨by k_mem, ?_⟩; kst_allIn))
local macro_rules | `(tactic| walk_at "subscriptTail") => `(tactic| (k_here; (with_reducible show wpAny _ _ (subscriptTail _ _ (Value.ref _) (Value.int _ _)) _ _ _); k_dflt (refine' item_two ?N ?hm ?h0 ?h1 ?_ ?_ ?hs; (case N => k_asm); (case hm => k_mem); (case h0 => omega); (case h1 => omega); (case hs => with_unfolding_all rfl))))

local macro_rules | `(tactic| walk_at "callWith") => `(tactic| ((with_reducible show wpAny _ _ (callWith _ (Value.builtin _) [Value.ref _] (backTo _ (starEach (_ :: _) _)) []) _ _ _); k_dflt (refine callWith_method1 ?_)))
abbrev rowLed (lt bx l : Addr) (n : Nat) (c : RS) : List (Addr × Obj) := (lt, listOf c.vs.toArray c.nn) :: (bx, boxO l c.p c.q c.t1 c.t2 n) :: c.tl
abbrev rowPs (lt bx : Addr) (_ : RS) : List (Str × Value) := [("box", .ref bx), ("tokens", .ref lt)]
abbrev rowP (w : World) (p : Int) (lt bx : Addr) (i : Nat) (c : RS) : Prop := 0 ≤ c.p ∧ c.p ≤ p + 1 + 9 * i ∧ 0 ≤ c.q ∧ c.q < 2147483647 ∧ ToksAre w c.tl c.vs c.ks ∧ (∀ k ∈ c.ks, k.ok) ∧ c.ks.length = i ∧ (∀ z ∈ c.tl, z.1 ≠ lt) ∧ (∀ z ∈ c.tl, z.1 ≠ bx)
theorem row_fin {w : World} {L : Addr} {m' : Str → Option Value} {news' tl1 : List (Addr × Obj)} {vs1 : List Value} {ks1 : List Tk} {nn1 i : Nat} {s₁ s₂ : Shared} {h' : Heap} {tk' : Nat} {I lt bx l d : Addr} {oI o : Obj} {k : Tk} {p p1 p2 q2 : Int} {ta tb : Tok} {n : Nat} {QQ : Flow → Shared → Prop}
    (h2 : p1 ≤ p + 1 + 9 * i) (h5 : ToksAre w tl1 vs1 ks1) (h6 : ∀ k ∈ ks1, k.ok) (h7 : ks1.length = i) (h8 : ∀ z ∈ tl1, z.1 ≠ lt) (h9 : ∀ z ∈ tl1, z.1 ≠ bx) (hIb : I ≠ bx) (hIt : I ≠ lt) (hoI : ∀ p ∈ tl1, p.1 ≠ I)
    (F : Fr h₀ L h' m') (N : News h₀ L h' news') (hs : s₂ = { s₁ with heap := h', toks := tk' }) (hk : ∀ z ∈ [((Str.ofString "box" : Str), Value.ref bx), (Str.ofString "tokens", Value.ref lt)], m' z.1 = some z.2)
    (hI : (I, oI) ∈ news') (hT : (lt, listOf (vs1.toArray.push (.ref d)) (nn1 + 1)) ∈ news') (hB : (bx, boxO l p2 q2 ta tb n) ∈ news') (hD : (d, o) ∈ news') (htl : ∀ z ∈ tl1, z ∈ news')
    (hO : TokO w o k) (hok : k.ok) (lo : (d == sysModules) = false) (hd : @LT.lt Nat _ I d ∧ @LT.lt Nat _ lt d ∧ @LT.lt Nat _ bx d) (hp0 : 0 ≤ p2) (hp1 : p2 ≤ p1 + 9) (hq0 : 0 ≤ q2) (hq1 : q2 < 2147483647) :
    FPost h₀ L s₁ I oI (rowLed lt bx l n) (rowPs lt bx) (rowP w p lt bx) QQ i .next s₂ := by
  obtain ⟨d1, d2, d3⟩ := hd
  rw [List.push_toArray] at hT
  refine fend ⟨p2, q2, ta, tb, vs1 ++ [.ref d], nn1 + 1, ks1 ++ [k], (d, o) :: tl1⟩ F N hs hk ?_ ?_ ?_
  · exact List.forall_mem_cons.mpr ⟨hI, List.forall_mem_cons.mpr ⟨hT, List.forall_mem_cons.mpr ⟨hB, List.forall_mem_cons.mpr ⟨hD, htl⟩⟩⟩⟩
  · exact List.forall_mem_cons.mpr ⟨hIt.symm, List.forall_mem_cons.mpr ⟨hIb.symm, List.forall_mem_cons.mpr ⟨Nat.ne_of_gt d1, hoI⟩⟩⟩
  · refine ⟨hp0, by show p2 ≤ _; push_cast; omega, hq0, hq1, (h5.mono fun _ h => .tail _ h).snoc (.head _) hO lo, fun z hz => ?_, by show (ks1 ++ [k]).length = _; simp [h7], List.forall_mem_cons.mpr ⟨Nat.ne_of_gt d2, h8⟩, List.forall_mem_cons.mpr ⟨Nat.ne_of_gt d3, h9⟩⟩
    rcases List.mem_append.mp hz with h | h
    · exact h6 z h
    · rw [List.mem_singleton.mp h]; exact hok
theorem c_row {bx l : Addr} {vs : List Value} {ns : List Int} {p q : Int} {t1 t2 : Tok} {n : Nat} 
  (B : Below A₀ base outer h₀) (F : Fr h₀ L s.heap m) (X : (hd.heap_39 w.params).In h₀) (N : News h₀ L s.heap [(bx, boxO l p q t1 t2 n)]) (T : Top hd.view_39 (looseW hd.view_39 [Str.ofString "_Delimiter"]) mean mg mb h₀) (hk : cs.kind = .function)
  (hl : base.IsList l vs.toArray) (hi : IntsAre vs ns) (hlen : ns.length ≤ 63)
  (hp0 : 0 ≤ p) (hp1 : p < 2 ^ 20) (hq0 : 0 ≤ q) (hq1 : q < 2147483647)
  (hd : dp + 3 < recursionLimit) (hu : un + 24 < cLine)
  (ret : ∀ lst tv nn ks tl p' q' t1' t2' h' tk', ToksAre w tl tv ks → (∀ k ∈ ks, k.ok) → 1 ≤ ks.length → ks.length ≤ 6 → lst ≠ bx → (∀ z ∈ tl, z.1 ≠ lst) → (∀ z ∈ tl, z.1 ≠ bx) → 0 ≤ p' → p' ≤ p + 60 → 0 ≤ q' → q' < 2147483647 → Fr h₀ L h' m → News h₀ L h' ((lst, listOf tv.toArray nn) :: (bx, boxO l p' q' t1' t2' n) :: tl) → Q (.ref lst) { s with heap := h', toks := tk' }) :
  wpAny (model PySem.Challenge.rw_fe5002_01.row.prog w) (ktrTop dp un gd cn cs L a ccd cl outer) (call (.ref 167) [.ref bx]) Q E s := by
  w_top off
  revert X; k_fill; intro X
  refine wpAny_call ?_
  k_dflt cell_enter
  k_steps
  unfold Stop
  refine For_invVF (by assumption) rfl rfl ?_
  k_steps
  unfold Stop
  rename_i lt hA0 l1 FA0 NA0 tkx v2 q2 tv2 ta tb hA1 tkA hv0 hv1 hq02 hq12 FA NA hB1 tkB tr1 tr2 tr3 R9 F9 N9 K9
  refine' my_range (σ := RS) (n := (1 + v2).toNat) (rowLed lt bx l n) (rowPs lt bx) (rowP w p lt bx) ⟨p + 1, q2, ta, tb, [], 0, [], []⟩ rfl R9 (small_one (by decide) (by decide) (by omega) (by omega)) (by rw [rangeSize_nat]; simp) F9 N9 ?hk0 (fun _ h => h) ?hp0 ?turn ?done
  (case hk0 => kst_all)
  (case hp0 => exact ⟨by show 0 ≤ p + 1; omega, by show p + 1 ≤ p + 1 + 9 * ((0 : Nat) : Int); omega, hq02, hq12, .nil, (fun _ h => nomatch h), rfl, (fun _ h => nomatch h), (fun _ h => nomatch h)⟩)
  (case turn =>
    rintro i ti ⟨p1, q1, t11, t12, vs1, nn1, ks1, tl1⟩ u h tk I oI hi ⟨h1, h2, h3, h4, h5, h6, h7, h8, h9⟩ F1 N1 hoffI
    dsimp only [envOf, kstB, rowLed, rowPs] at h1 h2 h3 h4 h5 h6 h7 h8 h9 F1 N1 hoffI
    have hIb : I ≠ bx := (hoffI _ (.tail _ (.head _))).symm
    have hIt : I ≠ lt := (hoffI _ (.head _)).symm
    have hoI : ∀ p ∈ tl1, p.1 ≠ I := fun p hp => hoffI p (.tail _ (.tail _ hp))
    have hvl : vs1.length = i := by rw [h5.len, h7]
    k_steps
    rotate_left 0
    iterate 6 (
      (with_reducible rename News _ _ _ _ => N9)
      (with_reducible rename Fr _ _ _ _ => F9)
      refine' row_fin h2 h5 h6 h7 h8 h9 hIb hIt hoI F9 N9 ?hs ?hk (by k_mem) (by k_mem) (by k_mem) (by k_mem) ?htl ?_ ?_ ?lo ?hd ?b1 ?b2 ?b3 ?b4
      (case hs => with_unfolding_all rfl)
      (case hk => kst_all)
      (case htl => intro p9 h9; kst_mem)
      (case lo => assumption)
      (case hd => (refine ⟨?_, ?_, ?_⟩ <;> omega))
      (case b1 => omega)
      (case b2 => omega)
      (case b3 => assumption)
      (case b4 => assumption)
      rotate_left 3)
    rotate_left 1
    · exact tok_intro (k := Tk.live _) (by assumption) (by rfl) (fun _ => ⟨⟨_, by rfl⟩, by rfl⟩)
    · exact ⟨by assumption, by assumption, by assumption⟩
    rotate_left 1
    · exact tok_intro (k := Tk.dead _) (by assumption) (by rfl) (fun _ => ⟨⟨_, by rfl⟩, by rfl⟩)
    · exact ⟨by assumption, by assumption, by assumption⟩
    rotate_left 1
    · exact tok_intro (k := Tk.soft) (by assumption) (by rfl) (fun h => by cases h)
    · exact trivial
    rotate_left 1
    · exact tok_intro (k := Tk.brk) (by assumption) (by rfl) (fun h => by cases h)
    · exact trivial
    rotate_left 1
    · exact tok_intro (k := Tk.code) (by assumption) (by rfl) (fun h => by cases h)
    · exact trivial
    rotate_left 1
    · exact tok_intro (k := Tk.link) (by assumption) (by rfl) (fun h => by cases h)
    · exact trivial)
  (case done =>
    rintro ⟨p1, q1, t11, t12, vs1, nn1, ks1, tl1⟩ u h tk ⟨h1, h2, h3, h4, h5, h6, h7, h8, h9⟩ F1 N1
    dsimp only [envOf, kstB, rowLed, rowPs] at h1 h2 h3 h4 h5 h6 h7 h8 h9 F1 N1
    k_steps
    exact ret lt vs1 nn1 ks1 tl1 p1 q1 t11 t12 _ _ h5 h6 (by omega) (by omega) (fun e => Nat.lt_irrefl bx (e ▸ l1)) h8 h9 h1 (by omega) h3 h4 (by k_asm) (by k_asm))
end
end Mine

namespace Mine
set_option maxRecDepth 100000
set_option maxHeartbeats 4000000


section
variable {w : World} {A : Around} {E : Value → Shared → Prop} {s : Shared} {h₀ : Heap} {L d : Addr} {news : List (Addr × Obj)} {o : Obj} {kvs : List (Str × Value)} {v : Value} {x : Str} {t u : Tok} {k : Tk}
theorem tok_item {value slice : PySem.Expr} {Q : Value → Shared → Prop} (N : News h₀ L s.heap news) (hp : (d, o) ∈ news) (hd : o.IsDictOf (strKind prog0 w) kvs) (hl : valueAt kvs x = some v) (h : Q v { s with toks := s.toks + 1 })
    (hs : subscripted slice false (.ref d) (.str x t) = operate [.ref d, (.str x t)] (getItem (.ref d) (.str x t)) := by with_unfolding_all rfl) (hg : ∀ r, letTemporaryGo value (.ref d) r = pure () := by intro _; with_unfolding_all rfl) :
    wpAny (model prog0 w) A (subscriptTail value slice (.ref d) (.str x t)) Q E s := kda_item N hp hd (strKind_is _ _ _ _) hl h hs hg
theorem eq_text {Q : Value → Shared → Prop} (h : Q (.bool k.isText) s) : wpAny (model prog0 w) A (compareOp .Eq (.str k.type t) (.str (Str.ofString "text") u)) Q E s := eq_str (by rw [type_text]; exact h)
theorem in_brk {T : Addr} {t1 t2 : Tok} {n : Nat} {Q : Value → Shared → Prop} (N : News h₀ L s.heap news) (hp : (T, ({ cls := .type "tuple", data := .seq #[.str (Str.ofString "softbreak") t1, .str (Str.ofString "linebreak") t2] n } : Obj)) ∈ news)
    (h : Q (.bool k.isBreak) s) : wpAny (model prog0 w) A (compareOp .In (.str k.type t) (.ref T)) Q E s :=
  in_tuple_strs (News.isTup N hp) (.cons _ _ (.cons _ _ .nil)) (by rw [type_brk]; exact h)
end
local macro_rules | `(tactic| k_mem) => `(tactic| first | exact my_head | (refine my_tail ?_; k_mem))
local macro_rules | `(tactic| walk_at "subscriptTail Name Constant ref str") => `(tactic| (k_dflt (refine' tok_item ?N ?m ?d ?l ?_ ?hs ?hg; (case d => with_reducible assumption); (case l => with_reducible assumption); (case N => k_asm); (case m => k_mem); (case hs => with_unfolding_all rfl); (case hg => (intro _; with_unfolding_all rfl)))))
local macro_rules | `(tactic| walk_at "compareOp Eq str str") => `(tactic| (with_reducible refine eq_text ?_))
local macro_rules | `(tactic| walk_at "compareOp In str ref") => `(tactic| (k_dflt (refine' in_brk ?N ?m ?_; (case N => k_asm); (case m => k_mem))))
section
variable {w : World} {mean : ExcName → Option Value} {mg mb : Str → Option Value} {dp un : Nat} {gd : Option (List Code)} {cn : Str} {cs : Scope} {a' : Addr} {ccd : Value} {cl : List (Str × Addr)} {outer : List Env} {A₀ : Around} {base h₀ : Heap} {L : Addr} {m : Str → Option Value} {s : Shared} {news : List (Addr × Obj)} {Q E : Value → Shared → Prop}






theorem int_ret {i j : Int} {t : Tok} {h' : Heap} {tk' : Nat} (ret : ∀ t h' tk', Fr h₀ L h' m → News h₀ L h' news → Q (.int j t) { s with heap := h', toks := tk' }) (e : i = j) (F : Fr h₀ L h' m) (N : News h₀ L h' news) : Q (.int i t) { s with heap := h', toks := tk' } := e ▸ ret t h' tk' F N
theorem str_ret {i j : Str} {t : Tok} {h' : Heap} {tk' : Nat} (ret : ∀ t h' tk', Fr h₀ L h' m → News h₀ L h' news → Q (.str j t) { s with heap := h', toks := tk' }) (e : i = j) (F : Fr h₀ L h' m) (N : News h₀ L h' news) : Q (.str i t) { s with heap := h', toks := tk' } := e ▸ ret t h' tk' F N
theorem c_length {a : Addr} {o : Obj} {k : Tk} (hm : (a, o) ∈ news) (hO : TokO w o k) (hok : k.ok)
  (B : Below A₀ base outer h₀) (F : Fr h₀ L s.heap m) (X : (hd.heap_39 w.params).In h₀) (N : News h₀ L s.heap news) (T : Top hd.view_39 (looseW hd.view_39 [Str.ofString "_Delimiter"]) mean mg mb h₀) (hk : cs.kind = .function)
  (hd : dp + 1 < recursionLimit) (hu : un + 8 < cLine)
  (ret : ∀ t h' tk', Fr h₀ L h' m → News h₀ L h' news → Q (.int (k.src.length) t) { s with heap := h', toks := tk' }) :
  wpAny (model PySem.Challenge.rw_fe5002_01.row.prog w) (ktrTop dp un gd cn cs L a' ccd cl outer) (call (.ref 90) [.ref a]) Q E s := by
  obtain ⟨kvs, hD, ⟨t1, ht⟩, hr⟩ := hO
  w_top off
  revert X; k_fill; intro X
  refine wpAny_call ?_
  k_dflt cell_enter
  cases e : k.isText with
  | true =>
    obtain ⟨⟨u1, hraw⟩, _⟩ := hr e
    have hlen : k.raw.length ≤ 1000 := by
      have := (src_ok hok).2.2
      unfold Tk.src at this
      rw [if_pos e] at this
      omega
    have es : k.src = k.raw := if_pos e
    k_steps
    exact int_ret ret (by rw [es]) (by k_asm) (by k_asm)
  | false =>
    clear hr
    have es : k.src.length = 1 := by
      cases k <;> first | (cases e; done) | decide +kernel
    k_steps
    exact int_ret ret (by rw [es]; rfl) (by k_asm) (by k_asm)

local macro_rules | `(tactic| walk_at "exec For Name Name cons nil") => `(tactic| (refine Stop.out ?_))
local macro_rules | `(tactic| walk_at "pyIter ref") => `(tactic| (refine Stop.out ?_))
local macro_rules | `(tactic| walk_at "FPost") => `(tactic| (refine fpost_ret ?_; (try dsimp only)))
local macro_rules | `(tactic| kst_allIn) => `(tactic| (refine List.forall_mem_cons.mpr ⟨by k_mem, ?_⟩; kst_allIn))
local macro_rules | `(tactic| k_all) => `(tactic| with_reducible assumption)
local macro_rules | `(tactic| size_fits) => `(tactic| first | (with_reducible assumption) | (rw [sizeLine_eq]; omega))
local macro_rules | `(tactic| walk_at "callWith") => `(tactic| ((with_reducible show wpAny _ _ (callWith _ (Value.builtin _) [Value.ref _] (backTo _ (starEach (_ :: _) _)) []) _ _ _); k_dflt (refine callWith_method1 ?_)))

theorem src_fin {L : Addr} {m' : Str → Option Value} {news news' : List (Addr × Obj)} {vals : List Value} {ks : List Tk} {n1 i : Nat} {s₁ s₂ : Shared} {h' : Heap} {tk' : Nat} {I vl : Addr} {oI : Obj} {k : Tk} {x : Str} {u : Tok} {QQ : Flow → Shared → Prop}
    (h1 : StrsAre vals ((ks.take i).map Tk.src)) (hki : ks[i]? = some k) (ex : x = k.src)
    (F : Fr h₀ L h' m') (N : News h₀ L h' news') (hs : s₂ = { s₁ with heap := h', toks := tk' }) (hk : ∀ z ∈ [((Str.ofString "values" : Str), Value.ref vl)], m' z.1 = some z.2)
    (hI : (I, oI) ∈ news') (hV : (vl, listOf (vals.toArray.push (.str x u)) (n1 + 1)) ∈ news') (hn : ∀ z ∈ news, z ∈ news') (hIv : I ≠ vl) (hIn : ∀ p ∈ news, p.1 ≠ I) :
    FPost h₀ L s₁ I oI (fun (c : List Value × Nat) => (vl, listOf c.1.toArray c.2) :: news) (fun _ => [("values", .ref vl)]) (fun i c => StrsAre c.1 ((ks.take i).map Tk.src)) QQ i .next s₂ := by
  rw [List.push_toArray] at hV
  refine fend (vals ++ [.str x u], n1 + 1) F N hs hk ?_ ?_ ?_
  · exact List.forall_mem_cons.mpr ⟨hI, List.forall_mem_cons.mpr ⟨hV, hn⟩⟩
  · exact List.forall_mem_cons.mpr ⟨hIv.symm, hIn⟩
  · have hs : ks.take (i + 1) = ks.take i ++ [k] := by simp [List.take_add_one, hki]
    show StrsAre _ _
    rw [hs, List.map_append, ex]
    exact StrsAre.append' h1 (.cons _ _ .nil)
theorem c_srctext {lt : Addr} {nn : Nat} {vs : List Value} {ks : List Tk} {tl : List (Addr × Obj)} (hm : (lt, listOf vs.toArray nn) ∈ news) (hT : ToksAre w tl vs ks) (htl : ∀ p ∈ tl, p ∈ news) (hok : ∀ k ∈ ks, k.ok) (h6 : ks.length ≤ 6)
  (B : Below A₀ base outer h₀) (F : Fr h₀ L s.heap m) (X : (hd.heap_39 w.params).In h₀) (N : News h₀ L s.heap news) (T : Top hd.view_39 (looseW hd.view_39 [Str.ofString "_Delimiter"]) mean mg mb h₀) (hk : cs.kind = .function)
  (hd : dp + 1 < recursionLimit) (hu : un + 8 < cLine)
  (ret : ∀ t h' tk', Fr h₀ L h' m → News h₀ L h' news → Q (.str (srcOf ks) t) { s with heap := h', toks := tk' }) :
  wpAny (model PySem.Challenge.rw_fe5002_01.row.prog w) (ktrTop dp un gd cn cs L a' ccd cl outer) (call (.ref 83) [.ref lt]) Q E s := by
  w_top off
  revert X; k_fill; intro X
  refine wpAny_call ?_
  k_dflt cell_enter
  k_steps
  unfold Stop
  refine For_invVF (by assumption) rfl rfl ?_
  k_steps
  unfold Stop
  rename_i vl hA l1 hB0 F9 N9
  refine' my_list (σ := List Value × Nat) (vs := vs) (fun c => (vl, listOf c.1.toArray c.2) :: news) (fun c => [("values", .ref vl)]) (fun i c => StrsAre c.1 ((ks.take i).map Tk.src)) ([], 0) rfl (.inr ⟨nn, fun _ => .tail _ hm⟩) (News.isList N9 (.tail _ hm)) F9 N9 ?hk0 (fun _ h => h) .nil ?turn ?done
  (case hk0 => kst_all)
  (case turn =>
    rintro i v ⟨vals, n1⟩ u h tk I oI hv h1 F1 N1 hoffI
    obtain ⟨a, o, k, rfl, hma, hO, lo, hki⟩ := hT.get hv
    have hma' := htl _ hma
    have hok1 := hok k (List.mem_of_getElem? hki)
    have hi6 : vals.length ≤ 6 := by
      have e1 : vals.length = ((ks.take i).map Tk.src).length := StrsAre.length h1
      rw [List.length_map, List.length_take] at e1
      omega
    obtain ⟨kvs, hD, ⟨t1, ht⟩, hr⟩ := hO
    dsimp only [envOf, kstB] at h1 F1 N1 hoffI
    have hIv : I ≠ vl := (hoffI _ (.head _)).symm
    have hIn : ∀ p ∈ news, p.1 ≠ I := fun p hp => hoffI p (.tail _ hp)
    have hvn : ∀ p ∈ news, p.1 ≠ vl := fun p hp => Nat.ne_of_lt (l1 p hp)
    have hsz : vals.toArray.size ≤ sizeLine := by rw [sizeLine_eq, List.size_toArray]; omega
    cases e : k.isText with
    | true =>
      obtain ⟨⟨u1, hraw⟩, _⟩ := hr e
      clear hr
      k_steps
      (with_reducible rename News _ _ _ _ => N9)
      (with_reducible rename Fr _ _ _ _ => F9)
      refine' src_fin h1 hki ?ex F9 N9 ?hs ?hk (by k_mem) (by k_mem) ?hn hIv hIn
      (case ex => exact (if_pos e).symm)
      (case hs => with_unfolding_all rfl)
      (case hk => kst_all)
      (case hn => intro p9 h9; kst_mem)
    | false =>
      clear hr
      k_steps
      · (with_reducible rename News _ _ _ _ => N9)
        (with_reducible rename Fr _ _ _ _ => F9)
        refine' src_fin h1 hki ?ex1 F9 N9 ?hs1 ?hk1 (by k_mem) (by k_mem) ?hn1 hIv hIn
        (case ex1 => rw [Tk.src, e]; simp [*])
        (case hs1 => with_unfolding_all rfl)
        (case hk1 => kst_all)
        (case hn1 => intro p9 h9; kst_mem)
      · (with_reducible rename News _ _ _ _ => N9)
        (with_reducible rename Fr _ _ _ _ => F9)
        refine' src_fin h1 hki ?ex2 F9 N9 ?hs2 ?hk2 (by k_mem) (by k_mem) ?hn2 hIv hIn
        (case ex2 => rw [Tk.src, e]; simp [*]; decide +kernel)
        (case hs2 => with_unfolding_all rfl)
        (case hk2 => kst_all)
        (case hn2 => intro p9 h9; kst_mem))
  (case done =>
    rintro ⟨vals, n1⟩ u h tk h1 F1 N1
    dsimp only [envOf, kstB] at h1 F1 N1
    rw [hT.len, List.take_length] at h1
    k_steps
    refine join_listW (ys := ks.map Tk.src) (News.isList N1 (.head _)) (by simpa using h1) (by decide +kernel) ?_ ?_
    · have hb := cat_bound (xs := ks.map Tk.src) (n := 18) fun x hx => by
        obtain ⟨k, hk, rfl⟩ := List.mem_map.mp hx
        exact (src_ok (hok k hk)).2.2
      rw [cat_len] at hb
      rw [List.length_map] at hb ⊢
      omega
    · intro t' k'
      k_steps
      exact str_ret ret (join_cat _) (by k_asm) (cb_drop (news := news) (by k_asm) (fun p hp => .tail _ hp)))

theorem src_fin2 {L : Addr} {m' : Str → Option Value} {news news' : List (Addr × Obj)} {ks : List Tk} {i : Nat} {s₁ s₂ : Shared} {h' : Heap} {tk' : Nat} {I : Addr} {oI : Obj} {k : Tk} {x x1 : Str} {u : Tok} {QQ : Flow → Shared → Prop}
    (h1 : x1 = cat ((ks.take i).map Tk.src)) (hki : ks[i]? = some k) (ex : x = k.src)
    (F : Fr h₀ L h' m') (N : News h₀ L h' news') (hs : s₂ = { s₁ with heap := h', toks := tk' }) (hk : ∀ z ∈ [((Str.ofString "text" : Str), Value.str (x1 ++ x) u)], m' z.1 = some z.2)
    (hI : (I, oI) ∈ news') (hn : ∀ z ∈ news, z ∈ news') (hIn : ∀ p ∈ news, p.1 ≠ I) :
    FPost h₀ L s₁ I oI (fun (_ : Str × Nat) => news) (fun c => [("text", .str c.1 c.2)]) (fun i c => c.1 = cat ((ks.take i).map Tk.src)) QQ i .next s₂ := by
  refine fend (x1 ++ x, u) F N hs hk ?_ ?_ ?_
  · exact List.forall_mem_cons.mpr ⟨hI, hn⟩
  · exact hIn
  · have hs : ks.take (i + 1) = ks.take i ++ [k] := by simp [List.take_add_one, hki]
    show x1 ++ x = _
    rw [hs, List.map_append, List.map_singleton, cat_snoc, ex, h1]
local macro_rules | `(tactic| walk_at "binaryOp Add str str") => `(tactic| ((refine my_add (by omega) (by omega) ?_); intro t9 tk9))
theorem type_cl {k : Tk} (e : k.isText = false) (h1 : (k.type == Str.ofString "codespan") = true ∨ (k.type == Str.ofString "link") = true) : chr 65532 = k.src := by
  have h := type_code k
  unfold Tk.src
  cases k <;> first | rfl | (cases e; done) | (exfalso; revert h1; decide +kernel)
theorem type_nocl {k : Tk} (e : k.isText = false) (h1 : (k.type == Str.ofString "codespan") = false) (h2 : (k.type == Str.ofString "link") = false) : Str.ofString "\n" = k.src := by
  cases k <;> first | rfl | (cases e; done) | (exfalso; revert h1; decide +kernel) | (exfalso; revert h2; decide +kernel)
theorem c_source {lt : Addr} {nn : Nat} {vs : List Value} {ks : List Tk} {tl : List (Addr × Obj)} (hm : (lt, listOf vs.toArray nn) ∈ news) (hT : ToksAre w tl vs ks) (htl : ∀ p ∈ tl, p ∈ news) (hok : ∀ k ∈ ks, k.ok) (h6 : ks.length ≤ 6)
  (B : Below A₀ base outer h₀) (F : Fr h₀ L s.heap m) (X : (hd.heap_39 w.params).In h₀) (N : News h₀ L s.heap news) (T : Top hd.view_39 (looseW hd.view_39 [Str.ofString "_Delimiter"]) mean mg mb h₀) (hk : cs.kind = .function)
  (hd : dp + 1 < recursionLimit) (hu : un + 8 < cLine)
  (ret : ∀ t h' tk', Fr h₀ L h' m → News h₀ L h' news → Q (.str (srcOf ks) t) { s with heap := h', toks := tk' }) :
  wpAny (model PySem.Challenge.rw_fe5002_01.row.prog w) (ktrTop dp un gd cn cs L a' ccd cl outer) (call (.ref 188) [.ref lt]) Q E s := by
  w_top off
  revert X; k_fill; intro X
  refine wpAny_call ?_
  k_dflt cell_enter
  k_steps
  unfold Stop
  refine For_invVF (by assumption) rfl rfl ?_
  k_steps
  unfold Stop
  rename_i hB0 F9 N9
  refine' my_list (σ := Str × Nat) (vs := vs) (fun _ => news) (fun c => [("text", .str c.1 c.2)]) (fun i c => c.1 = cat ((ks.take i).map Tk.src)) (Str.ofString "", _) rfl (.inr ⟨nn, fun _ => hm⟩) (News.isList N9 hm) F9 N9 ?hk0 (fun _ h => h) rfl ?turn ?done
  (case hk0 => kst_all)
  (case turn =>
    rintro i v ⟨x1, tx1⟩ u h tk I oI hv h1 F1 N1 hoffI
    obtain ⟨a, o, k, rfl, hma, hO, lo, hki⟩ := hT.get hv
    have hma' := htl _ hma
    have hok1 := hok k (List.mem_of_getElem? hki)
    dsimp only [envOf, kstB] at h1 F1 N1 hoffI
    have hb1 : x1.length ≤ 1000 := by
      have hb := cat_bound (xs := (ks.take i).map Tk.src) (n := 18) fun x hx => by
        obtain ⟨k, hk, rfl⟩ := List.mem_map.mp hx
        exact (src_ok (hok k (List.mem_of_mem_take hk))).2.2
      rw [← h1, List.length_map, List.length_take] at hb
      omega
    obtain ⟨kvs, hD, ⟨t1, ht⟩, hr⟩ := hO
    cases e : k.isText with
    | true =>
      obtain ⟨⟨u1, hraw⟩, _⟩ := hr e
      clear hr
      have es : k.raw = k.src := (if_pos e).symm
      have hb2 := (src_ok hok1).2.2
      rw [← es] at hb2
      k_steps
      (with_reducible rename News _ _ _ _ => N9)
      (with_reducible rename Fr _ _ _ _ => F9)
      refine' src_fin2 h1 hki es F9 N9 ?hs ?hk (by k_mem) ?hn hoffI
      (case hs => with_unfolding_all rfl)
      (case hk => kst_all)
      (case hn => intro p9 h9; kst_mem)
    | false =>
      clear hr
      have hl1 : (Str.ofString "\n").length = 1 := by decide +kernel
      have hl2 : (Str.ofString "￼").length = 1 := by decide +kernel
      have e1 : Str.ofString "￼" = chr 65532 := by decide +kernel
      k_steps
      all_goals (
        (with_reducible rename News _ _ _ _ => N9)
        (with_reducible rename Fr _ _ _ _ => F9)
        refine' src_fin2 h1 hki ?ex1 F9 N9 ?hs1 ?hk1 (by k_mem) ?hn1 hoffI
        (case hs1 => with_unfolding_all rfl)
        (case hk1 => kst_all)
        (case ex1 => first | exact e1.trans (type_cl e (.inl (by assumption))) | exact e1.trans (type_cl e (.inr (by assumption))) | exact type_nocl e (by assumption) (by assumption))
        (case hn1 => intro p9 h9; kst_mem)))
  (case done =>
    rintro ⟨x1, tx1⟩ u h tk h1 F1 N1
    dsimp only [envOf, kstB] at h1 F1 N1
    rw [hT.len, List.take_length] at h1
    k_steps
    exact str_ret ret h1 (by k_asm) (by k_asm))
end
end Mine

namespace Mine
set_option maxRecDepth 100000
set_option maxHeartbeats 4000000


/-- a text part, as an object -/
def SegO (w : World) (o : Obj) (x : Str) : Prop := ∃ t u v, o.IsDictOf (strKind prog0 w) [(Str.ofString "type", .str (Str.ofString "text") t), (Str.ofString "raw", .str x u)] ∧ v = u
inductive SegsAre (w : World) (tl : List (Addr × Obj)) : List Value → List Str → Prop
  | nil : SegsAre w tl [] []
  | cons {a : Addr} {o : Obj} {x : Str} {vs : List Value} {xs : List Str} : (a, o) ∈ tl → SegO w o x → (a == sysModules) = false → SegsAre w tl vs xs → SegsAre w tl (.ref a :: vs) (x :: xs)
theorem SegsAre.mono {w : World} {tl tl' : List (Addr × Obj)} {vs : List Value} {xs : List Str} (h : SegsAre w tl vs xs) (hs : ∀ p ∈ tl, p ∈ tl') : SegsAre w tl' vs xs := by
  induction h with
  | nil => exact .nil
  | cons a b c _ ih => exact .cons (hs _ a) b c ih
theorem SegsAre.snoc {w : World} {tl : List (Addr × Obj)} {vs : List Value} {xs : List Str} {a : Addr} {o : Obj} {x : Str} (h : SegsAre w tl vs xs) (hm : (a, o) ∈ tl) (ho : SegO w o x) (hs : (a == sysModules) = false) : SegsAre w tl (vs ++ [.ref a]) (xs ++ [x]) := by
  induction h with
  | nil => exact .cons hm ho hs .nil
  | cons a b c _ ih => exact .cons a b c ih
theorem SegsAre.len {w : World} {tl : List (Addr × Obj)} {vs : List Value} {xs : List Str} (h : SegsAre w tl vs xs) : vs.length = xs.length := by
  induction h with
  | nil => rfl
  | cons _ _ _ _ ih => simp [ih]
/-- a row of the law's, as an object -/
def RowV (tl : List (Addr × Obj)) (v : Value) (r : Row) : Prop := ∃ a t1 t2 t3 t4 t5 n, v = .ref a ∧ (a, ({ cls := .type "tuple", data := .seq #[.int r.idx t1, .str (chr r.mark) t2, .int r.len t3, .bool r.o, .bool r.c, .int r.len t4, .int r.ord t5] n } : Obj)) ∈ tl
inductive AllBy (O : Value → Row → Prop) : List Value → List Row → Prop
  | nil : AllBy O [] []
  | cons {v : Value} {r : Row} {vs : List Value} {rs : List Row} : O v r → AllBy O vs rs → AllBy O (v :: vs) (r :: rs)
theorem AllBy.mono {O O' : Value → Row → Prop} {vs : List Value} {rs : List Row} (h : AllBy O vs rs) (hs : ∀ v r, O v r → O' v r) : AllBy O' vs rs := by
  induction h with
  | nil => exact .nil
  | cons a _ ih => exact .cons (hs _ _ a) ih
theorem AllBy.append {O : Value → Row → Prop} {vs vs' : List Value} {rs rs' : List Row} (h : AllBy O vs rs) (h' : AllBy O vs' rs') : AllBy O (vs ++ vs') (rs ++ rs') := by
  induction h with
  | nil => exact h'
  | cons a _ ih => exact .cons a ih
theorem AllBy.len {O : Value → Row → Prop} {vs : List Value} {rs : List Row} (h : AllBy O vs rs) : vs.length = rs.length := by
  induction h with
  | nil => rfl
  | cons _ _ ih => simp [ih]
theorem AllBy.get {O : Value → Row → Prop} {vs : List Value} {rs : List Row} (h : AllBy O vs rs) : ∀ {i : Nat} {v : Value}, vs[i]? = some v → ∃ r, rs[i]? = some r ∧ O v r := by
  induction h with
  | nil => intro i v h; simp at h
  | cons a _ ih =>
    intro i v h
    cases i with
    | zero => simp at h; exact ⟨_, by simp, h ▸ a⟩
    | succ i => simp at h; simpa using ih h
def Grows (O : List (Addr × Obj) → Value → Row → Prop) : Prop := ∀ tl tl' v r, (∀ p ∈ tl, p ∈ tl') → O tl v r → O tl' v r
theorem RowV.grows : Grows RowV := by
  rintro tl tl' v r hs ⟨a, t1, t2, t3, t4, t5, n, e, hm⟩
  exact ⟨a, t1, t2, t3, t4, t5, n, e, hs _ hm⟩
structure CS where
  p : Int
  tp : Tok
  i : Nat
  pvs : List Value
  rvs : List Value
  pn : Nat
  rn : Nat
  tl : List (Addr × Obj)
section
variable {prog : Program} {w : World} {A : Around} {E : Value → Shared → Prop} {s : Shared} {a c : Nat} {t u : Tok} {Q : Value → Shared → Prop}
theorem my_len {h₀ : Heap} {L l : Addr} {news : List (Addr × Obj)} {vs : List Value} {n : Nat} (N : News h₀ L s.heap news) (hm : (l, listOf vs.toArray n) ∈ news) (hz : vs.length ≤ 100000) (h : ∀ t tk, Q (.int vs.length t) { s with toks := tk }) : wpAny (model prog w) A (call (.builtin "len") [.ref l]) Q E s :=
  call_len_list (News.isList N hm) (by rw [List.size_toArray]; omega) (by rw [List.size_toArray]; exact h _ _)
theorem eq_cc (h : Q (.bool (a == c)) s) : wpAny (model prog w) A (compareOp .Eq (.str (chr a) t) (.str (chr c) u)) Q E s := eq_str (by
  have e : (chr a == chr c) = (a == c) := by rw [Bool.eq_iff_iff]; simp [chr]
  rw [e]; exact h)
end
section
variable {w : World} {mean : ExcName → Option Value} {mg mb : Str → Option Value} {dp un : Nat} {gd : Option (List Code)} {cn : Str} {cs : Scope} {a' : Addr} {ccd : Value} {cl : List (Str × Addr)} {outer : List Env} {A₀ : Around} {base h₀ : Heap} {L : Addr} {m : Str → Option Value} {s : Shared} {news : List (Addr × Obj)} {Q E : Value → Shared → Prop}







local macro_rules | `(tactic| walk_at "none of mine") => `(tactic| fail "none of mine")
local macro_rules | `(tactic| walk_at "none of mine") => `(tactic| fail "none of mine")
local macro_rules | `(tactic| k_mem) => `(tactic| first | exact my_head | (refine my_tail ?_; k_mem))
local macro_rules | `(tactic| walk_at "subscriptTail Name Name str int") => `(tactic| ((with_reducible show wpAny _ _ (subscriptTail _ _ (Value.str _ _) (Value.int _ _)) _ _ _); (refine my_item (by omega) (by omega) (by omega) ?_); intro u9))
local macro_rules | `(tactic| walk_at "compareOp Eq str str") => `(tactic| first | (with_reducible refine eq_cs ?_) | (with_reducible refine eq_cu ?_) | (with_reducible refine eq_cc ?_))
local macro_rules | `(tactic| walk_at "compareOp NotEq str str") => `(tactic| first | (with_reducible refine ne_cs ?_) | (with_reducible refine ne_cu ?_))
local macro_rules | `(tactic| walk_at "exec While") => `(tactic| (refine Stop.out ?_))
local macro_rules | `(tactic| walk_at "WOut") => `(tactic| (refine' wout ?F ?N ?hs ?hk ?hn ?_; (case hs => with_unfolding_all rfl); (case F => k_asm); (case N => k_asm); (case hk => kst_all); (case hn => exact fun _ h => h)))
local macro_rules | `(tactic| kst_allIn) => `(tactic| (refine List.forall_mem_cons.mpr ⟨by k_mem, ?_⟩; kst_allIn))
local macro_rules | `(tactic| k_all) => `(tactic| with_reducible assumption)
local macro_rules | `(tactic| size_fits) => `(tactic| first | (with_reducible assumption) | (rw [sizeLine_eq]; omega))
local macro_rules | `(tactic| walk_at "callWith") => `(tactic| ((with_reducible show wpAny _ _ (callWith _ (Value.builtin _) [Value.ref _] (backTo _ (starEach (_ :: _) _)) []) _ _ _); k_dflt (refine callWith_method1 ?_)))
local macro_rules | `(tactic| walk_at "call ref") => `(tactic| (k_here; k_dflt (refine' c_flags ?gx ?xl ?i0 ?i1 ?n0 ?n1 ?mk ?B ?F ?X ?N ?T ?hk ?hd ?hu ?_; (case gx => assumption); (case xl => omega); (case i0 => omega); (case i1 => omega); (case n0 => omega); (case n1 => omega); (case mk => assumption); (case B => k_asm); (case F => k_asm); (case X => k_asm); (case N => k_asm); (case T => k_asm); (case hk => first | exact rfl | assumption); (case hd => ktr_room); (case hu => ktr_units)); intro D9 k9 h9 tk9 l9 F9 N9; (k_lt l9)))

local macro_rules | `(tactic| walk_at "call builtin:len") => `(tactic| ((with_reducible show wpAny _ _ (call (Value.builtin "len") [Value.ref _]) _ _ _); k_dflt (refine' my_len ?N ?m ?z ?_; (case N => k_asm); (case m => k_mem); (case z => omega)); intro t9 tk9))
abbrev cutLed (pa ra : Addr) (pv rv : List Value) (rest : List (Addr × Obj)) (c : CS) : List (Addr × Obj) := (pa, listOf (pv ++ c.pvs).toArray c.pn) :: (ra, listOf (rv ++ c.rvs).toArray c.rn) :: (c.tl ++ rest)
abbrev cutPs (x S : Str) (st : Int) (tx tS tst : Tok) (pa ra : Addr) (c : CS) : List (Str × Value) := [("text", .str x tx), ("source", .str S tS), ("start", .int st tst), ("parts", .ref pa), ("rows", .ref ra), ("k", .int c.p c.tp)]
abbrev cutP (O : List (Addr × Obj) → Value → Row → Prop) (w : World) (x S : Str) (st : Int) (pv rv : List Value) (pa ra : Addr) (rest : List (Addr × Obj)) (c : CS) : Prop :=
  0 ≤ c.p ∧ c.p ≤ x.length ∧ (iterC x S st pv.length rv.length c.i).p = c.p ∧ SegsAre w c.tl c.pvs (iterC x S st pv.length rv.length c.i).segs ∧ AllBy (O c.tl) c.rvs (iterC x S st pv.length rv.length c.i).rows ∧ (c.pvs.length : Int) ≤ c.p ∧ (c.rvs.length : Int) ≤ c.p ∧
  (∀ z ∈ c.tl, @LT.lt Nat _ pa z.1 ∧ @LT.lt Nat _ ra z.1 ∧ ∀ y ∈ rest, @LT.lt Nat _ y.1 z.1)

theorem cut_fin {O : List (Addr × Obj) → Value → Row → Prop} (hO : Grows O) {L : Addr} {x S : Str} {st p j : Int} {tj : Tok} {i pn1 rn2 : Nat} {pa ra d : Addr} {o : Obj} {pv rv pvs rvs rvs2 rvs' : List Value} {tl tl' rest news' : List (Addr × Obj)} {c : CS} {m' : Str → Option Value} {s₁ s₂ : Shared} {h' : Heap} {tk' : Nat} {ps : CS → List (Str × Value)}
    (h0 : 0 ≤ p) (hc : c.p = p) (h2 : (iterC x S st pv.length rv.length i).p = p) (h3 : SegsAre w tl pvs (iterC x S st pv.length rv.length i).segs) (h4 : AllBy (O tl) rvs (iterC x S st pv.length rv.length i).rows) (h5 : (pvs.length : Int) ≤ p) (h6 : (rvs.length : Int) ≤ p)
    (h7 : ∀ z ∈ tl, @LT.lt Nat _ pa z.1 ∧ @LT.lt Nat _ ra z.1 ∧ ∀ y ∈ rest, @LT.lt Nat _ y.1 z.1) (hpx : p < x.length) (g0 : j = cutEnd x p)
    (F : Fr h₀ L h' m') (N : News h₀ L h' news') (hs : s₂ = { s₁ with heap := h', toks := tk' }) (hk : ∀ z ∈ ps ⟨j, tj, i + 1, pvs ++ [.ref d], rvs2, pn1 + 1, rn2, (d, o) :: (tl' ++ tl)⟩, m' z.1 = some z.2)
    (er : rvs2 = rvs ++ rvs') (hP : (pa, listOf (pv ++ (pvs ++ [Value.ref d])).toArray (pn1 + 1)) ∈ news') (hR : (ra, listOf (rv ++ rvs2).toArray rn2) ∈ news') (hD : (d, o) ∈ news') (hT : ∀ z ∈ tl', z ∈ news') (hold : ∀ z ∈ tl ++ rest, z ∈ news')
    (hseg : SegO w o (Txt.slice x (some p) (some j))) (lo : (d == sysModules) = false)
    (hrow : AllBy (O tl') rvs' (cutRow x S st pv.length rv.length (iterC x S st pv.length rv.length i))) (hr1 : rvs'.length ≤ 1)
    (hnew : ∀ z ∈ (d, o) :: tl', @LT.lt Nat _ pa z.1 ∧ @LT.lt Nat _ ra z.1 ∧ ∀ y ∈ rest, @LT.lt Nat _ y.1 z.1) :
    WEnd h₀ L s₁ (cutLed pa ra pv rv rest) ps (cutP O w x S st pv rv pa ra rest) (fun c => x.length - c.p.toNat) c s₂ := by
  have hj1 := cutEnd_gt h0 hpx
  have hj2 := cutEnd_le h0 hpx
  rw [← g0] at hj1 hj2
  subst er
  refine ⟨⟨j, tj, i + 1, pvs ++ [.ref d], rvs ++ rvs', pn1 + 1, rn2, (d, o) :: (tl' ++ tl)⟩, h', tk', m', news', hs, F, N, ?_, hk, ?_, ?_⟩
  · refine List.forall_mem_cons.mpr ⟨hP, List.forall_mem_cons.mpr ⟨hR, fun z hz => ?_⟩⟩
    rcases List.mem_append.mp hz with hz | hz
    · rcases List.mem_cons.mp hz with rfl | hz
      · exact hD
      · rcases List.mem_append.mp hz with hz | hz
        · exact hT z hz
        · exact hold z (List.mem_append_left _ hz)
    · exact hold z (List.mem_append_right _ hz)
  · have e : iterC x S st pv.length rv.length (i + 1) = ⟨j, (iterC x S st pv.length rv.length i).segs ++ [Txt.slice x (some p) (some j)], (iterC x S st pv.length rv.length i).rows ++ cutRow x S st pv.length rv.length (iterC x S st pv.length rv.length i)⟩ := by
      show stepC x S st _ _ _ = _
      rw [stepC, if_pos (by rw [h2]; exact hpx), h2, ← g0]
    refine ⟨by show 0 ≤ j; omega, hj2, by rw [e], ?_, ?_, ?_, ?_, ?_⟩
    · rw [e]
      exact (h3.mono fun z hz => .tail _ (List.mem_append_right _ hz)).snoc (.head _) hseg lo
    · rw [e]
      exact (h4.mono fun v r => hO _ _ v r fun z hz => .tail _ (List.mem_append_right _ hz)).append (hrow.mono fun v r => hO _ _ v r fun z hz => .tail _ (List.mem_append_left _ hz))
    · show ((pvs ++ [Value.ref d]).length : Int) ≤ j
      rw [List.length_append]
      simp
      omega
    · show ((rvs ++ rvs').length : Int) ≤ j
      rw [List.length_append]
      push_cast
      omega
    · intro z hz
      rcases List.mem_cons.mp hz with rfl | hz
      · exact hnew _ (.head _)
      · rcases List.mem_append.mp hz with hz | hz
        · exact hnew z (.tail _ hz)
        · exact h7 z hz
  · show x.length - j.toNat < x.length - c.p.toNat
    rw [hc]
    omega
theorem plain_l {c : Nat} (h : (c == 42) = true) : plain c = false := by simp only [plain, star, h, Bool.true_or, Bool.not_true]
theorem plain_u {c : Nat} (h : (c == 95) = true) : plain c = false := by simp only [plain, star, h, Bool.or_true, Bool.not_true]
theorem plain_n {c : Nat} (h : (c == 42) = false) (h' : (c == 95) = false) : plain c = true := by simp only [plain, star, h, h', Bool.or_false, Bool.not_false]
theorem cut_none {x S : Str} {st np nr : Int} {c : CSt} (h : star (atC x c.p.toNat) = false ∨ (openF (atC x c.p.toNat) (beforeC S (st + c.p)) (afterC S (st + c.p + (cutEnd x c.p - c.p))) = false ∧ closeF (atC x c.p.toNat) (beforeC S (st + c.p)) (afterC S (st + c.p + (cutEnd x c.p - c.p))) = false)) : cutRow x S st np nr c = [] := by
  unfold cutRow
  rcases h with h | ⟨h, h'⟩
  · simp [h]
  · simp [h, h']
theorem cut_some {x S : Str} {st np nr p j : Int} {c : CSt} (hp : c.p = p) (g0 : j = cutEnd x p) (h1 : star (atC x p.toNat) = true) (h : openF (atC x p.toNat) (beforeC S (st + p)) (afterC S (st + p + (j - p))) = true ∨ closeF (atC x p.toNat) (beforeC S (st + p)) (afterC S (st + p + (j - p))) = true) :
    cutRow x S st np nr c = [⟨np + c.segs.length, atC x p.toNat, j - p, openF (atC x p.toNat) (beforeC S (st + p)) (afterC S (st + p + (j - p))), closeF (atC x p.toNat) (beforeC S (st + p)) (afterC S (st + p + (j - p))), nr + c.rows.length⟩] := by
  unfold cutRow
  rw [hp, ← g0]
  rcases h with h | h <;> simp [h, h1]
theorem c_cut {x S : Str} {st : Int} {tx tS tst : Tok} {pa ra : Addr} {pv rv : List Value} {pn rn : Nat} {rest : List (Addr × Obj)}
  (hxl : x.length ≤ 18) (hS : goodT S) (hSl : S.length ≤ 108) (hst : 0 ≤ st) (hst2 : st + x.length ≤ S.length) (hpv : pv.length ≤ 1000) (hrv : rv.length ≤ 1000)
  (hpr : @LT.lt Nat _ pa ra) (hrp : ∀ z ∈ rest, z.1 ≠ pa) (hrr : ∀ z ∈ rest, z.1 ≠ ra)
  (B : Below A₀ base outer h₀) (F : Fr h₀ L s.heap m) (X : (hd.heap_39 w.params).In h₀) (N : News h₀ L s.heap ((pa, listOf pv.toArray pn) :: (ra, listOf rv.toArray rn) :: rest)) (T : Top hd.view_39 (looseW hd.view_39 [Str.ofString "_Delimiter"]) mean mg mb h₀) (hk : cs.kind = .function)
  (hd : dp + 4 < recursionLimit) (hu : un + 32 < cLine)
  (ret : ∀ (c : CS) h' tk', ¬ c.p < x.length → cutP RowV w x S st pv rv pa ra rest c → Fr h₀ L h' m → News h₀ L h' (cutLed pa ra pv rv rest c) → Q .none { s with heap := h', toks := tk' }) :
  wpAny (model PySem.Challenge.rw_fe5002_01.row.prog w) (ktrTop dp un gd cn cs L a' ccd cl outer) (call (.ref 181) [.str x tx, .str S tS, .int st tst, .ref pa, .ref ra]) Q E s := by
  w_top off
  revert X; k_fill; intro X
  refine wpAny_call ?_
  k_dflt cell_enter
  k_steps
  unfold Stop
  refine' my_while (σ := CS) (cutLed pa ra pv rv rest) (cutPs x S st tx tS tst pa ra) (cutP RowV w x S st pv rv pa ra rest) (fun c => ¬ c.p < x.length ∧ cutP RowV w x S st pv rv pa ra rest c) (fun c => x.length - c.p.toNat) ⟨0, _, 0, [], [], pn, rn, []⟩ (by assumption) (by assumption) ?hk0 ?hn0 ?hp0 ?turn ?done
  (case hk0 => kst_all)
  (case hn0 => simp only [cutLed, List.append_nil, List.nil_append]; exact fun _ h => h)
  (case hp0 => exact ⟨Int.le_refl _, Int.natCast_nonneg _, rfl, .nil, .nil, Int.le_refl _, Int.le_refl _, fun _ h => nomatch h⟩)
  (case turn =>
    rintro ⟨p, tp, i, pvs, rvs, pn1, rn1, tl⟩ u h tk ⟨h0, h1, h2, h3, h4, h5, h6, h7⟩ F1 N1
    dsimp only [envOf, kstB, cutLed, cutPs] at h0 h1 h2 h3 h4 h5 h6 h7 F1 N1
    have hpl : (pv ++ pvs).length ≤ 1018 := by rw [List.length_append]; omega
    have hrl : (rv ++ rvs).length ≤ 1018 := by rw [List.length_append]; omega
    have hpz : (pv ++ pvs).toArray.size ≤ sizeLine := by rw [sizeLine_eq, List.size_toArray]; omega
    have hrz : (rv ++ rvs).toArray.size ≤ sizeLine := by rw [sizeLine_eq, List.size_toArray]; omega
    have hra : ra ≠ pa := Nat.ne_of_gt hpr
    have hta : ∀ z ∈ tl ++ rest, z.1 ≠ pa := by
      intro z hz
      rcases List.mem_append.mp hz with hz | hz
      · exact Nat.ne_of_gt (h7 z hz).1
      · exact hrp z hz
    have htr : ∀ z ∈ tl ++ rest, z.1 ≠ ra := by
      intro z hz
      rcases List.mem_append.mp hz with hz | hz
      · exact Nat.ne_of_gt (h7 z hz).2.1
      · exact hrr z hz
    k_steps
    rotate_left 3
    · exact ⟨by assumption, h0, h1, h2, h3, h4, h5, h6, h7⟩
    iterate 2 (
      (with_reducible rename News _ _ _ _ => N9)
      (with_reducible rename Fr _ _ _ _ => F9)
      (with_reducible rename (_ == _) = true => hst9)
      (with_reducible rename _ < _ => hpx)
      have hsm : star (atC x p.toNat) = true := by simp only [star, hst9, Bool.true_or, Bool.or_true]
      have hmM := star_mk hsm
      unfold Stop
      refine' my_while (σ := Int × Nat) (fun _ => (pa, listOf (pv ++ pvs).toArray pn1) :: (ra, listOf (rv ++ rvs).toArray rn1) :: (tl ++ rest)) (fun c => [("text", .str x tx), ("source", .str S tS), ("start", .int st tst), ("parts", .ref pa), ("rows", .ref ra), ("k", .int p tp), ("j", .int c.1 c.2)])
        (fun c => p ≤ c.1 ∧ c.1 ≤ x.length ∧ spanEnd (same (atC x p.toNat)) x c.1.toNat = spanEnd (same (atC x p.toNat)) x p.toNat) (fun c => c.1 = cutEnd x p) (fun c => x.length - c.1.toNat) (p, _) F9 N9 ?hk1 (fun _ h => h) ⟨Int.le_refl _, h1, rfl⟩ ?turn1 ?done1
      (case hk1 => kst_all)
      (case turn1 =>
        rintro ⟨j, tj⟩ u1 hh1 tk1 ⟨g0, g1, g2⟩ F2 N2
        dsimp only [envOf, kstB] at g0 g1 g2 F2 N2
        k_steps
        · refine' wend (_, _) ?Fw ?Nw ?hsw ?hkw ?hnw ?_ ?_
          (case hsw => with_unfolding_all rfl); (case Fw => k_asm); (case Nw => k_asm); (case hkw => kst_all); (case hnw => exact fun _ h => h)
          · exact ⟨by show p ≤ j + 1; omega, by show j + 1 ≤ _; omega, scan_step g0 h0 (by assumption) g2 (by assumption)⟩
          · show x.length - (j + 1).toNat < x.length - j.toNat
            omega
        · exact (scan_stop g0 h0 g2 fun _ => by assumption).trans (cutEnd_star hsm).symm
        · exact (scan_stop g0 h0 g2 fun h => absurd h (by assumption)).trans (cutEnd_star hsm).symm)
      (case done1 =>
        rintro ⟨j, tj⟩ u1 hh1 tk1 g0 F2 N2
        dsimp only [envOf, kstB] at g0 F2 N2
        have hj1 := cutEnd_gt h0 hpx
        have hj2 := cutEnd_le h0 hpx
        rw [← g0] at hj1 hj2
        k_steps
        · (with_reducible rename News _ _ _ _ => N9)
          (with_reducible rename Fr _ _ _ _ => F9)
          (with_reducible rename _ ∧ _ => l2)
          obtain ⟨l20, l21, l22, l23, l24⟩ := l2
          (with_reducible rename _ ∧ _ => lR)
          obtain ⟨lR1, lR2, lR3, lR4⟩ := lR
          simp only [List.push_toArray, List.append_assoc] at N9
          refine' cut_fin (rvs' := [.ref _]) (tl' := [(_, ({ cls := .type "tuple", data := .seq #[.int _ _, .str _ _, .int _ _, .bool _, .bool _, .int _ _, .int _ _] _ } : Obj))]) RowV.grows h0 rfl h2 h3 h4 h5 h6 h7 hpx g0 F9 N9 ?hsx ?hkx rfl (by k_mem) (by k_mem) (by k_mem) ?hTx ?hox ?hsg ?lox ?hrw (Nat.le_refl _) ?hnx
          (case hsx => with_unfolding_all rfl)
          (case hkx => kst_all)
          (case hTx => exact fun z hz => List.mem_singleton.mp hz ▸ (by k_mem))
          (case hox => intro z hz; repeat (first | exact hz | refine my_tail ?_))
          (case hsg => exact ⟨_, _, _, by assumption, rfl⟩)
          (case lox => assumption)
          (case hrw =>
            rw [cut_some h2 g0 hsm (.inl (by assumption)), ← h3.len, ← h4.len]
            refine .cons ?_ .nil
            rw [List.length_append, List.length_append, Int.natCast_add, Int.natCast_add]
            exact ⟨_, _, _, _, _, _, _, rfl, .head _⟩)
          (case hnx => exact List.forall_mem_cons.mpr ⟨⟨l22, l23, fun y hy => ktn_ltOf l24 _ (List.mem_append_right _ hy)⟩, List.forall_mem_cons.mpr ⟨⟨lR2, lR3, fun y hy => ktn_ltOf lR4 _ (List.mem_append_right _ hy)⟩, fun _ h => nomatch h⟩⟩)
        · (with_reducible rename News _ _ _ _ => N9)
          (with_reducible rename Fr _ _ _ _ => F9)
          (with_reducible rename _ ∧ _ => l2)
          obtain ⟨l20, l21, l22, l23, l24⟩ := l2
          (with_reducible rename _ ∧ _ => lR)
          obtain ⟨lR1, lR2, lR3, lR4⟩ := lR
          simp only [List.push_toArray, List.append_assoc] at N9
          refine' cut_fin (rvs' := [.ref _]) (tl' := [(_, ({ cls := .type "tuple", data := .seq #[.int _ _, .str _ _, .int _ _, .bool _, .bool _, .int _ _, .int _ _] _ } : Obj))]) RowV.grows h0 rfl h2 h3 h4 h5 h6 h7 hpx g0 F9 N9 ?hsx ?hkx rfl (by k_mem) (by k_mem) (by k_mem) ?hTx ?hox ?hsg ?lox ?hrw (Nat.le_refl _) ?hnx
          (case hsx => with_unfolding_all rfl)
          (case hkx => kst_all)
          (case hTx => exact fun z hz => List.mem_singleton.mp hz ▸ (by k_mem))
          (case hox => intro z hz; repeat (first | exact hz | refine my_tail ?_))
          (case hsg => exact ⟨_, _, _, by assumption, rfl⟩)
          (case lox => assumption)
          (case hrw =>
            rw [cut_some h2 g0 hsm (.inr (by assumption)), ← h3.len, ← h4.len]
            refine .cons ?_ .nil
            rw [List.length_append, List.length_append, Int.natCast_add, Int.natCast_add]
            exact ⟨_, _, _, _, _, _, _, rfl, .head _⟩)
          (case hnx => exact List.forall_mem_cons.mpr ⟨⟨l22, l23, fun y hy => ktn_ltOf l24 _ (List.mem_append_right _ hy)⟩, List.forall_mem_cons.mpr ⟨⟨lR2, lR3, fun y hy => ktn_ltOf lR4 _ (List.mem_append_right _ hy)⟩, fun _ h => nomatch h⟩⟩)
        · (with_reducible rename News _ _ _ _ => N9)
          (with_reducible rename Fr _ _ _ _ => F9)
          (with_reducible rename _ ∧ _ => l2)
          obtain ⟨l21, l22, l23, l24⟩ := l2
          simp only [List.push_toArray, List.append_assoc] at N9
          refine' cut_fin (rvs' := []) (tl' := []) RowV.grows h0 rfl h2 h3 h4 h5 h6 h7 hpx g0 F9 N9 ?hsx ?hkx (List.append_nil _).symm (by k_mem) (by k_mem) (by k_mem) (fun _ h => nomatch h) ?hox ?hsg ?lox ?hrw (Nat.zero_le _) ?hnx
          (case hsx => with_unfolding_all rfl)
          (case hkx => kst_all)
          (case hox => intro z hz; repeat (first | exact hz | refine my_tail ?_))
          (case hsg => exact ⟨_, _, _, by assumption, rfl⟩)
          (case lox => assumption)
          (case hrw =>
            rw [cut_none (.inr (by rw [h2, ← g0]; exact ⟨by assumption, by assumption⟩))]
            exact .nil)
          (case hnx => exact List.forall_mem_cons.mpr ⟨⟨l22, l23, fun y hy => ktn_ltOf l24 _ (List.mem_append_right _ hy)⟩, fun _ h => nomatch h⟩))
      rotate_left 0)
    (with_reducible rename News _ _ _ _ => N9)
    (with_reducible rename Fr _ _ _ _ => F9)
    (with_reducible rename _ < _ => hpx)
    (with_reducible rename (_ == _) = false => hb1)
    have hsf : star (atC x p.toNat) = false := by
      unfold star
      simp only [Bool.or_eq_false_iff]
      exact ⟨by assumption, by assumption⟩
    unfold Stop
    refine' my_while (σ := Int × Nat) (fun _ => (pa, listOf (pv ++ pvs).toArray pn1) :: (ra, listOf (rv ++ rvs).toArray rn1) :: (tl ++ rest)) (fun c => [("text", .str x tx), ("source", .str S tS), ("start", .int st tst), ("parts", .ref pa), ("rows", .ref ra), ("k", .int p tp), ("j", .int c.1 c.2)])
      (fun c => p ≤ c.1 ∧ c.1 ≤ x.length ∧ spanEnd plain x c.1.toNat = spanEnd plain x p.toNat) (fun c => c.1 = cutEnd x p) (fun c => x.length - c.1.toNat) (p, _) F9 N9 ?hk1 (fun _ h => h) ⟨Int.le_refl _, h1, rfl⟩ ?turn1 ?done1
    (case hk1 => kst_all)
    (case turn1 =>
      rintro ⟨j, tj⟩ u1 hh1 tk1 ⟨g0, g1, g2⟩ F2 N2
      dsimp only [envOf, kstB] at g0 g1 g2 F2 N2
      k_steps
      all_goals first
        | exact (scan_stop g0 h0 g2 fun h => absurd h (by assumption)).trans (cutEnd_plain hsf).symm
        | exact (scan_stop g0 h0 g2 fun _ => plain_l (by assumption)).trans (cutEnd_plain hsf).symm
        | exact (scan_stop g0 h0 g2 fun _ => plain_u (by assumption)).trans (cutEnd_plain hsf).symm
        | (refine' wend (_, _) ?Fw ?Nw ?hsw ?hkw ?hnw ?_ ?_
           (case hsw => with_unfolding_all rfl); (case Fw => k_asm); (case Nw => k_asm); (case hkw => kst_all); (case hnw => exact fun _ h => h)
           · exact ⟨by show p ≤ j + 1; omega, by show j + 1 ≤ _; omega, scan_step g0 h0 (by assumption) g2 (plain_n (by assumption) (by assumption))⟩
           · show x.length - (j + 1).toNat < x.length - j.toNat
             omega))
    (case done1 =>
      rintro ⟨j, tj⟩ u1 hh1 tk1 g0 F2 N2
      dsimp only [envOf, kstB] at g0 F2 N2
      have hj1 := cutEnd_gt h0 hpx
      have hj2 := cutEnd_le h0 hpx
      rw [← g0] at hj1 hj2
      k_steps
      · (with_reducible rename News _ _ _ _ => N9)
        (with_reducible rename Fr _ _ _ _ => F9)
        (with_reducible rename _ ∧ _ => l2)
        obtain ⟨l22, l23, l24⟩ := l2
        simp only [List.push_toArray, List.append_assoc] at N9
        refine' cut_fin (rvs' := []) (tl' := []) RowV.grows h0 rfl h2 h3 h4 h5 h6 h7 hpx g0 F9 N9 ?hsx ?hkx (List.append_nil _).symm (by k_mem) (by k_mem) (by k_mem) (fun _ h => nomatch h) ?hox ?hsg ?lox ?hrw (Nat.zero_le _) ?hnx
        (case hsx => with_unfolding_all rfl)
        (case hkx => kst_all)
        (case hox => intro z hz; repeat (first | exact hz | refine my_tail ?_))
        (case hsg => exact ⟨_, _, _, by assumption, rfl⟩)
        (case lox => assumption)
        (case hrw =>
          rw [cut_none (.inl (by rw [h2]; exact hsf))]
          exact .nil)
        (case hnx => exact List.forall_mem_cons.mpr ⟨⟨l22, l23, fun y hy => ktn_ltOf l24 _ (List.mem_append_right _ hy)⟩, fun _ h => nomatch h⟩)))
  (case done =>
    rintro ⟨p, tp, i, pvs, rvs, pn1, rn1, tl⟩ u h tk ⟨hR, hP⟩ F1 N1
    dsimp only [envOf, kstB, cutPs] at hR F1 N1
    k_steps
    exact ret _ _ _ hR hP (by k_asm) (by k_asm))
end
end Mine

namespace Mine
set_option maxRecDepth 100000
set_option maxHeartbeats 4000000

section
variable {w : World} {mean : ExcName → Option Value} {mg mb : Str → Option Value} {dp un : Nat} {gd : Option (List Code)} {cn : Str} {cs : Scope} {a' : Addr} {ccd : Value} {cl : List (Str × Addr)} {outer : List Env} {A₀ : Around} {base h₀ : Heap} {L : Addr} {m : Str → Option Value} {s : Shared} {news : List (Addr × Obj)} {Q E : Value → Shared → Prop}

local macro_rules | `(tactic| k_mem) => `(tactic| first | exact my_head | (refine my_tail ?_; k_mem))
local macro_rules | `(tactic| walk_at "subscriptTail Name Name str int") => `(tactic| ((with_reducible show wpAny _ _ (subscriptTail _ _ (Value.str _ _) (Value.int _ _)) _ _ _); (refine my_item (by omega) (by omega) (by omega) ?_); intro u9))
local macro_rules | `(tactic| walk_at "subscriptTail Name Constant ref str") => `(tactic| (k_dflt (refine' tok_item ?N ?m ?d ?l ?_ ?hs ?hg; (case d => with_reducible assumption); (case l => with_reducible assumption); (case N => k_asm); (case m => k_mem); (case hs => with_unfolding_all rfl); (case hg => (intro _; with_unfolding_all rfl)))))
local macro_rules | `(tactic| walk_at "compareOp Eq str str") => `(tactic| first | (with_reducible refine eq_cs ?_) | (with_reducible refine eq_cu ?_) | (with_reducible refine eq_cc ?_))
local macro_rules | `(tactic| walk_at "compareOp NotIn str str") => `(tactic| ((with_reducible refine my_notin ?_)))
local macro_rules | `(tactic| walk_at "exec While") => `(tactic| (refine Stop.out ?_))
local macro_rules | `(tactic| walk_at "WOut") => `(tactic| (refine' wout ?F ?N ?hs ?hk ?hn ?_; (case hs => with_unfolding_all rfl); (case F => k_asm); (case N => k_asm); (case hk => kst_all); (case hn => exact fun _ h => h)))
local macro_rules | `(tactic| kst_allIn) => `(tactic| (refine List.forall_mem_cons.mpr ⟨by k_mem, ?_⟩; kst_allIn))
local macro_rules | `(tactic| k_all) => `(tactic| with_reducible assumption)
local macro_rules | `(tactic| size_fits) => `(tactic| first | (with_reducible assumption) | (rw [sizeLine_eq]; omega))
local macro_rules | `(tactic| walk_at "callWith") => `(tactic| ((with_reducible show wpAny _ _ (callWith _ (Value.builtin _) [Value.ref _] (backTo _ (starEach (_ :: _) _)) []) _ _ _); k_dflt (refine callWith_method1 ?_)))
local macro_rules | `(tactic| walk_at "call ref") => `(tactic| (k_here; first
  | (k_dflt (refine' c_next ?hx ?p0 ?p1 ?B ?F ?X ?N ?T ?hk ?hd ?hu ?_; (case hx => omega); (case p0 => omega); (case p1 => omega); (case B => k_asm); (case F => k_asm); (case X => k_asm); (case N => k_asm); (case T => k_asm); (case hk => first | exact rfl | assumption); (case hd => ktr_room); (case hu => ktr_units)); intro t9 h9 tk9 F9 N9)
  | (k_dflt (refine' c_open ?gx ?xl ?i0 ?i1 ?n0 ?n1 ?mk ?B ?F ?X ?N ?T ?hk ?hd ?hu ?_; (case gx => assumption); (case xl => omega); (case i0 => omega); (case i1 => omega); (case n0 => omega); (case n1 => omega); (case mk => assumption); (case B => k_asm); (case F => k_asm); (case X => k_asm); (case N => k_asm); (case T => k_asm); (case hk => first | exact rfl | assumption); (case hd => ktr_room); (case hu => ktr_units)); intro h9 tk9 F9 N9)
  | (k_dflt (refine' c_close ?gx ?xl ?i0 ?i1 ?n0 ?n1 ?mk ?B ?F ?X ?N ?T ?hk ?hd ?hu ?_; (case gx => assumption); (case xl => omega); (case i0 => omega); (case i1 => omega); (case n0 => omega); (case n1 => omega); (case mk => assumption); (case B => k_asm); (case F => k_asm); (case X => k_asm); (case N => k_asm); (case T => k_asm); (case hk => first | exact rfl | assumption); (case hd => ktr_room); (case hu => ktr_units)); intro h9 tk9 F9 N9)))
local macro_rules | `(tactic| walk_at "call builtin:len") => `(tactic| first | ((with_reducible show wpAny _ _ (call (Value.builtin "len") [Value.ref _]) _ _ _); k_dflt (refine' my_len ?N ?m ?z ?_; (case N => k_asm); (case m => k_mem); (case z => omega)); intro t9 tk9))

/-- a delimiter, as an object -/
def DelV (w : World) (tl : List (Addr × Obj)) (v : Value) (r : Row) : Prop := ∃ a dx t1 t2 t3 t4 t5 k1 k2 k3 k4 k5 k6 k7 n t6, v = .ref a ∧ (a, instObj 72 dx) ∈ tl ∧ (dx, dictOf [
  ⟨PyData.keyHash w.params (Str.ofString "index"), .str (Str.ofString "index") k1, .int r.idx t1⟩,
  ⟨PyData.keyHash w.params (Str.ofString "marker"), .str (Str.ofString "marker") k2, .str (chr r.mark) t2⟩,
  ⟨PyData.keyHash w.params (Str.ofString "length"), .str (Str.ofString "length") k3, .int r.len t3⟩,
  ⟨PyData.keyHash w.params (Str.ofString "can_open"), .str (Str.ofString "can_open") k4, .bool r.o⟩,
  ⟨PyData.keyHash w.params (Str.ofString "can_close"), .str (Str.ofString "can_close") k5, .bool r.c⟩,
  ⟨PyData.keyHash w.params (Str.ofString "orig_length"), .str (Str.ofString "orig_length") k6, .int r.len t4⟩,
  ⟨PyData.keyHash w.params (Str.ofString "order"), .str (Str.ofString "order") k7, .int r.ord t5⟩] n) ∈ tl ∧ t6 = n
abbrev splPs (bt : Addr) (x S : Str) (st : Int) (tx tS tst : Tok) (pa ra : Addr) (c : CS) : List (Str × Value) := [("token", .ref bt), ("text", .str x tx), ("source", .str S tS), ("source_start", .int st tst), ("parts", .ref pa), ("delimiters", .ref ra), ("pos", .int c.p c.tp)]

theorem DelV.grows {w : World} : Grows (DelV w) := by
  rintro tl tl' v r hs ⟨a, dx, t1, t2, t3, t4, t5, k1, k2, k3, k4, k5, k6, k7, n, t6, e, hm, hm2, e6⟩
  exact ⟨a, dx, t1, t2, t3, t4, t5, k1, k2, k3, k4, k5, k6, k7, n, t6, e, hs _ hm, hs _ hm2, e6⟩
theorem c_split {x S : Str} {st : Int} {tx tS tst : Tok} {pa ra bt : Addr} {ot : Obj} {kvs : List (Str × Value)} {pv rv : List Value} {pn rn : Nat} {rest : List (Addr × Obj)}
  (hxl : x.length ≤ 18) (hS : goodT S) (hSl : S.length ≤ 108) (hst : 0 ≤ st) (hst2 : st + x.length ≤ S.length) (hpv : pv.length ≤ 1000) (hrv : rv.length ≤ 1000)
  (hpr : @LT.lt Nat _ pa ra) (hrp : ∀ z ∈ rest, z.1 ≠ pa) (hrr : ∀ z ∈ rest, z.1 ≠ ra) (hbt : (bt, ot) ∈ rest) (hD : ot.IsDictOf (strKind prog0 w) kvs) (hraw : valueAt kvs (Str.ofString "raw") = some (.str x tx))
  (B : Below A₀ base outer h₀) (F : Fr h₀ L s.heap m) (X : (hd.heap_39 w.params).In h₀) (N : News h₀ L s.heap ((pa, listOf pv.toArray pn) :: (ra, listOf rv.toArray rn) :: rest)) (T : Top hd.view_39 (looseW hd.view_39 [Str.ofString "_Delimiter"]) mean mg mb h₀) (hk : cs.kind = .function)
  (hd : dp + 4 < recursionLimit) (hu : un + 32 < cLine)
  (ret : ∀ (c : CS) h' tk', ¬ c.p < x.length → cutP (DelV w) w x S st pv rv pa ra rest c → Fr h₀ L h' m → News h₀ L h' (cutLed pa ra pv rv rest c) → Q .none { s with heap := h', toks := tk' }) :
  wpAny (model PySem.Challenge.rw_fe5002_01.row.prog w) (ktrTop dp un gd cn cs L a' ccd cl outer) (call (.ref 97) [.ref bt, .str S tS, .int st tst, .ref pa, .ref ra]) Q E s := by
  w_top off
  revert X; k_fill; intro X
  refine wpAny_call ?_
  k_dflt cell_enter
  k_steps
  unfold Stop
  refine' my_while (σ := CS) (cutLed pa ra pv rv rest) (splPs bt x S st tx tS tst pa ra) (cutP (DelV w) w x S st pv rv pa ra rest) (fun c => ¬ c.p < x.length ∧ cutP (DelV w) w x S st pv rv pa ra rest c) (fun c => x.length - c.p.toNat) ⟨0, _, 0, [], [], pn, rn, []⟩ (by assumption) (by assumption) ?hk0 ?hn0 ?hp0 ?turn ?done
  (case hk0 => kst_all)
  (case hn0 => simp only [cutLed, List.append_nil, List.nil_append]; exact fun _ h => h)
  (case hp0 => exact ⟨Int.le_refl _, Int.natCast_nonneg _, rfl, .nil, .nil, Int.le_refl _, Int.le_refl _, fun _ h => nomatch h⟩)
  (case turn =>
    rintro ⟨p, tp, i, pvs, rvs, pn1, rn1, tl⟩ u h tk ⟨h0, h1, h2, h3, h4, h5, h6, h7⟩ F1 N1
    dsimp only [envOf, kstB, cutLed, splPs] at h0 h1 h2 h3 h4 h5 h6 h7 F1 N1
    have hpl : (pv ++ pvs).length ≤ 1018 := by rw [List.length_append]; omega
    have hrl : (rv ++ rvs).length ≤ 1018 := by rw [List.length_append]; omega
    have hpz : (pv ++ pvs).toArray.size ≤ sizeLine := by rw [sizeLine_eq, List.size_toArray]; omega
    have hrz : (rv ++ rvs).toArray.size ≤ sizeLine := by rw [sizeLine_eq, List.size_toArray]; omega
    have hra : ra ≠ pa := Nat.ne_of_gt hpr
    have hta : ∀ z ∈ tl ++ rest, z.1 ≠ pa := by
      intro z hz
      rcases List.mem_append.mp hz with hz | hz
      · exact Nat.ne_of_gt (h7 z hz).1
      · exact hrp z hz
    have htr : ∀ z ∈ tl ++ rest, z.1 ≠ ra := by
      intro z hz
      rcases List.mem_append.mp hz with hz | hz
      · exact Nat.ne_of_gt (h7 z hz).2.1
      · exact hrr z hz
    k_steps
    rotate_left 2
    · exact ⟨by assumption, h0, h1, h2, h3, h4, h5, h6, h7⟩
    · (with_reducible rename _ < _ => hpx)
      (with_reducible rename star _ = true => hsm)
      have hmM := star_mk hsm
      (with_reducible rename News _ _ _ _ => N9)
      (with_reducible rename Fr _ _ _ _ => F9)
      unfold Stop
      refine' my_while (σ := Int × Nat) (fun _ => (pa, listOf (pv ++ pvs).toArray pn1) :: (ra, listOf (rv ++ rvs).toArray rn1) :: (tl ++ rest)) (fun c => [("token", .ref bt), ("text", .str x tx), ("source", .str S tS), ("source_start", .int st tst), ("parts", .ref pa), ("delimiters", .ref ra), ("pos", .int p tp), ("marker", .str (chr (atC x p.toNat)) ?tm), ("end", .int c.1 c.2)])
        (fun c => p ≤ c.1 ∧ c.1 ≤ x.length ∧ spanEnd (same (atC x p.toNat)) x c.1.toNat = spanEnd (same (atC x p.toNat)) x p.toNat) (fun c => c.1 = cutEnd x p) (fun c => x.length - c.1.toNat) (p, _) F9 N9 ?hk1 (fun _ h => h) ⟨Int.le_refl _, h1, rfl⟩ ?turn1 ?done1
      (case hk1 => kst_all)
      (case turn1 =>
        rintro ⟨j, tj⟩ u1 hh1 tk1 ⟨g0, g1, g2⟩ F2 N2
        dsimp only [envOf, kstB] at g0 g1 g2 F2 N2
        k_steps
        all_goals first
          | exact (scan_stop g0 h0 g2 fun h => absurd h (by assumption)).trans (cutEnd_star hsm).symm
          | exact (scan_stop g0 h0 g2 fun _ => by assumption).trans (cutEnd_star hsm).symm
          | (refine' wend (_, _) ?Fw ?Nw ?hsw ?hkw ?hnw ?_ ?_
             (case hsw => with_unfolding_all rfl); (case Fw => k_asm); (case Nw => k_asm); (case hkw => kst_all); (case hnw => exact fun _ h => h)
             · exact ⟨by show p ≤ j + 1; omega, by show j + 1 ≤ _; omega, scan_step g0 h0 (by assumption) g2 (by assumption)⟩
             · show x.length - (j + 1).toNat < x.length - j.toNat
               omega))
      (case done1 =>
        rintro ⟨j, tj⟩ u1 hh1 tk1 g0 F2 N2
        dsimp only [envOf, kstB] at g0 F2 N2
        have hj1 := cutEnd_gt h0 hpx
        have hj2 := cutEnd_le h0 hpx
        rw [← g0] at hj1 hj2
        k_steps
        · k_dflt (refine' call_cls ?k1 ?k2 ?k3 ?k4 ?k5 ?k6 ?_; (case k1 => k_asm); (case k2 => k_asm); (case k3 => k_asm); (case k4 => k_is); (case k5 => k_is); (case k6 => k_is); intro x' d' h' F' N' l1 l2; (try k_lt l1); (try k_lt2 l2))
          k_dflt (refine' code_def ?k1 ?k2 ?k3 ?k4 ?k5 ?kA ?kF ?kK ?k6 ?k7 ?k8 ?k9 ?kB ?_ ?c2 ?c3 ?c4 ?c5; (case kA => exact rfl); (case kF => exact rfl); (case kK => exact rfl); (case k1 => k_asm); (case k2 => k_asm); (case k3 => k_asm); (case k4 => k_asm); (case k5 => k_asm); (case k6 => k_is); (case k7 => k_is); (case k8 => first | ktr_room | (simp only [depth_under_make, depth_deeper]; ktr_room)); (case k9 => first | exact BindsTo.of_eq rfl | exact binds_K (by k_in) rfl (by k_is) rfl rfl rfl); (case c5 => decide); (case kB => exact locs rfl); (case c2 => exact rfl); (case c3 => exact rfl); (case c4 => exact rfl))
          intro g' L' h' FG' F' N' B' X' T'
          (try dsimp only)
          (try k_lift B')
          (try k_fold)
          k_steps
          obtain ⟨l10, l11, l12, l13⟩ := l1
          (with_reducible rename _ ∧ _ => l5)
          obtain ⟨l52, l53, l54⟩ := l5
          (with_reducible rename News _ _ _ _ => N9)
          (with_reducible rename Fr _ _ _ _ => F9)
          simp only [List.push_toArray, List.append_assoc] at N9
          refine' cut_fin (rvs' := [.ref x']) (tl' := [(x', instObj 72 d'), (d', dictOf [⟨_, _, _⟩, ⟨_, _, _⟩, ⟨_, _, _⟩, ⟨_, _, _⟩, ⟨_, _, _⟩, ⟨_, _, _⟩, ⟨_, _, _⟩] _)]) DelV.grows h0 rfl h2 h3 h4 h5 h6 h7 hpx g0 F9 N9 ?hsx ?hkx rfl (by k_mem) (by k_mem) (by k_mem) ?hTx ?hox ?hsg ?lox ?hrw (Nat.le_refl _) ?hnx
          (case hsx => with_unfolding_all rfl)
          (case hkx => kst_all)
          (case hTx => exact List.forall_mem_cons.mpr ⟨by k_mem, List.forall_mem_cons.mpr ⟨by k_mem, fun _ h => nomatch h⟩⟩)
          (case hox => intro z hz; repeat (first | exact hz | refine my_tail ?_))
          (case hsg => exact ⟨_, _, _, by assumption, rfl⟩)
          (case lox => assumption)
          (case hrw =>
            rw [cut_some h2 g0 hsm (.inl (by assumption)), ← h3.len, ← h4.len]
            refine .cons ?_ .nil
            rw [List.length_append, List.length_append, Int.natCast_add, Int.natCast_add]
            exact ⟨_, _, _, _, _, _, _, _, _, _, _, _, _, _, _, _, rfl, .head _, .tail _ (.head _), rfl⟩)
          (case hnx => exact List.forall_mem_cons.mpr ⟨⟨l52, l53, fun y hy => ktn_ltOf l54 _ (List.mem_append_right _ hy)⟩, List.forall_mem_cons.mpr ⟨⟨Nat.lt_trans l11 l2, Nat.lt_trans l12 l2, fun y hy => Nat.lt_trans (ktn_ltOf l13 _ (List.mem_append_right _ hy)) l2⟩, List.forall_mem_cons.mpr ⟨⟨l11, l12, fun y hy => ktn_ltOf l13 _ (List.mem_append_right _ hy)⟩, fun _ h => nomatch h⟩⟩⟩)
        · k_dflt (refine' call_cls ?k1 ?k2 ?k3 ?k4 ?k5 ?k6 ?_; (case k1 => k_asm); (case k2 => k_asm); (case k3 => k_asm); (case k4 => k_is); (case k5 => k_is); (case k6 => k_is); intro x' d' h' F' N' l1 l2; (try k_lt l1); (try k_lt2 l2))
          k_dflt (refine' code_def ?k1 ?k2 ?k3 ?k4 ?k5 ?kA ?kF ?kK ?k6 ?k7 ?k8 ?k9 ?kB ?_ ?c2 ?c3 ?c4 ?c5; (case kA => exact rfl); (case kF => exact rfl); (case kK => exact rfl); (case k1 => k_asm); (case k2 => k_asm); (case k3 => k_asm); (case k4 => k_asm); (case k5 => k_asm); (case k6 => k_is); (case k7 => k_is); (case k8 => first | ktr_room | (simp only [depth_under_make, depth_deeper]; ktr_room)); (case k9 => first | exact BindsTo.of_eq rfl | exact binds_K (by k_in) rfl (by k_is) rfl rfl rfl); (case c5 => decide); (case kB => exact locs rfl); (case c2 => exact rfl); (case c3 => exact rfl); (case c4 => exact rfl))
          intro g' L' h' FG' F' N' B' X' T'
          (try dsimp only)
          (try k_lift B')
          (try k_fold)
          k_steps
          obtain ⟨l10, l11, l12, l13⟩ := l1
          (with_reducible rename _ ∧ _ => l5)
          obtain ⟨l52, l53, l54⟩ := l5
          (with_reducible rename News _ _ _ _ => N9)
          (with_reducible rename Fr _ _ _ _ => F9)
          simp only [List.push_toArray, List.append_assoc] at N9
          refine' cut_fin (rvs' := [.ref x']) (tl' := [(x', instObj 72 d'), (d', dictOf [⟨_, _, _⟩, ⟨_, _, _⟩, ⟨_, _, _⟩, ⟨_, _, _⟩, ⟨_, _, _⟩, ⟨_, _, _⟩, ⟨_, _, _⟩] _)]) DelV.grows h0 rfl h2 h3 h4 h5 h6 h7 hpx g0 F9 N9 ?hsx ?hkx rfl (by k_mem) (by k_mem) (by k_mem) ?hTx ?hox ?hsg ?lox ?hrw (Nat.le_refl _) ?hnx
          (case hsx => with_unfolding_all rfl)
          (case hkx => kst_all)
          (case hTx => exact List.forall_mem_cons.mpr ⟨by k_mem, List.forall_mem_cons.mpr ⟨by k_mem, fun _ h => nomatch h⟩⟩)
          (case hox => intro z hz; repeat (first | exact hz | refine my_tail ?_))
          (case hsg => exact ⟨_, _, _, by assumption, rfl⟩)
          (case lox => assumption)
          (case hrw =>
            rw [cut_some h2 g0 hsm (.inr (by assumption)), ← h3.len, ← h4.len]
            refine .cons ?_ .nil
            rw [List.length_append, List.length_append, Int.natCast_add, Int.natCast_add]
            exact ⟨_, _, _, _, _, _, _, _, _, _, _, _, _, _, _, _, rfl, .head _, .tail _ (.head _), rfl⟩)
          (case hnx => exact List.forall_mem_cons.mpr ⟨⟨l52, l53, fun y hy => ktn_ltOf l54 _ (List.mem_append_right _ hy)⟩, List.forall_mem_cons.mpr ⟨⟨Nat.lt_trans l11 l2, Nat.lt_trans l12 l2, fun y hy => Nat.lt_trans (ktn_ltOf l13 _ (List.mem_append_right _ hy)) l2⟩, List.forall_mem_cons.mpr ⟨⟨l11, l12, fun y hy => ktn_ltOf l13 _ (List.mem_append_right _ hy)⟩, fun _ h => nomatch h⟩⟩⟩)
        · (with_reducible rename News _ _ _ _ => N9)
          (with_reducible rename Fr _ _ _ _ => F9)
          (with_reducible rename _ ∧ _ => l2)
          obtain ⟨l22, l23, l24⟩ := l2
          simp only [List.push_toArray, List.append_assoc] at N9
          refine' cut_fin (rvs' := []) (tl' := []) DelV.grows h0 rfl h2 h3 h4 h5 h6 h7 hpx g0 F9 N9 ?hsx ?hkx (List.append_nil _).symm (by k_mem) (by k_mem) (by k_mem) (fun _ h => nomatch h) ?hox ?hsg ?lox ?hrw (Nat.zero_le _) ?hnx
          (case hsx => with_unfolding_all rfl)
          (case hkx => kst_all)
          (case hox => intro z hz; repeat (first | exact hz | refine my_tail ?_))
          (case hsg => exact ⟨_, _, _, by assumption, rfl⟩)
          (case lox => assumption)
          (case hrw =>
            rw [cut_none (.inr (by rw [h2, ← g0]; exact ⟨by assumption, by assumption⟩))]
            exact .nil)
          (case hnx => exact List.forall_mem_cons.mpr ⟨⟨l22, l23, fun y hy => ktn_ltOf l24 _ (List.mem_append_right _ hy)⟩, fun _ h => nomatch h⟩))
    · (with_reducible rename _ < _ => hpx)
      (with_reducible rename star _ = false => hsf)
      have g0 := (cutEnd_plain hsf).symm
      have hj1 := cutEnd_gt h0 hpx
      have hj2 := cutEnd_le h0 hpx
      rw [← g0] at hj1 hj2
      dsimp only
      (with_reducible rename News _ _ _ _ => N9)
      (with_reducible rename Fr _ _ _ _ => F9)
      (with_reducible rename _ ∧ _ => l2)
      obtain ⟨l22, l23, l24⟩ := l2
      simp only [List.push_toArray, List.append_assoc] at N9
      refine' cut_fin (rvs' := []) (tl' := []) DelV.grows h0 rfl h2 h3 h4 h5 h6 h7 hpx g0 F9 N9 ?hsx ?hkx (List.append_nil _).symm (by k_mem) (by k_mem) (by k_mem) (fun _ h => nomatch h) ?hox ?hsg ?lox ?hrw (Nat.zero_le _) ?hnx
      (case hsx => with_unfolding_all rfl)
      (case hkx => kst_all)
      (case hox => intro z hz; repeat (first | exact hz | refine my_tail ?_))
      (case hsg => exact ⟨_, _, _, by assumption, rfl⟩)
      (case lox => assumption)
      (case hrw =>
        rw [cut_none (.inl (by rw [h2]; exact hsf))]
        exact .nil)
      (case hnx => exact List.forall_mem_cons.mpr ⟨⟨l22, l23, fun y hy => ktn_ltOf l24 _ (List.mem_append_right _ hy)⟩, fun _ h => nomatch h⟩))
  (case done =>
    rintro ⟨p, tp, i, pvs, rvs, pn1, rn1, tl⟩ u h tk ⟨hR, hP⟩ F1 N1
    dsimp only [envOf, kstB, splPs] at hR F1 N1
    k_steps
    exact ret _ _ _ hR hP (by k_asm) (by k_asm))
end
end Mine

namespace Mine
set_option maxRecDepth 100000
set_option maxHeartbeats 4000000
section
open AutoSeq1 (wpAny_loadPart')
open PySem.SeqAt MeetsSeq MeetsSeq2 MeetsSeq3
variable {prog : Program} {w : World}
/-- two values are the same, at one program and one world -/
def Same1 (prog : Program) (w : World) (A : Around) (s : Shared) (y x : Value) : Prop := ∀ (E : Value → Shared → Prop) (Q : Bool → Shared → Prop), Q true s → wpAny (model prog w) A (eqBool y x) Q E s
abbrev seqO (items : Array Value) (n : Nat) (dd : Option Addr) (sl : Array (Option Value)) : Obj := { cls := .type "list", dict := dd, data := .seq items n, slots := sl }
abbrev FinR (prog : Program) (w : World) (A : Around) (R : Result → Shared → Prop) (fin : Fin) (s' : Shared) : Prop := match fin with | .done f => R (.ok f) s' | .again c' => c'.quiet = true ∧ codeAny (model prog w) A c' R s'
theorem my_ne_loop {l b : Addr} {xs ys : Array Value} {n n2 : Nat} {dd dd2 : Option Addr} {sl sl2 : Array (Option Value)} (hsz : xs.size = ys.size) (left : Nat) :
    ∀ i : Nat, xs.size - i = left → ∀ (A : Around) (R : Result → Shared → Prop) (s : Shared), s.heap.get? l = some (seqO xs n dd sl) → s.heap.get? b = some (seqO ys n2 dd2 sl2) →
      (∀ j (h1 : j < xs.size) (h2 : j < ys.size), Same1 prog w A.in1 s xs[j] ys[j]) → R (.ok (.ret (.bool false))) s →
      wpAny (model prog w) A.in1 (Builtin.«list.__eq__.loop» ⟨[.ref l, .ref b, rawInt i, rawInt 3], []⟩) (FinR prog w A R) (fun e s' => R (.error e) s') s := by
  induction left with
  | zero =>
    intro i hi A R s ha hb he hR
    obtain ⟨hp, g, d, tk, os⟩ := s
    have q1 : xs[((i : Nat) : Int).toNat]? = none := by simp; omega
    have q2 : ys[((i : Nat) : Int).toNat]? = none := by simp; omega
    wp_walk using wpAny_loadPart' ha, wpAny_loadPart' hb
    rw [q1, q2]
    wp_walk using wpAny_loadPart' ha, wpAny_loadPart' hb
    show R (.ok (.ret (.bool (xs.size != ys.size)))) _
    rw [hsz, bne_self_eq_false]
    exact hR
  | succ left ih =>
    intro i hi A R s ha hb he hR
    obtain ⟨hp, g, d, tk, os⟩ := s
    have l1 : i < xs.size := by omega
    have l2 : i < ys.size := by omega
    have q1 : xs[((i : Nat) : Int).toNat]? = some xs[i] := by simp [l1]
    have q2 : ys[((i : Nat) : Int).toNat]? = some ys[i] := by simp [l2]
    wp_walk using wpAny_loadPart' ha, wpAny_loadPart' hb
    rw [q1, q2]
    refine wpAny_bind (he i l1 l2 _ _ ?_)
    wp_walk
    rw [show ((i : Int) + 1) = ((i + 1 : Nat) : Int) from by push_cast; rfl]
    exact ⟨plainId_quiet plain_eq_loop _, codeAny_builtin entry_eq_loop (by
      rw [Around.under_plainId plain_eq_loop _]
      exact ih (i + 1) (by omega) A R _ ha hb he hR)⟩
theorem my_list_ne {A : Around} {E : Value → Shared → Prop} {s : Shared} {l b : Addr} {xs ys : Array Value} {Q : Value → Shared → Prop} (hl : s.heap.IsList l xs) (hb : s.heap.IsList b ys) (hsz : xs.size = ys.size) (hu : A.units < cLine)
    (he : ∀ j (h1 : j < xs.size) (h2 : j < ys.size), Same1 prog w A.in1 s xs[j] ys[j]) (h : Q (.bool false) s) : wpAny (model prog w) A (compareOp .NotEq (.ref l) (.ref b)) Q E s := by
  obtain ⟨⟨cls, dd, data, sl⟩, ho, hc, n, hd⟩ := id hl
  obtain ⟨⟨cls2, dd2, data2, sl2⟩, ho2, hc2, n2, hd2⟩ := id hb
  simp only at hc hd hc2 hd2
  subst hc hd hc2 hd2
  refine cmp_ofNotEq ?_
  refine wpAny_richCompare_same_room (op := .NotEq) ⟨_, ho, rfl⟩ ⟨_, ho2, rfl⟩ PySem.F.slot_list_ne (wpAny_call (codeAny_call_builtin PySem.F.slot_list_ne.plain PySem.F.entry_list_ne (PySem.F.slot_list_ne.check _ _ _ _ _ _ _ _ ⟨_, ho, rfl⟩ (PySem.F.args_list_ne_2 _ _) ?_))) hu
  have f3 := AutoSeq1.sub_list_list
  have hne : ¬ (xs.size != ys.size) = true := by simp [hsz]
  obtain ⟨hp, g, d, tk, os⟩ := s
  wp_walk using wpAny_loadPart' ho, wpAny_loadPart' ho2
  refine ⟨plainId_quiet plain_eq_loop _, codeAny_builtin entry_eq_loop ?_⟩
  rw [Around.under_plainId plain_eq_loop _]
  exact my_ne_loop hsz _ 0 rfl A (wants (fun v s' => v ≠ .notImplemented ∧ Q v s') E) _ ho ho2 he (show Value.bool false ≠ Value.notImplemented ∧ Q (.bool false) _ from ⟨(fun x => nomatch x), h⟩)
end
end Mine

namespace Mine
set_option maxRecDepth 100000
set_option maxHeartbeats 4000000
section
open PySem.SeqAt
variable {prog : Program} {w : World} {A : Around} {s : Shared}
theorem same1_at {y x : Value} (h : EqAt A s y x true) : Same1 prog w A s y x := fun E Q hq => h prog w E Q hq
theorem same1_refs {l b : Addr} (h : l ≠ b → ∀ (E : Value → Shared → Prop) (Q : Value → Shared → Prop), Q (.bool true) s → wpAny (model prog w) A (richCompare .Eq (.ref l) (.ref b)) Q E s) : Same1 prog w A s (.ref l) (.ref b) := fun E Q hq => by
  by_cases e : l = b
  · subst e; exact EqAt.same _ prog w E Q hq
  · unfold eqBool
    refine wpAny_holding ?_
    refine wpAny_ite_split (fun hab => absurd (by have := eq_of_beq hab; injection this) e) (fun _ => ?_)
    exact wpAny_bind (h e E _ (wpAny_truthy_bool hq))
end
section
variable {w : World} {A : Around} {E : Value → Shared → Prop} {s : Shared} {h₀ : Heap} {L : Addr} {news tl : List (Addr × Obj)}
theorem seg_same {a b : Addr} {oa ob : Obj} {x : Str} (N : News h₀ L s.heap news) (ma : (a, oa) ∈ news) (mb : (b, ob) ∈ news) (sa : SegO w oa x) (sb : SegO w ob x) (la : (a == sysModules) = false) (lb : (b == sysModules) = false) (hu : A.units < cLine) :
    Same1 prog0 w A s (.ref a) (.ref b) := by
  obtain ⟨t, u, v, da, -⟩ := sa
  obtain ⟨t', u', v', db, -⟩ := sb
  refine same1_refs fun _ E Q hq => ?_
  have k1 : SeqAt.EqAt A.in1 s (.str (Str.ofString "text") t) (.str (Str.ofString "text") t') true := by
    have := SeqAt.EqAt.str_str (A := A.in1) (s := s) (Str.ofString "text") t (Str.ofString "text") t'
    rwa [beq_self_eq_true] at this
  have k2 : SeqAt.EqAt A.in1 s (.str x u) (.str x u') true := by
    have := SeqAt.EqAt.str_str (A := A.in1) (s := s) x u x u'
    rwa [beq_self_eq_true] at this
  have n1 : (Str.ofString "type" == Str.ofString "raw") = false := by decide +kernel
  refine keq_pairs (r := true && (true && true)) N ma mb da db la lb rfl hu (KeqHits.hit (by rfl) k1 (KeqHits.hit (by rfl) k2 .nil)) hq
/-- the two lists of parts -/
inductive Pairs (w : World) (tl : List (Addr × Obj)) : List Value → List Value → Prop
  | nil : Pairs w tl [] []
  | same {a : Addr} {vs us : List Value} : Pairs w tl vs us → Pairs w tl (.ref a :: vs) (.ref a :: us)
  | seg {a b : Addr} {oa ob : Obj} {x : Str} {vs us : List Value} : (a, oa) ∈ tl → SegO w oa x → (a == sysModules) = false → (b, ob) ∈ tl → SegO w ob x → (b == sysModules) = false → Pairs w tl vs us → Pairs w tl (.ref a :: vs) (.ref b :: us)
theorem Pairs.mono {tl' : List (Addr × Obj)} {vs us : List Value} (h : Pairs w tl vs us) (hs : ∀ p ∈ tl, p ∈ tl') : Pairs w tl' vs us := by
  induction h with
  | nil => exact .nil
  | same _ ih => exact .same ih
  | seg a b c d e f _ ih => exact .seg (hs _ a) b c (hs _ d) e f ih
theorem Pairs.append {vs us vs' us' : List Value} (h : Pairs w tl vs us) (h' : Pairs w tl vs' us') : Pairs w tl (vs ++ vs') (us ++ us') := by
  induction h with
  | nil => exact h'
  | same _ ih => exact .same ih
  | seg a b c d e f _ ih => exact .seg a b c d e f ih
theorem Pairs.len {vs us : List Value} (h : Pairs w tl vs us) : vs.length = us.length := by
  induction h with
  | nil => rfl
  | same _ ih => simp [ih]
  | seg _ _ _ _ _ _ _ ih => simp [ih]
theorem Pairs.of_segs {tl1 tl2 : List (Addr × Obj)} {xs : List Str} : ∀ {vs us : List Value}, SegsAre w tl1 vs xs → SegsAre w tl2 us xs → (∀ p ∈ tl1, p ∈ tl) → (∀ p ∈ tl2, p ∈ tl) → Pairs w tl vs us := by
  intro vs us h
  induction h generalizing us with
  | nil => intro h' _ _; cases h'; exact .nil
  | cons a b c _ ih =>
    intro h' h1 h2
    cases h' with
    | cons a' b' c' r => exact .seg (h1 _ a) b c (h2 _ a') b' c' (ih r h1 h2)
theorem Pairs.same1 {vs us : List Value} (P : Pairs w tl vs us) (N : News h₀ L s.heap news) (ht : ∀ p ∈ tl, p ∈ news) (hu : A.units < cLine) : ∀ j (h1 : j < vs.length) (h2 : j < us.length), Same1 prog0 w A s vs[j] us[j] := by
  induction P with
  | nil => intro j h1; simp at h1
  | same _ ih =>
    intro j h1 h2
    cases j with
    | zero => exact same1_at (SeqAt.EqAt.same _)
    | succ j => exact ih j (by simpa using h1) (by simpa using h2)
  | seg a b c d e f _ ih =>
    intro j h1 h2
    cases j with
    | zero => exact seg_same N (ht _ a) (ht _ d) b e c f hu
    | succ j => exact ih j (by simpa using h1) (by simpa using h2)
theorem told_ne {ol pl : Addr} {vs us : List Value} {n n' : Nat} {Q : Value → Shared → Prop} (N : News h₀ L s.heap news) (hol : (ol, listOf us.toArray n) ∈ news) (hpl : (pl, listOf vs.toArray n') ∈ news) (P : Pairs w tl us vs) (ht : ∀ p ∈ tl, p ∈ news) (hu : A.in1.units < cLine) (hu' : A.units < cLine)
    (h : Q (.bool false) s) : wpAny (model prog0 w) A (compareOp .NotEq (.ref ol) (.ref pl)) Q E s :=
  my_list_ne (News.isList N hol) (News.isList N hpl) (by simpa using P.len) hu' (fun j h1 h2 => by simpa using P.same1 N ht hu j (by simpa using h1) (by simpa using h2)) h
abbrev rowT (r : Row) (t1 t2 t3 t4 t5 : Tok) (n : Nat) : Obj := { cls := .type "tuple", data := .seq #[.int r.idx t1, .str (chr r.mark) t2, .int r.len t3, .bool r.o, .bool r.c, .int r.len t4, .int r.ord t5] n }
open PySem.SeqAt in
theorem row_ne {a b : Addr} {r : Row} {t1 t2 t3 t4 t5 u1 u2 u3 u4 u5 : Tok} {n k : Nat} {Q : Value → Shared → Prop} (N : News h₀ L s.heap news) (ha : (a, rowT r t1 t2 t3 t4 t5 n) ∈ news) (hb : (b, rowT r u1 u2 u3 u4 u5 k) ∈ news) (hu : A.units < cLine) (h : Q (.bool false) s) :
    wpAny (model prog0 w) A (compareOp .NotEq (.ref a) (.ref b)) Q E s := by
  refine cmp_ofNotEq ?_
  refine RcNeAt.tuples (e := fun _ => true) ⟨_, (N _ ha).1, rfl, n, rfl⟩ ⟨_, (N _ hb).1, rfl, k, rfl⟩ hu ?_ prog0 w E _ h
  have ki : ∀ (i : Int) (t u : Tok), EqAt A.in1 s (.int i t) (.int i u) true := fun i t u => by have := EqAt.int_int (A := A.in1) (s := s) i t i u; rwa [beq_self_eq_true] at this
  have ks : ∀ (i : Str) (t u : Tok), EqAt A.in1 s (.str i t) (.str i u) true := fun i t u => by have := EqAt.str_str (A := A.in1) (s := s) i t i u; rwa [beq_self_eq_true] at this
  have kb : ∀ (i : Bool), EqAt A.in1 s (.bool i) (.bool i) true := fun i => EqAt.same _
  intro j h1 h2
  match j, h1 with
  | 0, _ => exact ki _ _ _
  | 1, _ => exact ks _ _ _
  | 2, _ => exact ki _ _ _
  | 3, _ => exact kb _
  | 4, _ => exact kb _
  | 5, _ => exact ki _ _ _
  | 6, _ => exact ki _ _ _
  | j + 7, h => exact absurd h (by simp)
end
end Mine

namespace Mine
set_option maxRecDepth 100000
set_option maxHeartbeats 4000000
section
variable {σ : Type} {prog : Program} {w : World} {A : Around} {E : Value → Shared → Prop} {Q : Flow → Shared → Prop} {s : Shared} {env : Env} {h₀ : Heap} {x : Str} {body : List Stmt} {m₀ : Str → Option Value} {led : List (Addr × Obj)}
theorem my_tuple {l : Addr} {vs : Array Value} {nn : Nat} (Led : σ → List (Addr × Obj)) (ps : σ → List (Str × Value)) (P : Nat → σ → Prop) (c₀ : σ)
    (hh : A.handled = none) (hm : ∀ c, (l, ({ cls := .type "tuple", data := .seq vs nn } : Obj)) ∈ Led c)
    (F : Fr h₀ env.locals s.heap m₀) (N : News h₀ env.locals s.heap led) (hk : ∀ p ∈ ps c₀, m₀ p.1 = some p.2) (hn : ∀ p ∈ Led c₀, p ∈ led) (hp : P 0 c₀)
    (turn : ∀ i v (c : σ) (u : Str → Option Value) h tk I oI, vs[i]? = some v → P i c → Fr h₀ env.locals h (fun y => if y = x then some v else kstB u (ps c) y) → News h₀ env.locals h ((I, oI) :: Led c) → (∀ p ∈ Led c, p.1 ≠ I) →
      wpAny (model prog w) A (execs body env) (FPost h₀ env.locals { s with heap := h, toks := tk } I oI Led ps P Q i) E { s with heap := h, toks := tk })
    (done : ∀ (c : σ) (u : Str → Option Value) h tk, P vs.size c → Fr h₀ env.locals h (kstB u (ps c)) → News h₀ env.locals h (Led c) → Q .next { s with heap := h, toks := tk }) :
    wpAny (model prog w) A (pyIter (.ref l)) (fun it s₂ => LoopAtV prog w A h₀ env x body Q E it s₂) E s := by
  have hol := N _ (hn _ (hm c₀))
  have hls : s.heap.IsTuple l vs := ⟨_, hol.1, rfl, nn, rfl⟩
  have hne : l ≠ s.heap.objs.size := Nat.ne_of_lt (Heap.lt_size hol.1)
  refine wpAny_pyIter_tuple hls ?_
  have W := Walks.tuple (prog := prog) (w := w) hh s.heap.objs.size l hne vs
  refine for_core Led ps P c₀ W ?_ ?_ ⟨⟨_, Heap.get?_push_size _ rfl, rfl, rfl⟩, hls.at fun o e => Heap.get?_push_of_some _ e⟩ ?_ (fun p hp => Nat.ne_of_lt (Heap.lt_size (N p hp).1)) ?_ (F.push _) (fun p hp => ⟨Heap.get?_push_of_some _ (N p hp).1, (N p hp).2⟩) hk hn hp ?_ ?_
  · intro hmem
    rcases List.mem_cons.mp hmem with e | hmem
    · exact absurd F.ns.lt (e ▸ Nat.lt_irrefl _)
    · exact hol.2.1 (List.mem_singleton.mp hmem).symm
  · exact next_is_new F
  · rintro i h ⟨⟨o, ho, _, _⟩, _⟩
    exact ⟨o, ho⟩
  · intro b hb hne' hno
    rcases List.mem_cons.mp hb with e | hb
    · exact absurd e hne'
    · rw [List.mem_singleton.mp hb]
      exact ⟨_, hm⟩
  · rintro i v c u h tk oI hi hv hP F₁ N₁ hoff
    exact turn i v c u h tk _ oI hv hP F₁ N₁ hoff
  · intro c u h tk hP F₁ N₁
    exact done c u h tk hP F₁ N₁
end
theorem sign_at {t u : Tok} {i : Nat} {v : Value} (h : #[Value.str (Str.ofString "*") t, Value.str (Str.ofString "_") u][i]? = some v) : ∃ mk t', isM mk ∧ v = .str (chr mk) t' := by
  match i with
  | 0 => exact ⟨42, t, .inl rfl, (Option.some.inj h).symm⟩
  | 1 => exact ⟨95, u, .inr rfl, (Option.some.inj h).symm⟩
  | i + 2 => simp at h
end Mine

namespace Mine
set_option maxRecDepth 100000
set_option maxHeartbeats 4000000

structure LS where
  vp : List Value
  vr : List Value
  vo : List Value
  vd : List Value
  np : Nat
  nr : Nat
  no : Nat
  nd : Nat
  q : Int
  tq : Tok
  rs : List Row
  tl : List (Addr × Obj)
abbrev lawLed (pl rl ol dl : Addr) (b0 : List (Addr × Obj)) (c : LS) : List (Addr × Obj) := (dl, listOf c.vd.toArray c.nd) :: (ol, listOf c.vo.toArray c.no) :: (rl, listOf c.vr.toArray c.nr) :: (pl, listOf c.vp.toArray c.np) :: (c.tl ++ b0)
abbrev lawPs (bx lt : Addr) (S : Str) (tS : Tok) (pl rl ol dl : Addr) (c : LS) : List (Str × Value) := [("box", .ref bx), ("tokens", .ref lt), ("source", .str S tS), ("parts", .ref pl), ("rows", .ref rl), ("told", .ref ol), ("delimiters", .ref dl), ("place", .int c.q c.tq)]
abbrev lawP (w : World) (ks : List Tk) (dl : Addr) (i : Nat) (c : LS) : Prop := c.q = ((cat ((ks.take i).map Tk.src)).length : Int) ∧ Pairs w c.tl c.vo c.vp ∧ AllBy (RowV c.tl) c.vr c.rs ∧ AllBy (DelV w c.tl) c.vd c.rs ∧ (c.vp.length : Int) ≤ c.q ∧ (c.vr.length : Int) ≤ c.q ∧ (∀ z ∈ c.tl, @LT.lt Nat _ dl z.1)

theorem led1 {α : Type} {x I d o r p : α} {tl b0 : List α} (h : x ∈ b0) : ∀ z ∈ x :: I :: d :: o :: r :: p :: (tl ++ b0), z ∈ I :: d :: o :: r :: p :: (tl ++ b0) := by
  intro z hz; simp at hz ⊢; grind
theorem led2 {α : Type} {x I d o r p : α} {tl : List α} : ∀ z ∈ p :: r :: (x :: I :: o :: d :: tl), z ∈ x :: I :: d :: o :: r :: p :: tl := by
  intro z hz; simp at hz ⊢; grind
theorem led3 {α : Type} {x I d o r p : α} {tl b0 : List α} : ∀ z ∈ o :: d :: (x :: I :: p :: r :: (tl ++ b0)), z ∈ p :: r :: (tl ++ (x :: I :: o :: d :: b0)) := by
  intro z hz; simp at hz ⊢; grind
theorem led4 {α : Type} {x I d o r p : α} {t2 t1 tl b0 : List α} : ∀ z ∈ x :: I :: d :: o :: r :: p :: ((t2 ++ (t1 ++ tl)) ++ b0), z ∈ o :: d :: (t2 ++ (x :: I :: p :: r :: (t1 ++ (tl ++ b0)))) := by
  intro z hz; simp at hz ⊢; grind

theorem off_led {x dl : Nat} {tl b0 : List (Addr × Obj)} (hx : x ≤ dl) (h7 : ∀ z ∈ tl, @LT.lt Nat _ dl z.1) (hb : ∀ z ∈ b0, @LT.lt Nat _ z.1 x) : ∀ z ∈ tl ++ b0, z.1 ≠ x := by
  intro z hz
  rcases List.mem_append.mp hz with hz | hz
  · exact Nat.ne_of_gt (Nat.lt_of_le_of_lt hx (h7 z hz))
  · exact Nat.ne_of_lt (hb z hz)
theorem cat_take_succ {ks : List Tk} {i : Nat} {k : Tk} (h : ks[i]? = some k) : ((cat ((ks.take i).map Tk.src)).length : Int) + k.src.length = ((cat ((ks.take (i + 1)).map Tk.src)).length : Int) := by
  have e : ks.take (i + 1) = ks.take i ++ [k] := by simp [List.take_add_one, h]
  rw [e, cat_len, cat_len]
  simp
theorem cat_take_le {ks : List Tk} {i : Nat} {k : Tk} (h : ks[i]? = some k) : ((cat ((ks.take i).map Tk.src)).length : Int) + k.src.length ≤ ((srcOf ks).length : Int) := by
  rw [cat_take_succ h, srcOf, cat_len, cat_len]
  have e2 : (ks.map Tk.src).map (·.length) = ((ks.take (i+1)).map Tk.src).map (·.length) ++ ((ks.drop (i+1)).map Tk.src).map (·.length) := by rw [← List.map_append, ← List.map_append, List.take_append_drop]
  rw [e2, List.sum_append]
  omega

theorem turn_dead {w : World} {ks : List Tk} {h₀ : Heap} {L pl rl ol dl bx lt I a : Addr} {oI o : Obj} {S : Str} {tS : Tok} {b0 tl : List (Addr × Obj)} {vp vr vo vd : List Value} {np nr no nd i : Nat} {q q' : Int} {tq' : Tok} {rs : List Row} {k : Tk} {s₁ s₂ : Shared} {h' : Heap} {tk' : Nat} {m' : Str → Option Value} {QQ : Flow → Shared → Prop}
    (g2 : Pairs w tl vo vp) (g3 : AllBy (RowV tl) vr rs) (g4 : AllBy (DelV w tl) vd rs) (g5 : (vp.length : Int) ≤ q) (g6 : (vr.length : Int) ≤ q) (g7 : ∀ z ∈ tl, @LT.lt Nat _ dl z.1)
    (hId : dl ≠ I) (hIo : ol ≠ I) (hIr : rl ≠ I) (hIp : pl ≠ I) (hIz : ∀ z ∈ tl ++ b0, z.1 ≠ I) (hk1 : 1 ≤ k.src.length) (hqn : q + k.src.length = ((cat ((ks.take (i + 1)).map Tk.src)).length : Int))
    (F : Fr h₀ L h' m') (N : News h₀ L h' ((a, o) :: (I, oI) :: (dl, listOf vd.toArray nd) :: (ol, listOf (vo.toArray.push (.ref a)) (no + 1)) :: (rl, listOf vr.toArray nr) :: (pl, listOf (vp.toArray.push (.ref a)) (np + 1)) :: (tl ++ b0)))
    (hs : s₂ = { s₁ with heap := h', toks := tk' }) (eq' : q' = q + k.src.length)
    (hk : ∀ z ∈ lawPs bx lt S tS pl rl ol dl ⟨vp ++ [.ref a], vr, vo ++ [.ref a], vd, np + 1, nr, no + 1, nd, q', tq', rs, tl⟩, m' z.1 = some z.2) :
    FPost h₀ L s₁ I oI (lawLed pl rl ol dl b0) (lawPs bx lt S tS pl rl ol dl) (lawP w ks dl) QQ i .next s₂ := by
  rw [List.push_toArray, List.push_toArray] at N
  subst eq'
  refine fend ⟨vp ++ [.ref a], vr, vo ++ [.ref a], vd, np + 1, nr, no + 1, nd, q + k.src.length, tq', rs, tl⟩ F N hs hk (fun z hz => .tail _ hz) ?_ ?_
  · exact List.forall_mem_cons.mpr ⟨hId, List.forall_mem_cons.mpr ⟨hIo, List.forall_mem_cons.mpr ⟨hIr, List.forall_mem_cons.mpr ⟨hIp, hIz⟩⟩⟩⟩
  · refine ⟨hqn, g2.append (.same .nil), g3, g4, ?_, ?_, g7⟩
    · show ((vp ++ [Value.ref a]).length : Int) ≤ q + k.src.length
      rw [List.length_append]
      simp
      omega
    · show (vr.length : Int) ≤ q + k.src.length
      omega

theorem turn_live {w : World} {ks : List Tk} {h₀ : Heap} {L pl rl ol dl bx lt I a : Addr} {oI o : Obj} {S x : Str} {tS : Tok} {b0 tl tl1 tl2 : List (Addr × Obj)} {vp vr vo vd pvs1 rvs1 pvs2 rvs2 : List Value} {np nr no nd i i1 i2 : Nat} {q q' p1 p2 : Int} {tq' : Tok} {rs : List Row} {k : Tk} {s₁ s₂ : Shared} {h' : Heap} {tk' : Nat} {m' : Str → Option Value} {QQ : Flow → Shared → Prop}
    (g2 : Pairs w tl vo vp) (g3 : AllBy (RowV tl) vr rs) (g4 : AllBy (DelV w tl) vd rs) (g5 : (vp.length : Int) ≤ q) (g6 : (vr.length : Int) ≤ q) (g7 : ∀ z ∈ tl, @LT.lt Nat _ dl z.1)
    (hId : dl ≠ I) (hIo : ol ≠ I) (hIr : rl ≠ I) (hIp : pl ≠ I) (hIz : ∀ z ∈ tl ++ b0, z.1 ≠ I) (hx : x = k.src) (hqn : q + k.src.length = ((cat ((ks.take (i + 1)).map Tk.src)).length : Int)) (hvo : vo.length = vp.length) (hvd : vd.length = vr.length)
    (e1 : ¬ p1 < x.length) (a1 : p1 ≤ x.length) (a2 : (iterC x S q vp.length vr.length i1).p = p1) (a3 : SegsAre w tl1 pvs1 (iterC x S q vp.length vr.length i1).segs) (a4 : AllBy (RowV tl1) rvs1 (iterC x S q vp.length vr.length i1).rows) (a5 : (pvs1.length : Int) ≤ p1) (a6 : (rvs1.length : Int) ≤ p1) (a7 : ∀ z ∈ tl1, @LT.lt Nat _ dl z.1 ∧ @LT.lt Nat _ I z.1)
    (e2 : ¬ p2 < x.length) (c2 : (iterC x S q vo.length vd.length i2).p = p2) (c3 : SegsAre w tl2 pvs2 (iterC x S q vo.length vd.length i2).segs) (c4 : AllBy (DelV w tl2) rvs2 (iterC x S q vo.length vd.length i2).rows) (c7 : ∀ z ∈ tl2, @LT.lt Nat _ dl z.1 ∧ @LT.lt Nat _ I z.1)
    (F : Fr h₀ L h' m') (N : News h₀ L h' ((a, o) :: (I, oI) :: (dl, listOf (vd ++ rvs2).toArray nd) :: (ol, listOf (vo ++ pvs2).toArray no) :: (rl, listOf (vr ++ rvs1).toArray nr) :: (pl, listOf (vp ++ pvs1).toArray np) :: ((tl2 ++ (tl1 ++ tl)) ++ b0)))
    (hs : s₂ = { s₁ with heap := h', toks := tk' }) (eq' : q' = q + k.src.length)
    (hk : ∀ z ∈ lawPs bx lt S tS pl rl ol dl ⟨vp ++ pvs1, vr ++ rvs1, vo ++ pvs2, vd ++ rvs2, np, nr, no, nd, q', tq', rs ++ (iterC x S q vp.length vr.length i1).rows, tl2 ++ (tl1 ++ tl)⟩, m' z.1 = some z.2) :
    FPost h₀ L s₁ I oI (lawLed pl rl ol dl b0) (lawPs bx lt S tS pl rl ol dl) (lawP w ks dl) QQ i .next s₂ := by
  subst eq'
  rw [hvo, hvd] at c2 c3 c4
  have ei := iter_one (x := x) (S := S) (st := q) (np := vp.length) (nr := vr.length) (i := i2) (j := i1) (by rw [c2]; exact e2) (by rw [a2]; exact e1)
  rw [ei] at c3 c4
  have s0 : ∀ z ∈ tl, z ∈ tl2 ++ (tl1 ++ tl) := fun z hz => List.mem_append_right _ (List.mem_append_right _ hz)
  have s1 : ∀ z ∈ tl1, z ∈ tl2 ++ (tl1 ++ tl) := fun z hz => List.mem_append_right _ (List.mem_append_left _ hz)
  have s2 : ∀ z ∈ tl2, z ∈ tl2 ++ (tl1 ++ tl) := fun z hz => List.mem_append_left _ hz
  rw [hx] at e1 a1
  refine fend ⟨vp ++ pvs1, vr ++ rvs1, vo ++ pvs2, vd ++ rvs2, np, nr, no, nd, q + k.src.length, tq', rs ++ (iterC x S q vp.length vr.length i1).rows, tl2 ++ (tl1 ++ tl)⟩ F N hs hk (fun z hz => .tail _ hz) ?_ ?_
  · refine List.forall_mem_cons.mpr ⟨hId, List.forall_mem_cons.mpr ⟨hIo, List.forall_mem_cons.mpr ⟨hIr, List.forall_mem_cons.mpr ⟨hIp, fun z hz => ?_⟩⟩⟩⟩
    rcases List.mem_append.mp hz with hz | hz
    · rcases List.mem_append.mp hz with hz | hz
      · exact Nat.ne_of_gt (c7 z hz).2
      · rcases List.mem_append.mp hz with hz | hz
        · exact Nat.ne_of_gt (a7 z hz).2
        · exact hIz z (List.mem_append_left _ hz)
    · exact hIz z (List.mem_append_right _ hz)
  · refine ⟨hqn, (g2.mono s0).append (Pairs.of_segs c3 a3 s2 s1), ?_, ?_, ?_, ?_, ?_⟩
    · exact (g3.mono fun v r => RowV.grows _ _ v r s0).append (a4.mono fun v r => RowV.grows _ _ v r s1)
    · exact (g4.mono fun v r => DelV.grows _ _ v r s0).append (c4.mono fun v r => DelV.grows _ _ v r s2)
    · show ((vp ++ pvs1).length : Int) ≤ q + k.src.length
      rw [List.length_append]
      push_cast
      omega
    · show ((vr ++ rvs1).length : Int) ≤ q + k.src.length
      rw [List.length_append]
      push_cast
      omega
    · intro z hz
      rcases List.mem_append.mp hz with hz | hz
      · exact (c7 z hz).1
      · rcases List.mem_append.mp hz with hz | hz
        · exact (a7 z hz).1
        · exact g7 z hz

theorem led5 {α : Type} {D lt b d o r p : α} {tl tl0 : List α} : ∀ z ∈ b :: p :: r :: o :: d :: (tl ++ tl0), z ∈ d :: o :: r :: p :: (tl ++ (D :: lt :: b :: tl0)) := by
  intro z hz; simp at hz ⊢; grind

section
variable {prog : Program} {w : World} {A : Around} {E : Value → Shared → Prop} {s : Shared} {h₀ : Heap} {L l : Addr} {news : List (Addr × Obj)} {n : Nat} {k : Int} {u : Tok} {Q : Value → Shared → Prop}
theorem item_known {value slice : PySem.Expr} {vs : List Value} {v : Value} (N : News h₀ L s.heap news) (hm : (l, listOf vs.toArray n) ∈ news) (hv : vs[k.toNat]? = some v) (h0 : 0 ≤ k) (h1 : k < vs.length) (hz : vs.length ≤ 1000)
    (q : Q v s)
    (hs : subscripted slice false (.ref l) (.int k u) = operate [.ref l, .int k u] (getItem (.ref l) (.int k u)) := by with_unfolding_all rfl) :
    wpAny (model prog w) A (subscriptTail value slice (.ref l) (.int k u)) Q E s :=
  item_list (vs := vs) N hm h0 h1 (by omega) (fun v' hv' => by rw [hv] at hv'; exact Option.some.inj hv' ▸ q) hs
end
theorem rows_at {w : World} {tl : List (Addr × Obj)} {vr vd : List Value} {rs : List Row} (g3 : AllBy (RowV tl) vr rs) (g4 : AllBy (DelV w tl) vd rs) {i : Nat} (hi : i < vr.length) :
    ∃ v1 v2 r, vd[(0 + (i : Int)).toNat]? = some v1 ∧ vr[(0 + (i : Int)).toNat]? = some v2 ∧ DelV w tl v1 r ∧ RowV tl v2 r := by
  have e : (0 + (i : Int)).toNat = i := by omega
  rw [e]
  have hi2 : i < vd.length := by rw [g4.len, ← g3.len]; exact hi
  obtain ⟨r1, h1, d1⟩ := g3.get (List.getElem?_eq_getElem hi)
  obtain ⟨r2, h2, d2⟩ := g4.get (List.getElem?_eq_getElem hi2)
  have : r1 = r2 := Option.some.inj (h1.symm.trans h2)
  subst this
  exact ⟨_, _, _, List.getElem?_eq_getElem hi2, List.getElem?_eq_getElem hi, d2, d1⟩
theorem led6 {α : Type} {x y z I b p r o d : α} {tl tl0 : List α} (hx : x ∈ tl) (hy : y ∈ tl) (hz : z ∈ tl) : ∀ e ∈ x :: y :: z :: I :: r :: d :: b :: p :: o :: (tl ++ tl0), e ∈ I :: b :: p :: r :: o :: d :: (tl ++ tl0) := by
  intro e he; simp at he ⊢; grind
theorem led7 {α : Type} {x y z I b p r o d : α} {tl tl0 : List α} : ∀ e ∈ I :: b :: p :: r :: o :: d :: (tl ++ tl0), e ∈ x :: y :: z :: I :: r :: d :: b :: p :: o :: (tl ++ tl0) := by
  intro e he; simp at he ⊢; grind
local macro_rules | `(tactic| k_mem) => `(tactic| first | exact my_head | (refine my_tail ?_; k_mem))
local macro_rules | `(tactic| k_all) => `(tactic| with_reducible assumption)
local macro_rules | `(tactic| kst_allIn) => `(tactic| (refine List.forall_mem_cons.mpr ⟨by k_mem, ?_⟩; kst_allIn))
local macro_rules | `(tactic| walk_at "exec While") => `(tactic| (refine Stop.out ?_))
local macro_rules | `(tactic| walk_at "exec For Name Name cons nil") => `(tactic| (refine Stop.out ?_))
local macro_rules | `(tactic| walk_at "exec For Name Call cons nil") => `(tactic| (refine Stop.out ?_))
local macro_rules | `(tactic| walk_at "pyIter ref") => `(tactic| (refine Stop.out ?_))
local macro_rules | `(tactic| walk_at "FPost") => `(tactic| (refine fpost_ret ?_; (try dsimp only)))
local macro_rules | `(tactic| walk_at "callWith") => `(tactic| ((with_reducible show wpAny _ _ (callWith _ (Value.builtin _) [Value.ref _] (backTo _ (starEach (_ :: _) _)) []) _ _ _); k_dflt (refine callWith_method1 ?_)))
local macro_rules | `(tactic| walk_at "call ref") => `(tactic| (k_here; first
  | (k_dflt (refine' c_length ?hm ?hO ?hok ?B ?F ?X ?N ?T ?hk ?hd ?hu ?_; (case B => k_asm); (case F => k_asm); (case X => k_asm); (case N => k_asm); (case T => k_asm); (case hk => first | exact rfl | assumption); (case hm => k_mem); (case hO => assumption); (case hok => assumption); (case hd => decide +kernel); (case hu => decide +kernel)); intro t9 h9 tk9 F9 N9)
  | (k_dflt (refine' c_draw  ?B ?F ?X ?N ?T ?hk ?hl ?hi ?hlen ?U ?p0 ?p1 ?q0 ?q1 ?k0 ?k1 ?hd ?hu ?_; (case B => k_asm); (case F => k_asm); (case X => k_asm); (case N => k_asm); (case T => k_asm); (case hk => first | exact rfl | assumption); (case hl => k_asm); (case hi => k_asm); (case hlen => omega); (case U => k_updF); (case p0 => first | omega | decide); (case p1 => first | omega | decide); (case q0 => first | omega | decide); (case q1 => first | omega | decide); (case k0 => omega); (case k1 => omega); (case hd => decide +kernel); (case hu => decide +kernel)); intro v9 q9 tv9 t19 t29 h9 tk9 hv0 hv1 hq0 hq1 F9 N9; (try dsimp only at N9))
  | (k_dflt (refine' c_row  ?B ?F ?X ?N ?T ?hk ?hl ?hi ?hlen ?p0 ?p1 ?q0 ?q1 ?hd ?hu ?_; (case B => k_asm); (case F => k_asm); (case X => k_asm); (case N => k_asm); (case T => k_asm); (case hk => first | exact rfl | assumption); (case hl => k_asm); (case hi => k_asm); (case hlen => omega); (case p0 => first | omega | decide); (case p1 => first | omega | decide); (case q0 => first | omega | decide); (case q1 => first | omega | decide); (case hd => decide +kernel); (case hu => decide +kernel)); intro lt9 tv9 nn9 ks9 tl9 p9 q9 t19 t29 h9 tk9 hT9 hok9 h19 h69 hlb9 htl9 htb9 hp09 hp19 hq09 hq19 F9 N9)
  | (k_dflt (refine' c_source ?hm ?hT ?htl ?hok ?h6  ?B ?F ?X ?N ?T ?hk ?hd ?hu ?_; (case B => k_asm); (case F => k_asm); (case X => k_asm); (case N => k_asm); (case T => k_asm); (case hk => first | exact rfl | assumption); (case hm => k_mem); (case hT => assumption); (case htl => intro p9 h9; kst_mem); (case hok => assumption); (case h6 => assumption); (case hd => decide +kernel); (case hu => decide +kernel)); intro t9 h9 tk9 F9 N9)
  | (k_dflt (refine' c_srctext ?hm ?hT ?htl ?hok ?h6  ?B ?F ?X ?N ?T ?hk ?hd ?hu ?_; (case B => k_asm); (case F => k_asm); (case X => k_asm); (case N => k_asm); (case T => k_asm); (case hk => first | exact rfl | assumption); (case hm => k_mem); (case hT => assumption); (case htl => intro p9 h9; kst_mem); (case hok => assumption); (case h6 => assumption); (case hd => decide +kernel); (case hu => decide +kernel)); intro t9 h9 tk9 F9 N9)))
local macro_rules | `(tactic| walk_at "call type:list") => `(tactic| (k_dflt (refine' list_copyK ?k1 ?k2 ?k3 ?_ ?z; (case k1 => k_asm); (case k2 => k_asm); (case k3 => exact News.isList (by k_asm) my_head); (case z => (rw [List.size_toArray, ToksAre.len (by assumption), sizeLine_eq]; omega))); intro D9 c9 h9 F9 N9 l1; (k_lt l1)))
local macro_rules | `(tactic| walk_at "subscriptTail Name Constant ref str") => `(tactic| (k_dflt (refine' tok_item ?N ?m ?d ?l ?_ ?hs ?hg; (case d => with_reducible assumption); (case l => with_reducible assumption); (case N => k_asm); (case m => k_mem); (case hs => with_unfolding_all rfl); (case hg => (intro _; with_unfolding_all rfl)))))
local macro_rules | `(tactic| walk_at "compareOp Eq str str") => `(tactic| (with_reducible refine eq_text ?_))
local macro_rules | `(tactic| walk_at "getMethod ref") => `(tactic| ((with_reducible show wpAny _ _ (getMethod (Value.ref _) (Str.ofString "get") _) _ _ _); k_dflt (refine' kdg_method (knd := PySem.strKind _ _) ?N ?m ?d ?_; (case d => with_reducible assumption); (case N => k_asm); (case m => k_mem))))
local macro_rules | `(tactic| walk_at "call builtin:dict.get") => `(tactic| (k_dflt (refine' kdg_get2 (knd := PySem.strKind _ _) (k := Str.ofString "_emphasis") ?N ?m ?d ?lo (strKind_is _ _ _ _) _ ?hl ?_; (case d => with_reducible assumption); (case N => k_asm); (case m => k_mem); (case lo => assumption); (case hl => with_reducible assumption)); (try dsimp only [Option.getD])))
local macro_rules | `(tactic| walk_at "call ref") => `(tactic| ((first | (with_reducible show wpAny _ _ (call (Value.ref 181) _) _ _ _) | (with_reducible show wpAny _ _ (call (Value.ref 97) _) _ _ _)); refine Stop.out ?_))
local macro_rules | `(tactic| k_ne) => `(tactic| first | with_reducible assumption | exact Ne.symm (by with_reducible assumption))
local macro_rules | `(tactic| walk_at "call ref") => `(tactic| (k_here; first
  | (k_dflt (refine' c_punct ?hc ?B ?F ?X ?N ?T ?hk ?hd ?hu ?_; (case B => k_asm); (case F => k_asm); (case X => k_asm); (case N => k_asm); (case T => k_asm); (case hk => first | exact rfl | assumption); (case hc => first | assumption | exact good_at (by assumption) (by omega)); (case hd => decide +kernel); (case hu => decide +kernel)); intro h9 tk9 F9 N9)
  | (k_dflt (refine' c_kind ?hc ?B ?F ?X ?N ?T ?hk ?hd ?hu ?_; (case B => k_asm); (case F => k_asm); (case X => k_asm); (case N => k_asm); (case T => k_asm); (case hk => first | exact rfl | assumption); (case hc => first | assumption | exact good_at (by assumption) (by omega)); (case hd => decide +kernel); (case hu => decide +kernel)); intro t9 h9 tk9 F9 N9)
  | (k_dflt (refine' c_next ?hx ?p0 ?p1 ?B ?F ?X ?N ?T ?hk ?hd ?hu ?_; (case B => k_asm); (case F => k_asm); (case X => k_asm); (case N => k_asm); (case T => k_asm); (case hk => first | exact rfl | assumption); (case hx => omega); (case p0 => omega); (case p1 => omega); (case hd => decide +kernel); (case hu => decide +kernel)); intro t9 h9 tk9 F9 N9)
  | (k_dflt (refine' c_flags ?gx ?xl ?i0 ?i1 ?n0 ?n1 ?mk ?B ?F ?X ?N ?T ?hk ?hd ?hu ?_; (case B => k_asm); (case F => k_asm); (case X => k_asm); (case N => k_asm); (case T => k_asm); (case hk => first | exact rfl | assumption); (case gx => assumption); (case xl => omega); (case i0 => omega); (case i1 => omega); (case n0 => omega); (case n1 => omega); (case mk => assumption); (case hd => decide +kernel); (case hu => decide +kernel)); intro D9 k9 h9 tk9 l9 F9 N9; (k_lt l9))
  | (k_dflt (refine' c_open ?gx ?xl ?i0 ?i1 ?n0 ?n1 ?mk ?B ?F ?X ?N ?T ?hk ?hd ?hu ?_; (case B => k_asm); (case F => k_asm); (case X => k_asm); (case N => k_asm); (case T => k_asm); (case hk => first | exact rfl | assumption); (case gx => assumption); (case xl => omega); (case i0 => omega); (case i1 => omega); (case n0 => omega); (case n1 => omega); (case mk => assumption); (case hd => decide +kernel); (case hu => decide +kernel)); intro h9 tk9 F9 N9)
  | (k_dflt (refine' c_close ?gx ?xl ?i0 ?i1 ?n0 ?n1 ?mk ?B ?F ?X ?N ?T ?hk ?hd ?hu ?_; (case B => k_asm); (case F => k_asm); (case X => k_asm); (case N => k_asm); (case T => k_asm); (case hk => first | exact rfl | assumption); (case gx => assumption); (case xl => omega); (case i0 => omega); (case i1 => omega); (case n0 => omega); (case n1 => omega); (case mk => assumption); (case hd => decide +kernel); (case hu => decide +kernel)); intro h9 tk9 F9 N9)))
local macro_rules | `(tactic| walk_at "call builtin:len") => `(tactic| ((with_reducible show wpAny _ _ (call (Value.builtin "len") [Value.ref _]) _ _ _); k_dflt (refine' my_len ?N ?m ?z ?_; (case N => k_asm); (case m => k_mem); (case z => omega)); intro t9 tk9))
local macro_rules | `(tactic| walk_at "compareOp NotEq ref ref") => `(tactic| (k_dflt (refine' told_ne (tl := _) ?N ?m1 ?m2 ?P ?ht ?u1 ?u2 ?_; (case P => with_reducible assumption); (case N => k_asm); (case m1 => k_mem); (case m2 => k_mem); (case ht => assumption); (case u1 => ke_room); (case u2 => ke_room))))
local macro_rules | `(tactic| walk_at "call type:range") => `(tactic| ((rename Fr _ _ _ _ => F'); (rename News _ _ _ _ => N'); (with_unfolding_all refine range1_rows F' N' ?_); intro h9 tk9 tr1 tr2 tr3 R9 F9 N9 K9))
local macro_rules | `(tactic| walk_at "compareOp NotEq ref ref") => `(tactic| (k_dflt (refine' row_ne ?N ?m1 ?m2 ?u1 ?_; (case N => k_asm); (case m1 => k_mem); (case m2 => k_mem); (case u1 => ke_room))))
local macro_rules | `(tactic| walk_at "subscriptTail Name Name ref int") => `(tactic| (k_dflt (refine' item_known ?N ?hm ?hv ?h0 ?h1 ?hz ?_ ?hs; (case N => k_asm); (case hm => k_mem); (case hv => with_reducible assumption); (case h0 => omega); (case h1 => omega); (case hz => omega); (case hs => with_unfolding_all rfl))))
local macro_rules | `(tactic| walk_at "subscriptTail Name Name str int") => `(tactic| ((with_reducible show wpAny _ _ (subscriptTail _ _ (Value.str _ _) (Value.int _ _)) _ _ _); (refine my_item (by omega) (by omega) (by omega) ?_); intro u9))
local macro_rules | `(tactic| walk_at "compareOp Eq str str") => `(tactic| first | (refine eq_kp (by first | assumption | exact good_at (by assumption) (by omega)) ?_) | (with_reducible refine eq_cs ?_) | (with_reducible refine eq_cu ?_))
local macro_rules | `(tactic| walk_at "compareOp NotEq str str") => `(tactic| first | (with_reducible refine ne_cs ?_) | (with_reducible refine ne_cu ?_))
local macro_rules | `(tactic| walk_at "call ref") => `(tactic| ((with_reducible show wpAny _ _ (call (Value.ref 146) _) _ _ _); refine Stop.out ?_))
local macro_rules | `(tactic| walk_at "WOut") => `(tactic| (refine' wout ?F ?N ?hs ?hk ?hn ?_; (case hs => with_unfolding_all rfl); (case F => k_asm); (case N => k_asm); (case hk => kst_all); (case hn => exact fun _ h => h)))
local macro_rules | `(tactic| walk_at "exec For Name Tuple cons nil") => `(tactic| (refine Stop.out ?_))
theorem the_law : PySem.Challenge.rw_fe5002_01.Holds := hd (by
  k_go0
  all_goals try k_fold
  rename_i w s0 s1 mg mb gG gY fa fo pm dc kV ho hg KX gX gV GL T gB TE TW w9 w8 gM w7 w6 hcd ns hs hl0 hL0 hr0 hl2 w4 w3 lst lvs w0 hL ra w1 r0 hI hr hc hc2 K0 hD h1 F N0
  k_steps
  unfold Stop
  refine For_invVF (by assumption) rfl rfl ?_
  k_steps
  unfold Stop
  rename_i bx _ lx _ FX NX _ lt tv nn ks tl0 p0 q0 t1 t2 _ _ hT hok h1 h6 hlb htl htb hp0 hp1 hq0 hq1 _ _ tS _ _ _ _ D9 c9 _ lD _ _ _ _ pl _ lp _ _ rl _ lr _ _ ol _ lo _ _ dl _ ld _ _ F0 N0
  obtain ⟨lp1, lp2, lp3, lp4⟩ := lp
  obtain ⟨lr1, -⟩ := lr
  obtain ⟨lo1, lo2, -⟩ := lo
  obtain ⟨ld1, ld2, ld3, -⟩ := ld
  obtain ⟨b0, hb0⟩ : ∃ b0, b0 = (D9, listOf tv.toArray c9) :: (lt, listOf tv.toArray nn) :: (bx, boxO lst p0 q0 t1 t2 0) :: tl0 := ⟨_, rfl⟩
  have hbp : ∀ z ∈ b0, @LT.lt Nat _ z.1 pl := by
    rw [hb0]
    exact List.forall_mem_cons.mpr ⟨lp1, List.forall_mem_cons.mpr ⟨lp2, List.forall_mem_cons.mpr ⟨lp3, fun z hz => ktn_ltOf lp4 z hz⟩⟩⟩
  have hblt : (lt, listOf tv.toArray nn) ∈ b0 := by rw [hb0]; exact .tail _ (.head _)
  have hbt : ∀ z ∈ tl0, z ∈ b0 := fun z hz => by rw [hb0]; exact .tail _ (.tail _ (.tail _ hz))
  refine' my_list (σ := LS) (vs := tv) (lawLed pl rl ol dl b0) (lawPs bx lt (srcOf ks) tS pl rl ol dl) (lawP w ks dl) ⟨[], [], [], [], 0, 0, 0, 0, 0, _, [], []⟩ rfl (.inr ⟨nn, fun _ => ?hm0⟩) (News.isList N0 ?hm1) F0 N0 ?hk0 ?hn0 ?hp0 ?turn ?done
  (case hn0 => rw [hb0]; exact fun _ h => h)
  (case hm0 => exact .tail _ (.tail _ (.tail _ (.tail _ (List.mem_append_right _ hblt)))))
  (case hm1 => exact .tail _ (.tail _ (.tail _ (.tail _ (.tail _ (.head _))))))
  (case hk0 => kst_all)
  (case hp0 => exact ⟨(show (0 : Int) = ((cat []).length : Int) by decide +kernel), .nil, .nil, .nil, Int.le_refl _, Int.le_refl _, fun _ h => nomatch h⟩)
  (case turn =>
    rintro i v ⟨vp, vr, vo, vd, np, nr, no, nd, q, tq, rs, tl⟩ u h tk I oI hv ⟨g1, g2, g3, g4, g5, g6, g7⟩ F1 N1 hoffI
    obtain ⟨a, o, k, rfl, hma, hO, lo', hki⟩ := hT.get hv
    dsimp only [envOf, kstB, lawLed, lawPs] at g1 g2 g3 g4 g5 g6 g7 F1 N1 hoffI
    obtain ⟨kvs, hD, ⟨t1', ht⟩, hr⟩ := id hO
    have hok1 := hok k (List.mem_of_getElem? hki)
    have N2 := news_sub N1 (led1 (x := (a, o)) (hbt _ hma))
    clear N1
    have hap : @LT.lt Nat _ a pl := hbp _ (hbt _ hma)
    have hId : dl ≠ I := hoffI _ (.head _)
    have hIo : ol ≠ I := hoffI _ (.tail _ (.head _))
    have hIr : rl ≠ I := hoffI _ (.tail _ (.tail _ (.head _)))
    have hIp : pl ≠ I := hoffI _ (.tail _ (.tail _ (.tail _ (.head _))))
    have hIz : ∀ z ∈ tl ++ b0, z.1 ≠ I := fun z hz => hoffI z (.tail _ (.tail _ (.tail _ (.tail _ hz))))
    have o1 : pl ≠ ol := Nat.ne_of_lt lo2
    have o2 : rl ≠ ol := Nat.ne_of_lt lo1
    have o3 : rl ≠ pl := Nat.ne_of_gt lr1
    have o4 : dl ≠ ol := Nat.ne_of_gt ld1
    have o5 : dl ≠ pl := Nat.ne_of_gt ld3
    have o6 : dl ≠ rl := Nat.ne_of_gt ld2
    have o7 : a ≠ pl := Nat.ne_of_lt hap
    have o8 : a ≠ ol := Nat.ne_of_lt (Nat.lt_trans hap lo2)
    have o9 : a ≠ rl := Nat.ne_of_lt (Nat.lt_trans hap lr1)
    have o10 : a ≠ dl := Nat.ne_of_lt (Nat.lt_trans hap ld3)
    have zp := off_led (Nat.le_of_lt ld3) g7 hbp
    have zr := off_led (Nat.le_of_lt ld2) g7 fun z hz => Nat.lt_trans (hbp z hz) lr1
    have zo := off_led (Nat.le_of_lt ld1) g7 fun z hz => Nat.lt_trans (hbp z hz) lo2
    have zd := off_led (Nat.le_refl _) g7 fun z hz => Nat.lt_trans (hbp z hz) ld3
    obtain ⟨hS1, hS2, hS3⟩ := srcOf_ok hok h1 h6
    have hq0 : 0 ≤ q := by rw [g1]; exact Int.natCast_nonneg _
    have hq : q + k.src.length ≤ (srcOf ks).length := by rw [g1]; exact cat_take_le hki
    have hqn : q + k.src.length = ((cat ((ks.take (i + 1)).map Tk.src)).length : Int) := by rw [g1]; exact cat_take_succ hki
    have hk18 := (src_ok hok1).2.2
    have hk1 := (src_ok hok1).2.1
    have hvpl : (vp.length : Int) ≤ 108 := by omega
    have hvrl : (vr.length : Int) ≤ 108 := by omega
    have hvo : vo.length = vp.length := g2.len
    have hvd : vd.length = vr.length := by rw [g4.len, g3.len]
    cases e : k.isText with
    | true =>
      obtain ⟨⟨u1, hraw⟩, hem⟩ := hr e
      clear hr
      cases el : k.isLive with
      | true =>
        rw [el, if_pos rfl] at hem
        have hraws : k.raw = k.src := (if_pos e).symm
        have hx18 : k.raw.length ≤ 18 := by rw [hraws]; exact hk18
        k_steps
        unfold Stop
        (with_reducible rename News _ _ _ _ => N3)
        refine' c_cut (x := k.raw) (pa := pl) (ra := rl) (rest := (a, o) :: (I, oI) :: (ol, listOf vo.toArray no) :: (dl, listOf vd.toArray nd) :: (tl ++ b0)) hx18 hS1 hS3 hq0 ?c1 ?c2 ?c3 lr1 ?c4 ?c5 ?B ?F ?X (news_sub N3 led2) ?T ?hk ?hd ?hu ?_
        (case B => k_asm); (case F => k_asm); (case X => k_asm); (case T => k_asm); (case hk => exact rfl); (case hd => decide +kernel); (case hu => decide +kernel)
        (case c1 => rw [hraws]; exact hq)
        (case c2 => omega)
        (case c3 => omega)
        (case c4 => exact List.forall_mem_cons.mpr ⟨o7, List.forall_mem_cons.mpr ⟨hIp.symm, List.forall_mem_cons.mpr ⟨o1.symm, List.forall_mem_cons.mpr ⟨o5, zp⟩⟩⟩⟩)
        (case c5 => exact List.forall_mem_cons.mpr ⟨o9, List.forall_mem_cons.mpr ⟨hIr.symm, List.forall_mem_cons.mpr ⟨o2.symm, List.forall_mem_cons.mpr ⟨o6, zr⟩⟩⟩⟩)
        rintro ⟨p1, tp1, i1, pvs1, rvs1, pn1, rn1, tl1⟩ hh1 tk1 e1 ⟨_, q1, q2, q3, q4, q5, q6, q7⟩ F4 N4
        dsimp only [cutLed] at e1 q1 q2 q3 q4 q5 q6 q7 N4
        have N5 := news_sub N4 led3
        clear N4 N3
        have q8 : ∀ z ∈ tl1, @LT.lt Nat _ dl z.1 ∧ @LT.lt Nat _ I z.1 := fun z hz => ⟨(q7 z hz).2.2 _ (.tail _ (.tail _ (.tail _ (.head _)))), (q7 z hz).2.2 _ (.tail _ (.head _))⟩
        have z1o : ∀ z ∈ tl1 ++ (tl ++ b0), z.1 ≠ ol := fun z hz => (List.mem_append.mp hz).elim (fun h => Nat.ne_of_gt (Nat.lt_trans ld1 (q8 z h).1)) (zo z)
        have z1d : ∀ z ∈ tl1 ++ (tl ++ b0), z.1 ≠ dl := fun z hz => (List.mem_append.mp hz).elim (fun h => Nat.ne_of_gt (q8 z h).1) (zd z)
        k_steps
        unfold Stop
        refine' c_split (x := k.raw) (pa := ol) (ra := dl) (rest := (a, o) :: (I, oI) :: (pl, listOf (vp ++ pvs1).toArray pn1) :: (rl, listOf (vr ++ rvs1).toArray rn1) :: (tl1 ++ (tl ++ b0))) hx18 hS1 hS3 hq0 ?c1 ?c2 ?c3 ld1 ?c4 ?c5 (.head _) hD hraw ?B ?F ?X N5 ?T ?hk ?hd ?hu ?_
        (case B => k_asm); (case F => k_asm); (case X => k_asm); (case T => k_asm); (case hk => exact rfl); (case hd => decide +kernel); (case hu => decide +kernel)
        (case c1 => rw [hraws]; exact hq)
        (case c2 => omega)
        (case c3 => omega)
        (case c4 => exact List.forall_mem_cons.mpr ⟨o8, List.forall_mem_cons.mpr ⟨hIo.symm, List.forall_mem_cons.mpr ⟨o1, List.forall_mem_cons.mpr ⟨o2, z1o⟩⟩⟩⟩)
        (case c5 => exact List.forall_mem_cons.mpr ⟨o10, List.forall_mem_cons.mpr ⟨hId.symm, List.forall_mem_cons.mpr ⟨o5.symm, List.forall_mem_cons.mpr ⟨o6.symm, z1d⟩⟩⟩⟩)
        rintro ⟨p2, tp2, i2, pvs2, rvs2, pn2, rn2, tl2⟩ hh2 tk2 e2 ⟨_, r1, r2, r3, r4, r5, r6, r7⟩ F6 N6
        dsimp only [cutLed] at e2 r1 r2 r3 r4 r5 r6 r7 N6
        have N7 := news_sub N6 led4
        clear N6 N5
        k_steps
        (with_reducible rename News _ _ _ _ => N9)
        (with_reducible rename Fr _ _ _ _ => F9)
        refine' turn_live g2 g3 g4 g5 g6 g7 hId hIo hIr hIp hIz hraws hqn hvo hvd e1 q1 q2 q3 q4 q5 q6 q8 e2 r2 r3 r4 ?c7 F9 N9 ?hsx rfl ?hkx
        (case c7 => exact fun z hz => ⟨(r7 z hz).2.1, (r7 z hz).2.2 _ (.tail _ (.head _))⟩)
        (case hsx => with_unfolding_all rfl)
        (case hkx => kst_all)
      | false =>
        rw [el, if_neg Bool.false_ne_true] at hem
        k_steps
        (with_reducible rename News _ _ _ _ => N9)
        (with_reducible rename Fr _ _ _ _ => F9)
        refine' turn_dead g2 g3 g4 g5 g6 g7 hId hIo hIr hIp hIz hk1 hqn F9 N9 ?hsx rfl ?hkx
        (case hsx => with_unfolding_all rfl)
        (case hkx => kst_all)
    | false => 
      clear hr
      k_steps
      (with_reducible rename News _ _ _ _ => N9)
      (with_reducible rename Fr _ _ _ _ => F9)
      refine' turn_dead g2 g3 g4 g5 g6 g7 hId hIo hIr hIp hIz hk1 hqn F9 N9 ?hsx rfl ?hkx
      (case hsx => with_unfolding_all rfl)
      (case hkx => kst_all))
  (case done =>
    rintro ⟨vp, vr, vo, vd, np, nr, no, nd, q, tq, rs, tl⟩ u h tk ⟨g1, g2, g3, g4, g5, g6, g7⟩ F1 N1
    dsimp only [envOf, kstB, lawLed, lawPs] at g1 g2 g3 g4 g5 g6 g7 F1 N1
    rw [hT.len, List.take_length] at g1
    obtain ⟨hS1, hS2, hS3⟩ := srcOf_ok hok h1 h6
    have g1' : q = ((srcOf ks).length : Int) := g1
    clear g1
    subst g1'
    rw [hb0] at N1
    have N2 := news_sub N1 led5
    clear N1
    have hvo : vo.length = vp.length := g2.len
    have hvd : vd.length = vr.length := by rw [g4.len, g3.len]
    have hvpl : vp.length ≤ 108 := by omega
    have hvrl : vr.length ≤ 108 := by omega
    have ob1 : pl ≠ bx := Nat.ne_of_gt lp3
    have ob2 : rl ≠ bx := Nat.ne_of_gt (Nat.lt_trans lp3 lr1)
    have ob3 : ol ≠ bx := Nat.ne_of_gt (Nat.lt_trans lp3 lo2)
    have ob4 : dl ≠ bx := Nat.ne_of_gt (Nat.lt_trans lp3 ld3)
    have zb : ∀ z ∈ tl ++ tl0, z.1 ≠ bx := fun z hz => (List.mem_append.mp hz).elim (fun h => Nat.ne_of_gt (Nat.lt_trans (Nat.lt_trans lp3 ld3) (g7 z h))) (htb z)
    have htl : ∀ z ∈ tl, z ∈ (bx, boxO lst p0 q0 t1 t2 0) :: (pl, listOf vp.toArray np) :: (rl, listOf vr.toArray nr) :: (ol, listOf vo.toArray no) :: (dl, listOf vd.toArray nd) :: (tl ++ tl0) := fun z hz => .tail _ (.tail _ (.tail _ (.tail _ (.tail _ (List.mem_append_left _ hz)))))
    k_steps
    unfold Stop
    refine For_invVF (by assumption) rfl rfl ?_
    k_steps
    unfold Stop
    (with_reducible rename Fr _ _ _ _ => F3)
    (with_reducible rename News _ _ _ _ => N3)
    rename IsRange _ _ _ _ _ _ _ _ => R3
    refine' my_range (σ := Unit) (n := vr.length) (fun _ => (bx, boxO lst p0 q0 t1 t2 0) :: (pl, listOf vp.toArray np) :: (rl, listOf vr.toArray nr) :: (ol, listOf vo.toArray no) :: (dl, listOf vd.toArray nd) :: (tl ++ tl0)) (fun _ => [("box", .ref bx), ("source", .str (srcOf ks) tS), ("parts", .ref pl), ("rows", .ref rl), ("told", .ref ol), ("delimiters", .ref dl)]) (fun _ _ => True) () rfl R3 (small_one (by decide) (by decide) (by omega) (by omega)) (by rw [rangeSize_nat]; simp) F3 N3 ?hk1 ?hn1 trivial ?turn1 ?done1
    (case hk1 => kst_all)
    (case hn1 => intro z hz; repeat (first | exact hz | refine my_tail ?_))
    (case turn1 =>
      rintro i ti _ u h tk I oI hi _ F4 N4 hoffI
      obtain ⟨v1, v2, r, hv1, hv2, ⟨a1, dx, s1', s2', s3', s4', s5', k1, k2, k3, k4, k5, k6, k7, nn1, nn2, rfl, m1, m2, rfl⟩, ⟨a2, x1, x2, x3, x4, x5, nn3, rfl, m3⟩⟩ := rows_at g3 g4 hi
      dsimp only [envOf, kstB] at F4 N4 hoffI
      have N5 := news_sub N4 (led6 m1 m2 m3)
      clear N4
      k_steps
      (with_reducible rename News _ _ _ _ => N9)
      (with_reducible rename Fr _ _ _ _ => F9)
      refine' fend () F9 N9 ?hsx ?hkx ?hnx hoffI trivial
      (case hsx => with_unfolding_all rfl)
      (case hkx => kst_all)
      (case hnx => exact fun e he => .tail _ (led7 e he)))
    (case done1 =>
      clear F3 N3 R3
      rintro _ u h tk - F3 N3
      dsimp only [envOf, kstB] at F3 N3
      k_steps
      unfold Stop
      refine For_invVF (by assumption) rfl rfl ?_
      k_steps
      unfold Stop
      (with_reducible rename Fr _ _ _ _ => F5)
      (with_reducible rename News _ _ _ _ => N5)
      rename IsRange _ _ _ _ _ _ _ _ => R5
      refine' my_range (σ := Unit) (n := (srcOf ks).length) (fun _ => (bx, boxO lst p0 q0 t1 t2 0) :: (pl, listOf vp.toArray np) :: (rl, listOf vr.toArray nr) :: (ol, listOf vo.toArray no) :: (dl, listOf vd.toArray nd) :: (tl ++ tl0)) (fun _ => [("box", .ref bx), ("source", .str (srcOf ks) tS), ("parts", .ref pl), ("told", .ref ol)]) (fun _ _ => True) () rfl R5 (small_one (by decide) (by decide) (by omega) (by omega)) (by rw [rangeSize_nat]; simp) F5 N5 ?hk2 ?hn2 trivial ?turn2 ?done2
      (case hk2 => kst_all)
      (case hn2 => intro z hz; repeat (first | exact hz | refine my_tail ?_))
      (case turn2 =>
        rintro i ti _ u h tk I oI hi _ F4 N4 hoffI
        dsimp only [envOf, kstB] at F4 N4 hoffI
        have hgi : good (atC (srcOf ks) (0 + (i : Int)).toNat) := good_at hS1 (by omega)
        k_steps
        (with_reducible rename News _ _ _ _ => N9)
        (with_reducible rename Fr _ _ _ _ => F9)
        refine' fend () F9 N9 ?hsx ?hkx ?hnx hoffI trivial
        (case hsx => with_unfolding_all rfl)
        (case hkx => kst_all)
        (case hnx => exact fun e he => he))
      (case done2 =>
        clear F5 N5 R5
        rintro _ u h tk - F5 N5
        dsimp only [envOf, kstB] at F5 N5
        k_steps
        unfold Stop
        k_dflt (refine' c_draw ?B ?F ?X ?N ?T ?hk ?hl ?hi ?hlen ?U ?p0 ?p1 ?q0 ?q1 ?k0 ?k1 ?hd ?hu ?_; (case B => k_asm); (case F => k_asm); (case X => k_asm); (case N => k_asm); (case T => k_asm); (case hk => exact rfl); (case hl => k_asm); (case hi => k_asm); (case hlen => omega); (case U => k_updF); (case p0 => omega); (case p1 => omega); (case q0 => omega); (case q1 => omega); (case k0 => omega); (case k1 => omega); (case hd => decide +kernel); (case hu => decide +kernel))
        intro v1 q1 tv1 tv11 tv12 hv1 kv1 hv10 hv11 hq10 hq11 Fv1 Nv1
        (try dsimp only at Nv1)
        k_steps
        unfold Stop
        have hXl : (Txt.slice (srcOf ks) (some (1 + v1)) none).length ≤ 108 := by omega
        k_dflt (refine' c_draw ?B ?F ?X ?N ?T ?hk ?hl ?hi ?hlen ?U ?p0 ?p1 ?q0 ?q1 ?k0 ?k1 ?hd ?hu ?_; (case B => k_asm); (case F => k_asm); (case X => k_asm); (case N => k_asm); (case T => k_asm); (case hk => exact rfl); (case hl => k_asm); (case hi => k_asm); (case hlen => omega); (case U => k_updF); (case p0 => omega); (case p1 => omega); (case q0 => omega); (case q1 => omega); (case k0 => omega); (case k1 => omega); (case hd => decide +kernel); (case hu => decide +kernel))
        intro v2 q2 tv2 tv21 tv22 hv2 kv2 hv20 hv21 hq20 hq21 Fv2 Nv2
        (try dsimp only at Nv2)
        k_steps
        unfold Stop
        (with_reducible rename Fr _ _ _ _ => F7)
        (with_reducible rename News _ _ _ _ => N7)
        refine' my_while (σ := Int × Nat) (fun _ => (bx, boxO lst (p0 + 1 + 1) q2 tv21 tv22 0) :: (pl, listOf vp.toArray np) :: (rl, listOf vr.toArray nr) :: (ol, listOf vo.toArray no) :: (dl, listOf vd.toArray nd) :: (tl ++ tl0)) (fun c => [("box", .ref bx), ("source", .str (srcOf ks) tS), ("parts", .ref pl), ("told", .ref ol), ("words", .str (Txt.slice (srcOf ks) (some (1 + v1)) none) ?tw), ("at", .int v2 tv2), ("want", .int c.1 c.2)])
          (fun c => v2 ≤ c.1 ∧ c.1 ≤ (Txt.slice (srcOf ks) (some (1 + v1)) none).length ∧ spanEnd plain (Txt.slice (srcOf ks) (some (1 + v1)) none) c.1.toNat = spanEnd plain (Txt.slice (srcOf ks) (some (1 + v1)) none) v2.toNat) (fun c => c.1 = (spanEnd plain (Txt.slice (srcOf ks) (some (1 + v1)) none) v2.toNat : Nat)) (fun c => (Txt.slice (srcOf ks) (some (1 + v1)) none).length - c.1.toNat) (v2, _) F7 N7 ?hk3 (fun _ h => h) ⟨Int.le_refl _, by show v2 ≤ _; omega, rfl⟩ ?turn3 ?done3
        (case hk3 => kst_all)
        (case turn3 =>
          rintro ⟨j, tj⟩ u1 hh1 tk1 ⟨g0, g1, g2⟩ F2 N2
          dsimp only [envOf, kstB] at g0 g1 g2 F2 N2
          k_steps
          all_goals first
            | exact scan_stop g0 hv20 g2 fun h => absurd h (by assumption)
            | exact scan_stop g0 hv20 g2 fun _ => plain_l (by assumption)
            | exact scan_stop g0 hv20 g2 fun _ => plain_u (by assumption)
            | (refine' wend (_, _) ?Fw ?Nw ?hsw ?hkw ?hnw ?_ ?_
               (case hsw => with_unfolding_all rfl); (case Fw => k_asm); (case Nw => k_asm); (case hkw => kst_all); (case hnw => exact fun _ h => h)
               · exact ⟨by show v2 ≤ j + 1; omega, by show j + 1 ≤ _; omega, scan_step g0 hv20 (by assumption) g2 (plain_n (by assumption) (by assumption))⟩
               · show (Txt.slice (srcOf ks) (some (1 + v1)) none).length - (j + 1).toNat < (Txt.slice (srcOf ks) (some (1 + v1)) none).length - j.toNat
                 omega))
        (case done3 =>
          clear F7 N7
          rintro ⟨j, tj⟩ u h tk g0 F7 N7
          have g0' : j = (spanEnd plain (Txt.slice (srcOf ks) (some (1 + v1)) none) v2.toNat : Nat) := g0
          clear g0
          subst g0'
          dsimp only [envOf, kstB] at F7 N7
          k_steps
          unfold Stop
          k_dflt (refine' c_draw ?B ?F ?X ?N ?T ?hk ?hl ?hi ?hlen ?U ?p0 ?p1 ?q0 ?q1 ?k0 ?k1 ?hd ?hu ?_; (case B => k_asm); (case F => k_asm); (case X => k_asm); (case N => k_asm); (case T => k_asm); (case hk => exact rfl); (case hl => k_asm); (case hi => k_asm); (case hlen => omega); (case U => k_updF); (case p0 => omega); (case p1 => omega); (case q0 => omega); (case q1 => omega); (case k0 => omega); (case k1 => omega); (case hd => decide +kernel); (case hu => decide +kernel))
          intro v3 q3 tv3 tv31 tv32 hv3 kv3 hv30 hv31 hq30 hq31 Fv3 Nv3
          (try dsimp only at Nv3)
          k_steps
          unfold Stop
          k_dflt (refine' c_draw ?B ?F ?X ?N ?T ?hk ?hl ?hi ?hlen ?U ?p0 ?p1 ?q0 ?q1 ?k0 ?k1 ?hd ?hu ?_; (case B => k_asm); (case F => k_asm); (case X => k_asm); (case N => k_asm); (case T => k_asm); (case hk => exact rfl); (case hl => k_asm); (case hi => k_asm); (case hlen => omega); (case U => k_updF); (case p0 => omega); (case p1 => omega); (case q0 => omega); (case q1 => omega); (case k0 => omega); (case k1 => omega); (case hd => decide +kernel); (case hu => decide +kernel))
          intro v4 q4 tv4 tv41 tv42 hv4 kv4 hv40 hv41 hq40 hq41 Fv4 Nv4
          (try dsimp only at Nv4)
          k_steps
          unfold Stop
          refine For_invVF (by assumption) rfl rfl ?_
          k_steps
          unfold Stop
          (with_reducible rename Fr _ _ _ _ => F8)
          (with_reducible rename News _ _ _ _ => N8)
          refine' my_tuple (σ := Unit) (fun _ => (_, ({ cls := .type "tuple", data := .seq #[.str (Str.ofString "*") _, .str (Str.ofString "_") _] 0 } : Obj)) :: (bx, boxO lst (p0 + 1 + 1 + 1 + 1) q4 tv41 tv42 0) :: (pl, listOf vp.toArray np) :: (rl, listOf vr.toArray nr) :: (ol, listOf vo.toArray no) :: (dl, listOf vd.toArray nd) :: (tl ++ tl0)) (fun _ => [("source", .str (srcOf ks) tS), ("parts", .ref pl), ("told", .ref ol), ("where", .int v3 tv3), ("size", .int (1 + v4) _)]) (fun _ _ => True) () rfl (fun _ => .head _) F8 N8 ?hk4 (fun _ h => h) trivial ?turn4 ?done4
          (case hk4 => kst_all)
          (case turn4 =>
            rintro i v _ u h tk I oI hv _ F4 N4 hoffI
            obtain ⟨mk, tmk, hmk, rfl⟩ := sign_at hv
            dsimp only [envOf, kstB] at F4 N4 hoffI
            k_steps
            (with_reducible rename News _ _ _ _ => N9)
            (with_reducible rename Fr _ _ _ _ => F9)
            refine' fend () F9 N9 ?hsx ?hkx ?hnx hoffI trivial
            (case hsx => with_unfolding_all rfl)
            (case hkx => kst_all)
            (case hnx => exact fun e he => .tail _ he))
          (case done4 =>
            clear F8 N8
            rintro _ u h tk - F8 N8
            dsimp only [envOf, kstB] at F8 N8
            k_steps)))))
)
end Mine

theorem PySem.Challenge.cw_fe5002_01_holds : PySem.Challenge.rw_fe5002_01.Holds := by
  exact Mine.the_law
