import PyProof.Rows.All
import Wide.All
import OpenK.AllK
import Wide.FinOn
import PySem.Challenge.RW_rs0064_01
set_option Elab.async false
section
open PySem PySem.W PyProof.Rows
set_option Elab.async false
set_option maxRecDepth 100000
set_option maxHeartbeats 8000000
namespace Mine
open_top hd for PySem.Challenge.rw_rs0064_01
end Mine
end
section
open PySem PySem.W PyProof.Rows
set_option Elab.async false
set_option maxRecDepth 100000
namespace Mine
/-- The 48 signs, as codes, in the order of their numbers; the table of the numbers, in its own order. -/
def sg : List (List Nat) := [[40], [41], [91], [93], [58], [44], [59], [43], [45], [42], [47], [124], [38], [60], [62], [61], [46], [37], [123], [125], [61, 61], [33, 61], [60, 61], [62, 61], [126], [94], [60, 60], [62, 62], [42, 42], [43, 61], [45, 61], [42, 61], [47, 61], [37, 61], [38, 61], [124, 61], [94, 61], [60, 60, 61], [62, 62, 61], [42, 42, 61], [47, 47], [47, 47, 61], [64], [64, 61], [45, 62], [46, 46, 46], [58, 61], [33]]
def tab : List (List Nat × Int) := [([33], 54), ([33, 61], 28), ([37], 24), ([37, 61], 40), ([38], 19), ([38, 61], 41), ([40], 7), ([41], 8), ([42], 16), ([42, 42], 35), ([42, 42, 61], 46), ([42, 61], 38), ([43], 14), ([43, 61], 36), ([44], 12), ([45], 15), ([45, 61], 37), ([45, 62], 51), ([46], 23), ([46, 46, 46], 52), ([47], 17), ([47, 47], 47), ([47, 47, 61], 48), ([47, 61], 39), ([58], 11), ([58, 61], 53), ([59], 13), ([60], 20), ([60, 60], 33), ([60, 60, 61], 44), ([60, 61], 29), ([61], 22), ([61, 61], 27), ([62], 21), ([62, 61], 30), ([62, 62], 34), ([62, 62, 61], 45), ([64], 49), ([64, 61], 50), ([91], 9), ([93], 10), ([94], 32), ([94, 61], 43), ([123], 25), ([124], 18), ([124, 61], 42), ([125], 26), ([126], 31)]
def single (n : Int) : Bool := if n = 0 then false else (Builtin.bitAnd n (n - 1) == 0)
def high (n : Int) : Int := (Builtin.Int.intBits n : Int) - 1
def found (l : List Nat) : Int := (tab.lookup l).getD (-1)
def orf (fl fd : Int) : Int := if 0 ≤ fd then Builtin.bitOr fl (2 ^ fd.toNat) else fl
def flg (T : List Nat) : Nat → Int
  | 0 => 0
  | i + 1 => orf (flg T i) (found (T.take (i + 1)))
def numOf (fl : Int) : Int := high (if single fl then fl else fl % 2 ^ 54)
def numAt (T : List Nat) : Int := numOf (flg T 3)
/-- The length of the sign of a number. -/
def lenOf (n : Int) : Nat := (sg.getD (n - 7).toNat []).length
/-- What the reader makes of a text, in at most k steps. -/
def rdF : Nat → List Nat → List Int
  | 0, _ => []
  | _ + 1, [] => []
  | k + 1, c :: T => if numAt (c :: T) < 0 then rdF k T else numAt (c :: T) :: rdF k ((c :: T).drop (lenOf (numAt (c :: T))))
def rd (T : List Nat) : List Int := rdF T.length T

theorem tab_keys : ∀ q ∈ tab, q.1 ∈ sg := by decide
theorem tab_found : ∀ q ∈ tab, 7 ≤ q.2 ∧ q.2 ≤ 54 := by decide
theorem lookup_mem {α β : Type} [BEq α] [LawfulBEq α] {a : α} {b : β} : ∀ {l : List (α × β)}, l.lookup a = some b → (a, b) ∈ l
  | [], h => by cases h
  | (k, v) :: r, h => by
    rw [List.lookup_cons] at h
    split at h
    · rename_i e
      rw [beq_iff_eq] at e
      cases h; rw [e]; exact .head _
    · exact .tail _ (lookup_mem h)
theorem found_range (l : List Nat) : found l = -1 ∨ (7 ≤ found l ∧ found l ≤ 54) := by
  unfold found
  cases h : tab.lookup l with
  | none => exact .inl rfl
  | some v => exact .inr (tab_found _ (lookup_mem h))
end Mine
end
section
open PySem PySem.W PyProof.Rows
set_option Elab.async false
set_option maxRecDepth 100000
namespace Mine
/-- The end of a turn of a for. -/
def FPost {σ : Type} (h₀ : Heap) (L : Addr) (Led : σ → List (Addr × Obj)) (ps : σ → List (Str × Value)) (x : Str) (stored : List Str) (m₀ : Str → Option Value) (P : σ → Prop) (adr : List Addr) (own : List (Addr × Obj)) (s₁ : Shared) (Q : Flow → Shared → Prop) (f : Flow) (s₂ : Shared) : Prop :=
  match f with
  | .ret v => Q (.ret v) s₂
  | .brk => Q .next s₂
  | _ => ∃ (c : σ) (h' : Heap) (tk : Nat) (m' : Str → Option Value) (news' : List (Addr × Obj)), s₂ = { s₁ with heap := h', toks := tk } ∧ Fr h₀ L h' m' ∧ News h₀ L h' news' ∧ (∀ p ∈ Led c, p ∈ news') ∧ (∀ p ∈ own, p ∈ news') ∧ (Led c).map (·.1) = adr ∧
      (∀ p ∈ ps c, m' p.1 = some p.2) ∧ (∀ z, z ≠ x → (∀ p ∈ ps c, z ≠ p.1) → stored.contains z = false → m' z = m₀ z) ∧ P c
theorem for_st {σ : Type} {prog : Program} {w : World} {A : Around} {E : Value → Shared → Prop} {s : Shared} {env : Env} {h₀ : Heap} {x : Str} {body : List Stmt} {Q : Flow → Shared → Prop} {r : Addr} {a₀ b₀ : Int} {t₀ u₀ v₀ : Tok} {n : Nat} {m₀ : Str → Option Value}
    (Led : σ → List (Addr × Obj)) (ps : σ → List (Str × Value)) (stored : List Str) (P : Nat → σ → Prop) (c₀ : σ)
    (hh : A.handled = none) (hr : IsRange s.heap r a₀ b₀ 1 t₀ u₀ v₀) (hsmall : Builtin.Range.small a₀ b₀ 1 = true) (hn : Builtin.Range.rangeSize a₀ b₀ 1 = (n : Int)) (F : Fr h₀ env.locals s.heap m₀) (N : News h₀ env.locals s.heap (Led c₀)) (hk : ∀ p ∈ ps c₀, m₀ p.1 = some p.2) (hp : P 0 c₀)
    (turn : ∀ (i : Nat) (c : σ) t (u : Str → Option Value) h tk own, i < n → OwnOff own ((Led c₀).map (·.1)) → P i c →
      Fr h₀ env.locals h (fun y => if y = x then some (.int (a₀ + (i : Int)) t) else kstB (fun z => if stored.contains z then u z else m₀ z) (ps c) y) → News h₀ env.locals h (Led c ++ own) →
      wpAny (model prog w) A (execs body env) (FPost h₀ env.locals Led ps x stored m₀ (P (i + 1)) ((Led c₀).map (·.1)) own { s with heap := h, toks := tk } Q) E { s with heap := h, toks := tk })
    (done : ∀ (c : σ) (u : Str → Option Value) h tk, P n c → Fr h₀ env.locals h (fun y => if y = x then u y else kstB (fun z => if stored.contains z then u z else m₀ z) (ps c) y) → News h₀ env.locals h (Led c) → Q .next { s with heap := h, toks := tk }) :
    wpAny (model prog w) A (pyIter (.ref r)) (fun it s₂ => LoopAtV prog w A h₀ env x body Q E it s₂) E s := by
  refine kst_range Led ps (fun _ => True) stored (fun pre c => P pre.length c) c₀ hh hr hsmall hn F N trivial hk hp ?_ ?_
  · intro c pre k t u h tk own hk' hlt hoff _ hP F₁ N₁
    subst hk'
    refine wpAny_mono (turn pre.length c t u h tk own hlt hoff hP F₁ N₁) (fun f s₂ q => ?_) fun _ _ e => e
    cases f with
    | ret v => exact q
    | brk => exact q
    | next =>
      obtain ⟨c', h', tk', m', news', rfl, F', N', hL, ho, ha, h1, h2, h3⟩ := q
      exact kst_end c' F' N' hL ho ha trivial h1 h2 (by simpa using h3)
    | cont =>
      obtain ⟨c', h', tk', m', news', rfl, F', N', hL, ho, ha, h1, h2, h3⟩ := q
      exact kst_end c' F' N' hL ho ha trivial h1 h2 (by simpa using h3)
  · intro c u h tk _ hP F₁ N₁
    rw [rangeKs_length] at hP
    exact done c u h tk hP F₁ N₁

/-- The end of a turn of a while. -/
def WPost {σ : Type} (h₀ : Heap) (L : Addr) (s : Shared) (Led : σ → List (Addr × Obj)) (ps : σ → List (Str × Value)) (stored : List Str) (m₀ : Str → Option Value) (P : σ → Prop) (Q : Flow → Shared → Prop) (f : Flow) (s₂ : Shared) : Prop :=
  match f with
  | .ret v => Q (.ret v) s₂
  | .brk => Q .next s₂
  | _ => ∃ (c : σ) (h' : Heap) (tk : Nat) (m' : Str → Option Value) (news' : List (Addr × Obj)), s₂ = { s with heap := h', toks := tk } ∧ Fr h₀ L h' m' ∧ News h₀ L h' news' ∧ (∀ p ∈ Led c, p ∈ news') ∧
      (∀ p ∈ ps c, m' p.1 = some p.2) ∧ (∀ z, (∀ p ∈ ps c, z ≠ p.1) → stored.contains z = false → m' z = m₀ z) ∧ P c
theorem while_st {σ : Type} {prog : Program} {w : World} {A : Around} {E : Value → Shared → Prop} {Q : Flow → Shared → Prop} {s : Shared} {env : Env} {h₀ : Heap} {L : Addr} {test : Expr} {body : List Stmt} {pos : Pos} {m₀ : Str → Option Value}
    (Led : σ → List (Addr × Obj)) (ps : σ → List (Str × Value)) (stored : List Str) (P : σ → Prop) (μ : σ → Nat) (c₀ : σ)
    (F : Fr h₀ L s.heap m₀) (N : News h₀ L s.heap (Led c₀)) (hk : ∀ p ∈ ps c₀, m₀ p.1 = some p.2) (hp : P c₀)
    (turn : ∀ (c : σ) (u : Str → Option Value) h tk, P c → Fr h₀ L h (kstB (fun z => if stored.contains z then u z else m₀ z) (ps c)) → News h₀ L h (Led c) →
      wpAny (model prog w) A (isTrue test env (eval test env)) (fun b s₂ =>
        if b = true then wpAny (model prog w) A (execs body env) (WPost h₀ L s Led ps stored m₀ (fun c' => P c' ∧ μ c' < μ c) Q) E s₂ else Q .next s₂) E { s with heap := h, toks := tk })
    (hE : PassesOwn (model prog w) A env E := by passes_own) :
    wpAny (model prog w) A (exec (.While test body [] pos) env) Q E s := by
  refine ksw_while Led ps (fun _ => True) stored P μ c₀ F N trivial hk hp ?_ hE
  intro c u h tk _ hP F₁ N₁
  refine wpAny_mono (turn c u h tk hP F₁ N₁) (fun b s₂ q => ?_) fun _ _ e => e
  cases b with
  | false => simpa using q
  | true =>
    simp only [if_true] at q ⊢
    refine wpAny_mono q (fun f s₃ q' => ?_) fun _ _ e => e
    cases f with
    | ret v => exact q'
    | brk => exact q'
    | next =>
      obtain ⟨c', h', tk', m', news', rfl, F', N', hL, h1, h2, h3, h4⟩ := q'
      exact ksw_end c' F' N' hL trivial h1 h2 h3 h4
    | cont =>
      obtain ⟨c', h', tk', m', news', rfl, F', N', hL, h1, h2, h3, h4⟩ := q'
      exact ksw_end c' F' N' hL trivial h1 h2 h3 h4
/-- A while that fills the newest list with ints and turns one int. -/
theorem while_row {prog : Program} {w : World} {A : Around} {E : Value → Shared → Prop} {Q : Flow → Shared → Prop} {s : Shared} {env : Env} {h₀ : Heap} {L lr : Addr} {test : Expr} {body : List Stmt} {pos : Pos} {m₀ : Str → Option Value} {news : List (Addr × Obj)} {p₀ : Int} {t₀ : Tok}
    (y : Str) (stored : List Str) (P : List Int → Int → Prop) (μ : Int → Nat)
    (F : Fr h₀ L s.heap m₀) (N : News h₀ L s.heap ((lr, listOf #[] 0) :: news)) (hk : m₀ y = some (.int p₀ t₀)) (hp : P [] p₀)
    (turn : ∀ (ys : List Value) (zs : List Int) (cy : Nat) (p : Int) (tp : Tok) (u : Str → Option Value) h tk, IntsAre ys zs → P zs p → Fr h₀ L h (fun z => if z = y then some (.int p tp) else if stored.contains z then u z else m₀ z) → News h₀ L h ((lr, listOf ys.toArray cy) :: news) →
      wpAny (model prog w) A (isTrue test env (eval test env)) (fun b s₂ =>
        if b = true then wpAny (model prog w) A (execs body env) (WPost (σ := List Value × List Int × Nat × Int × Tok) h₀ L s (fun c => (lr, listOf c.1.toArray c.2.2.1) :: news) (fun c => [(y, .int c.2.2.2.1 c.2.2.2.2)]) stored m₀ (fun c => (IntsAre c.1 c.2.1 ∧ P c.2.1 c.2.2.2.1) ∧ μ c.2.2.2.1 < μ p) Q) E s₂ else Q .next s₂) E { s with heap := h, toks := tk })
    (hE : PassesOwn (model prog w) A env E := by passes_own) :
    wpAny (model prog w) A (exec (.While test body [] pos) env) Q E s := by
  refine while_st (σ := List Value × List Int × Nat × Int × Tok) (fun c => (lr, listOf c.1.toArray c.2.2.1) :: news) (fun c => [(y, .int c.2.2.2.1 c.2.2.2.2)]) stored (fun c => IntsAre c.1 c.2.1 ∧ P c.2.1 c.2.2.2.1) (fun c => μ c.2.2.2.1) ([], [], 0, p₀, t₀) F N ?_ ⟨.nil, hp⟩ ?_ hE
  · intro p hp
    rw [List.mem_singleton.mp hp]
    exact hk
  · rintro ⟨ys, zs, cy, p, tp⟩ u h tk ⟨hI, hP⟩ F₁ N₁
    exact turn ys zs cy p tp u h tk hI hP F₁ N₁

/-- A for over a range that turns one name. -/
theorem for_one {prog : Program} {w : World} {A : Around} {E : Value → Shared → Prop} {s : Shared} {env : Env} {h₀ : Heap} {x : Str} {body : List Stmt} {Q : Flow → Shared → Prop} {r : Addr} {a₀ b₀ : Int} {t₀ u₀ v₀ : Tok} {n : Nat} {m₀ : Str → Option Value} {news : List (Addr × Obj)} {c₀ : Value}
    (y : Str) (stored : List Str) (P : Nat → Value → Prop)
    (hh : A.handled = none) (hr : IsRange s.heap r a₀ b₀ 1 t₀ u₀ v₀) (hsmall : Builtin.Range.small a₀ b₀ 1 = true) (hn : Builtin.Range.rangeSize a₀ b₀ 1 = (n : Int)) (F : Fr h₀ env.locals s.heap m₀) (N : News h₀ env.locals s.heap news) (hk : m₀ y = some c₀) (hp : P 0 c₀)
    (turn : ∀ (i : Nat) (c : Value) t (u : Str → Option Value) h tk own, i < n → OwnOff own (news.map (·.1)) → P i c →
      Fr h₀ env.locals h (fun z => if z = x then some (.int (a₀ + (i : Int)) t) else if z = y then some c else if stored.contains z then u z else m₀ z) → News h₀ env.locals h (news ++ own) →
      wpAny (model prog w) A (execs body env) (FPost h₀ env.locals (fun _ => news) (fun c => [(y, c)]) x stored m₀ (P (i + 1)) (news.map (·.1)) own { s with heap := h, toks := tk } Q) E { s with heap := h, toks := tk })
    (done : ∀ (c : Value) (u : Str → Option Value) h tk, P n c → Fr h₀ env.locals h (fun z => if z = x then u z else if z = y then some c else if stored.contains z then u z else m₀ z) → News h₀ env.locals h news → Q .next { s with heap := h, toks := tk }) :
    wpAny (model prog w) A (pyIter (.ref r)) (fun it s₂ => LoopAtV prog w A h₀ env x body Q E it s₂) E s := by
  refine for_st (σ := Value) (fun _ => news) (fun c => [(y, c)]) stored P c₀ hh hr hsmall hn F N ?_ hp ?_ ?_
  · intro p hp
    rw [List.mem_singleton.mp hp]
    exact hk
  · intro i c t u h tk own hi hoff hP F₁ N₁
    exact turn i c t u h tk own hi hoff hP F₁ N₁
  · intro c u h tk hP F₁ N₁
    exact done c u h tk hP F₁ N₁
/-- A for over a range that turns one cell. -/
theorem for_cell {prog : Program} {w : World} {A : Around} {E : Value → Shared → Prop} {s : Shared} {env : Env} {h₀ : Heap} {x : Str} {body : List Stmt} {Q : Flow → Shared → Prop} {r : Addr} {a₀ b₀ : Int} {t₀ u₀ v₀ : Tok} {n : Nat} {m₀ : Str → Option Value} {rest : List (Addr × Obj)} {ab : Addr} {o₀ : Obj}
    (stored : List Str) (P : Nat → Obj → Prop)
    (hh : A.handled = none) (hr : IsRange s.heap r a₀ b₀ 1 t₀ u₀ v₀) (hsmall : Builtin.Range.small a₀ b₀ 1 = true) (hn : Builtin.Range.rangeSize a₀ b₀ 1 = (n : Int)) (F : Fr h₀ env.locals s.heap m₀) (N : News h₀ env.locals s.heap ((ab, o₀) :: rest)) (hp : P 0 o₀)
    (turn : ∀ (i : Nat) (o : Obj) t (u : Str → Option Value) h tk own, i < n → OwnOff own (ab :: rest.map (·.1)) → P i o →
      Fr h₀ env.locals h (fun z => if z = x then some (.int (a₀ + (i : Int)) t) else if stored.contains z then u z else m₀ z) → News h₀ env.locals h ((ab, o) :: (rest ++ own)) →
      wpAny (model prog w) A (execs body env) (FPost h₀ env.locals (fun o => (ab, o) :: rest) (fun _ => []) x stored m₀ (P (i + 1)) (ab :: rest.map (·.1)) own { s with heap := h, toks := tk } Q) E { s with heap := h, toks := tk })
    (done : ∀ (o : Obj) (u : Str → Option Value) h tk, P n o → Fr h₀ env.locals h (fun z => if z = x then u z else if stored.contains z then u z else m₀ z) → News h₀ env.locals h ((ab, o) :: rest) → Q .next { s with heap := h, toks := tk }) :
    wpAny (model prog w) A (pyIter (.ref r)) (fun it s₂ => LoopAtV prog w A h₀ env x body Q E it s₂) E s := by
  refine for_st (σ := Obj) (fun o => (ab, o) :: rest) (fun _ => []) stored P o₀ hh hr hsmall hn F N (fun p hp => nomatch hp) hp ?_ ?_
  · intro i c t u h tk own hi hoff hP F₁ N₁
    exact turn i c t u h tk own hi hoff hP F₁ N₁
  · intro c u h tk hP F₁ N₁
    exact done c u h tk hP F₁ N₁
end Mine
end
section
open PySem PySem.W PyProof.Rows PyProof.Rows.LCg
set_option autoImplicit false
set_option Elab.async false
set_option maxRecDepth 100000
namespace Mine
/-- The end of an element of a comprehension: all that stood still stands. -/
def TEnd (h₀ : Heap) (L : Addr) (m : Str → Option Value) (s₁ : Shared) (led : List (Addr × Obj)) (R : Value → Prop) (y : Value) (s₂ : Shared) : Prop :=
  ∃ (h' : Heap) (tk : Nat) (all : List (Addr × Obj)), s₂ = { s₁ with heap := h', toks := tk } ∧ Fr h₀ L h' m ∧ News h₀ L h' all ∧ (∀ p ∈ led, p ∈ all) ∧ R y
section
variable {prog : Program} {w : World} {A : Around} {s : Shared} {h₀ : Heap} {L : Addr} {m : Str → Option Value} {env : Env} {ct elt : Expr} {x : Str} {scope : Scope} {cl : List (Str × Addr)} {S : List (Addr × Obj) → Prop} {P : Nat → Value → Prop} {Fin : List Value → List (Addr × Obj) → Prop} {news : List (Addr × Obj)} {n : Nat}
theorem restT (J : Nat → List Value → Prop) (hS : S news) (fin : ∀ ys, J n ys → Fin ys news)
    (step : ∀ (i : Nat) (ys : List Value) (v : Value) (I : Addr) (oI : Obj) (C : Addr) (oC : Obj) (D : Addr) (m₂ : Str → Option Value) (h : Heap) (tk : Nat) (E' : Value → Shared → Prop), i < n → J i ys → P i v → NsObj oC m₂ → m₂ x = some v → Fr h₀ L h m → News h₀ L h ((I, oI) :: (C, oC) :: (D, lst ys) :: news) → Off3 I C D news →
      wpAny (model prog w) A (isTrue ct (compEnvC scope cl C env) (eval ct (compEnvC scope cl C env))) (fun ok s' => if ok = true then
        wpAny (model prog w) A (eval elt (compEnvC scope cl C env)) (TEnd h₀ L m { s with heap := h, toks := tk } ((I, oI) :: (C, oC) :: (D, lst ys) :: news) (fun y => J (i + 1) (ys ++ [y]))) E' s'
        else TEnd h₀ L m { s with heap := h, toks := tk } ((I, oI) :: (C, oC) :: (D, lst ys) :: news) (fun _ => J (i + 1) ys) Value.none s') E' { s with heap := h, toks := tk }) :
    ∀ (k i : Nat) (ys : List Value), i + k = n → J i ys → LCt.CompRestT prog w A h₀ L m env ct elt x scope cl s S P Fin k i ys news
  | 0, i, ys, e, hJ => by
    have e' : i = n := by omega
    subst e'
    exact fin ys hJ
  | k + 1, i, ys, e, hJ => by
    refine LCt.CompRestT.succ ?_
    intro v I oI C oC D m₂ h tk E' hP hC hx F N off _
    refine wpAny_mono (step i ys v I oI C oC D m₂ h tk E' (by omega) hJ hP hC hx F N off) (fun ok s' q => ?_) fun _ _ z => z
    cases ok with
    | true =>
      simp only [if_true] at q ⊢
      refine wpAny_mono q (fun y s₂ q => ?_) fun _ _ z => z
      obtain ⟨h', tk', all, rfl, F', N', sub, hR⟩ := q
      exact CompEnd.intro F' N' news sub off hS (restT J hS fin step k (i + 1) _ (by omega) hR)
    | false =>
      simp only [Bool.false_eq_true, if_false] at q ⊢
      obtain ⟨h', tk', all, rfl, F', N', sub, hR⟩ := q
      exact CompEnd.intro F' N' news sub off hS (restT J hS fin step k (i + 1) _ (by omega) hR)
theorem restU (J : Nat → List Value → Prop) (hS : S news) (fin : ∀ ys, J n ys → Fin ys news)
    (step : ∀ (i : Nat) (ys : List Value) (v : Value) (I : Addr) (oI : Obj) (C : Addr) (oC : Obj) (D : Addr) (m₂ : Str → Option Value) (h : Heap) (tk : Nat) (E' : Value → Shared → Prop), i < n → J i ys → P i v → NsObj oC m₂ → m₂ x = some v → Fr h₀ L h m → News h₀ L h ((I, oI) :: (C, oC) :: (D, lst ys) :: news) → Off3 I C D news →
      wpAny (model prog w) A (eval elt (compEnvC scope cl C env)) (TEnd h₀ L m { s with heap := h, toks := tk } ((I, oI) :: (C, oC) :: (D, lst ys) :: news) (fun y => J (i + 1) (ys ++ [y]))) E' { s with heap := h, toks := tk }) :
    ∀ (k i : Nat) (ys : List Value), i + k = n → J i ys → CompRest prog w A h₀ L m env elt x scope cl s S P Fin k i ys news
  | 0, i, ys, e, hJ => by
    have e' : i = n := by omega
    subst e'
    exact fin ys hJ
  | k + 1, i, ys, e, hJ => by
    refine CompRest.succ ?_
    intro v I oI C oC D m₂ h tk E' hP hC hx F N off _
    refine wpAny_mono (step i ys v I oI C oC D m₂ h tk E' (by omega) hJ hP hC hx F N off) (fun y s₂ q => ?_) fun _ _ z => z
    obtain ⟨h', tk', all, rfl, F', N', sub, hR⟩ := q
    exact CompEnd.intro F' N' news sub off hS (restU J hS fin step k (i + 1) _ (by omega) hR)
end
end Mine
end
section
open PySem PySem.W PyProof.Rows
set_option autoImplicit false
set_option Elab.async false
set_option maxRecDepth 100000
namespace Mine
theorem st_canLayAll0 : ∀ ns : List Str, (∀ x ∈ ns, PyData.strOk x = true) → PyData.canLayAll0 (ns.map PyData.str) = true
  | [], _ => rfl
  | x :: r, h => by
    have h1 := h x (.head _)
    have h2 := st_canLayAll0 r fun y hy => h y (.tail _ hy)
    simp only [List.map_cons, PyData.canLayAll0, PyData.canLay0, h1, h2, Bool.and_self]
theorem st_depthAll : ∀ ns : List Str, PyData.depthAll (ns.map PyData.str) = 0
  | [] => rfl
  | _ :: r => by simp only [List.map_cons, PyData.depthAll, PyData.depth, st_depthAll r, Nat.max_self]
theorem st_shaped (ns : List Str) (h : ∀ x ∈ ns, PyData.strOk x = true) : SeqAt.shaped (.list (ns.map PyData.str)) = true := by
  simp [SeqAt.shaped, PyData.canLay0, st_canLayAll0 ns h, PyData.depth, st_depthAll]
theorem st_sameAll : ∀ ns ms : List Str, PySem.Spec.sameAll (ns.map PyData.str) (ms.map PyData.str) = decide (ns = ms)
  | [], [] => by simp [PySem.Spec.sameAll]
  | [], _ :: _ => by simp [PySem.Spec.sameAll]
  | _ :: _, [] => by simp [PySem.Spec.sameAll]
  | a :: r, b :: t => by
    simp only [List.map_cons, PySem.Spec.sameAll, PyProof.V.same_str, st_sameAll r t]
    by_cases h : a = b <;> by_cases h' : r = t <;> simp [h, h']
theorem st_same (ns ms : List Str) : PySem.Spec.same (.list (ns.map PyData.str)) (.list (ms.map PyData.str)) = decide (ns = ms) := by
  simp only [PySem.Spec.same]; exact st_sameAll ns ms
section
variable {prog : Program} {w : World} {A : Around} {E : Value → Shared → Prop} {s : Shared} {a b : Addr} {xs ys : List Value} {ns ms : List Str} {Q : Value → Shared → Prop}
theorem st_eq (ha : s.heap.IsList a xs.toArray) (hb : s.heap.IsList b ys.toArray) (hi : StrsAre xs ns) (hj : StrsAre ys ms) (ok1 : ∀ x ∈ ns, PyData.strOk x = true) (ok2 : ∀ x ∈ ms, PyData.strOk x = true) (hu : A.units + 64 < cLine) (h : Q (.bool (decide (ns = ms))) s) :
    wpAny (model prog w) A (compareOp .Eq (.ref a) (.ref b)) Q E s :=
  eq_dataH_same (reads_newData ha hi.carried) (reads_newData hb hj.carried) (st_shaped _ ok1) (st_shaped _ ok2) hu (SeqAt.noMix_of_shape (.list .str) rfl _ _ (list_map_has fun _ => rfl) (list_map_has fun _ => rfl)) (by rw [st_same]; exact h)
end
section
variable {prog : Program} {w : World} {A : Around} {E : Value → Shared → Prop} {s : Shared} {h₀ : Heap} {L l : Addr} {m : Str → Option Value} {news : List (Addr × Obj)} {value slice : PySem.Expr} {vs : List Value} {tx ty : Tok} {x y : Int} {Q : Value → Shared → Prop}
theorem pick_run (vs : List Value) (h : 0 ≤ x) (h2 : 0 ≤ y) : slicePick vs.toArray (some x) (some y) none = ((vs.drop x.toNat).take (y.toNat - x.toNat)).toArray := by
  rw [kms_pick_eq]
  congr 1
  show (vs.drop (kms_lo (some x) vs.length)).take (kms_hi (some y) vs.length - kms_lo (some x) vs.length) = _
  simp only [kms_lo, kms_hi, if_neg (show ¬ x < 0 by omega), if_neg (show ¬ y < 0 by omega)]
  rw [kmk_drop_min]
  by_cases hx : x.toNat ≤ vs.length
  · rw [Nat.min_eq_left hx]
    by_cases hy : y.toNat ≤ vs.length
    · rw [Nat.min_eq_left hy]
    · rw [Nat.min_eq_right (by omega), List.take_of_length_le (by rw [List.length_drop]; omega), List.take_of_length_le (by rw [List.length_drop]; omega)]
  · rw [List.drop_eq_nil_of_le (by omega)]; simp
/-- A cut of a list between two places that do not lie below nought. -/
theorem cut_list (F : Fr h₀ L s.heap m) (N : News h₀ L s.heap news) (hl : s.heap.IsList l vs.toArray) (h0 : 0 ≤ x) (h2 : 0 ≤ y) (hz : vs.length ≤ sizeLine)
    (h : ∀ D h', Fr h₀ L h' m → News h₀ L h' ((D, listOf ((vs.drop x.toNat).take (y.toNat - x.toNat)).toArray 0) :: news) → (∀ p ∈ news, p.1 < D) → Q (.ref D) { s with heap := h' })
    (hs : subscripted slice false (.ref l) (.ref s.heap.objs.size) = operate [.ref s.heap.objs.size, .ref l] (getItem (.ref l) (.ref s.heap.objs.size))) (ht : ∀ r, letTemporaryGo value (.ref l) r = pure ()) :
    wpAny (model prog w) A (subscriptTail value slice (.ref l) (.ref s.heap.objs.size)) Q E { s with heap := s.heap.push { cls := .type "slice", data := .fields #[.int x tx, .int y ty, .none] } } := by
  refine kmk_slice F N hl (.int _ _) (.int _ _) (fun D h' F' N' l1 => h D h' F' ?_ l1) hs ht (by rw [List.size_toArray]; exact hz)
  rw [← pick_run vs h0 h2]; exact N'
end
theorem mem_l {α : Type} {a : α} {r own : List α} : ∀ q ∈ a :: r, q ∈ a :: (r ++ own) := fun q hq => by
  rcases List.mem_cons.mp hq with rfl | h
  · exact .head _
  · exact .tail _ (List.mem_append_left _ h)
theorem mem_o {α : Type} {a : α} {r own : List α} : ∀ q ∈ own, q ∈ a :: (r ++ own) := fun q hq => .tail _ (List.mem_append_right _ hq)
end Mine
end
section
open PySem PySem.W PyProof.Rows PyProof.Rows.LCg
set_option autoImplicit false
set_option Elab.async false
set_option maxRecDepth 100000
namespace Mine
section
variable {M : Model} {A : Around} {E : Value → Shared → Prop} {s : Shared} {scope : Scope} {env : Env} {x : Str}
/-- The environment of a block that keeps one name in a cell. -/
theorem env_cell {Q : Env → Shared → Prop} (hcf : ∀ n, cellsFrom n scope.names [] = [(x, n)]) (hpc : ∀ h, pushCells h scope.names = h.push { cls := .type "cell", data := .cell none })
    (h : Q { scope := scope, locals := s.heap.objs.size, globals := env.globals, cells := [(x, s.heap.objs.size + 1)], qual := env.qual, func := none, code := env.code, frame := env.frame, builtins := env.builtins }
      { s with heap := (s.heap.push { cls := .type "dict", data := .dict #[] }).push { cls := .type "cell", data := .cell none } }) :
    wpAny M A (newFunctionEnv scope env.globals [] [] env.qual none .none (some env)) Q E s := by
  simp only [newFunctionEnv, Option.isSome_some, if_true]
  refine wpAny_bind (wpAny_alloc ?_)
  refine wpAny_bind (wpAny_layCells _ (fun name kind cells => by cases hkc : kind == NameKind.cell <;> simp [hkc]) _ _ _ _ ?_)
  rw [hcf, hpc]
  rw [show ({ s with heap := s.heap.push { cls := .type "dict", data := .dict #[] } } : Shared).heap.objs.size = s.heap.objs.size + 1 from Heap.size_push ..]
  exact wpAny_bind (wpAny_pure (wpAny_pure h))
end
/-- Four addresses, each other than the rest and than those of a ledger. -/
structure Apart (I C c D L : Addr) (news : List (Addr × Obj)) : Prop where
  ic : I ≠ C
  ik : I ≠ c
  id : I ≠ D
  ck : C ≠ c
  cd : C ≠ D
  kd : c ≠ D
  il : I ≠ L
  cl : C ≠ L
  kl : c ≠ L
  dl : D ≠ L
  off : ∀ p ∈ news, p.1 ≠ I ∧ p.1 ≠ C ∧ p.1 ≠ c ∧ p.1 ≠ D
section
variable {prog : Program} {w : World} {A : Around} {E : Value → Shared → Prop} {s : Shared} {h₀ : Heap} {m : Str → Option Value} {env : Env} {elt iter : Expr} {x y : Str} {px py : Pos} {scope : Scope} {pos spos : Pos}
/-- What an element over a tuple has to show, its name in a cell. -/
def CellTurn (prog : Program) (w : World) (A : Around) (h₀ : Heap) (L : Addr) (m : Str → Option Value) (env : Env) (elt : Expr) (x : Str) (scope : Scope) (s : Shared) (its : Array Value) (St : Nat → List Value → Prop) (news : List (Addr × Obj)) : Prop :=
  ∀ (i : Nat) (ys : List Value) (v : Value) (I : Addr) (oI : Obj) (C : Addr) (oC : Obj) (c : Addr) (oc : Obj) (D : Addr) (mC : Str → Option Value) (h : Heap) (tk : Nat) (E' : Value → Shared → Prop), its[i]? = some v → St i ys → NsObj oC mC → oc.data = .cell (some v) → Fr h₀ L h m →
    News h₀ L h ((I, oI) :: (C, oC) :: (c, oc) :: (D, lst ys) :: news) → Apart I C c D L news →
    wpAny (model prog w) A (eval elt (compEnvC scope [(x, c)] C env)) (TEnd h₀ L m { s with heap := h, toks := tk } ((I, oI) :: (C, oC) :: (c, oc) :: (D, lst ys) :: news) (fun z => St (i + 1) (ys ++ [z]))) E' { s with heap := h, toks := tk }
/-- The state between two turns. -/
def CellMid (h₀ : Heap) (L : Addr) (m : Str → Option Value) (s₂ : Shared) (I T C c D : Addr) (n : Nat) (St : Nat → List Value → Prop) (news : List (Addr × Obj)) (k : Nat) (s' : Shared) : Prop :=
  ∃ (h : Heap) (tk i : Nat) (ys : List Value) (mC : Str → Option Value) (co : Option Value), s' = { s₂ with heap := h, toks := tk } ∧ i ≤ n ∧ k = n + 1 - i ∧ ys.length = i ∧ St i ys ∧ h.IsTupleIter I T i ∧ Fr h₀ L h m ∧ h.Ns C mC ∧ h.IsCell c co ∧ News h₀ L h ((D, lst ys) :: news)
theorem news_but' {h h' : Heap} {L I : Addr} {news : List (Addr × Obj)} (N : News h₀ L h news) (hs : Heap.ExtBut I h h') (off : ∀ p ∈ news, p.1 ≠ I) : News h₀ L h' news :=
  fun p hp => ⟨hs _ _ (off p hp) (N p hp).1, (N p hp).2⟩
theorem fr_but' {h h' : Heap} {L I : Addr} (F : Fr h₀ L h m) (hs : Heap.ExtBut I h h') (hL : L ≠ I) (hI : h₀.get? I = none) : Fr h₀ L h' m :=
  ⟨F.ns.at' fun o e => hs L o hL e, fun b o e => hs b o (fun q => by rw [q, hI] at e; cases e) (F.keep b o e), F.above⟩
theorem celled {s₂ : Shared} {I T C c D L : Addr} {its : Array Value} {St : Nat → List Value → Prop} {news : List (Addr × Obj)} {oT : Obj} {R : Result → Shared → Prop}
    (hh : A.handled = none) (hm : (T, oT) ∈ news) (hT : oT.cls = .type "tuple" ∧ ∃ n, oT.data = .seq its n) (hsz : its.size ≤ sizeLine) (hkind : scope.kind = .function) (hx : (compEnvC scope [(x, c)] C env).kindOf x = some .cell) (ap : Apart I C c D L news)
    (fresh : h₀.get? I = none ∧ h₀.get? C = none ∧ h₀.get? c = none)
    (turn : CellTurn prog w A h₀ L m env elt x scope s₂ its St news)
    (fin : ∀ h tk ys mC, St its.size ys → Fr h₀ L h m → h.Ns C mC → News h₀ L h ((D, lst ys) :: news) → R (.ok .next) { s₂ with heap := h, toks := tk }) :
    ∀ (k : Nat) (s' : Shared), CellMid h₀ L m s₂ I T C c D its.size St news k s' →
    codeAny (model prog w) A (.compLoop (.ListComp elt [⟨.Name x px, iter, [], 0⟩] scope pos) 0 (.ref I) (.ref D) (compEnvC scope [(x, c)] C env)) R s' := by
  intro k s' hI
  refine codeAny_compLoop_tests (CellMid h₀ L m s₂ I T C c D its.size St news) ?_ k hI
  rintro k s' ⟨h, tk, i, ys, mC, co, rfl, hi, rfl, hyl, hst, hit, F, hns, hc, N⟩
  have hTu : h.IsTuple T its := ⟨oT, (N _ (.tail _ hm)).1, hT⟩
  by_cases hlt : i < its.size
  · refine wpAny_pyNext_tuple_item hit hTu (x := its[i]) (by simp [hlt]) fun h1 hit1 hs1 => ?_
    dsimp only
    have N1 : News h₀ L h1 ((D, lst ys) :: news) := news_but' N hs1.extBut fun p hp => by
      rcases List.mem_cons.mp hp with rfl | hp
      · exact ap.id.symm
      · exact (ap.off p hp).1
    have F1 := fr_but' F hs1.extBut ap.il.symm fresh.1
    obtain ⟨oc, hoc, hod⟩ := hc
    have hc1 : h1.IsCell c co := ⟨oc, hs1.extBut c oc ap.ik.symm hoc, hod⟩
    have hn1 := hns.sameBut hs1 ap.ic.symm
    refine wpAny_assign_Name (wpAny_storeName_cell (env := compEnvC scope [(x, c)] C env) (by simp [compEnvC, relabel, hkind]) hx (by simp [compEnvC]) hc1 fun h2 hc2 hs2 => ?_)
    refine wpAny_tests_nil ?_
    simp only [if_true]
    have N2 : News h₀ L h2 ((D, lst ys) :: news) := news_but' N1 hs2.extBut fun p hp => by
      rcases List.mem_cons.mp hp with rfl | hp
      · exact ap.kd.symm
      · exact (ap.off p hp).2.2.1
    have F2 := fr_but' F1 hs2.extBut ap.kl.symm fresh.2.2
    have hn2 := hn1.sameBut hs2 ap.ck
    obtain ⟨oI, eI, rI⟩ := id hit1
    have eI2 := hs2.extBut I oI ap.ik eI
    obtain ⟨oC, eC, rC⟩ := ns_obj hn2
    obtain ⟨oc2, ec2, rc2⟩ := hc2
    have N3 : News h₀ L h2 ((I, oI) :: (C, oC) :: (c, oc2) :: (D, lst ys) :: news) := fun p hp => by
      rcases List.mem_cons.mp hp with rfl | hp
      · exact ⟨eI2, ap.il, fresh.1⟩
      rcases List.mem_cons.mp hp with rfl | hp
      · exact ⟨eC, ap.cl, fresh.2.1⟩
      rcases List.mem_cons.mp hp with rfl | hp
      · exact ⟨ec2, ap.kl, fresh.2.2⟩
      exact N2 p hp
    refine wpAny_mono (turn i ys its[i] I oI C oC c oc2 D mC h2 tk _ (by simp [hlt]) hst rC rc2 F2 N3 ap) (fun z s₄ q => ?_) fun _ _ e => e
    obtain ⟨h4, tk4, all, rfl, F4, N4, sub, hR⟩ := q
    have N4' : News h₀ L h4 ((I, oI) :: (C, oC) :: (c, oc2) :: (D, lst ys) :: news) := fun p hp => N4 p (sub p hp)
    have zI := (N4' _ (.head _)).1
    have zC := (N4' _ (.tail _ (.head _))).1
    have zc := (N4' _ (.tail _ (.tail _ (.head _)))).1
    have zD := (N4' _ (.tail _ (.tail _ (.tail _ (.head _))))).1
    refine append_at (hsz := by rw [List.size_toArray, hyl]; omega) zD fun h5 hs5 hD5 => ?_
    refine ⟨its.size + 1 - (i + 1), by omega, h5, tk4, i + 1, ys ++ [z], mC, some its[i], rfl, hlt, rfl, by rw [List.length_append, List.length_singleton, hyl], hR, ⟨oI, hs5.extBut I oI ap.id zI, rI⟩, fr_but' F4 hs5.extBut ap.dl.symm (N4' _ (.tail _ (.tail _ (.tail _ (.head _))))).2.2, (rC.ns zC).sameBut hs5 ap.cd, ⟨oc2, hs5.extBut c oc2 ap.kd zc, rc2⟩, fun p hp => ?_⟩
    rcases List.mem_cons.mp hp with rfl | hp
    · exact ⟨hD5.trans (congrArg some (lst_snoc ys z)), ap.dl, (N4' _ (.tail _ (.tail _ (.tail _ (.head _))))).2.2⟩
    · have := N4' p (.tail _ (.tail _ (.tail _ (.tail _ hp))))
      exact ⟨hs5.extBut _ _ (ap.off p hp).2.2.2 this.1, this.2⟩
  · obtain rfl : i = its.size := Nat.le_antisymm hi (Nat.not_lt.mp hlt)
    refine wpAny_pyNext_tuple_end hh hit hTu (by simp) fun h1 hs1 => ?_
    dsimp only
    exact fin h1 tk ys mC hst (fr_but' F hs1 ap.il.symm fresh.1) (hns.at' fun o e => hs1 C o ap.ic.symm e) (news_but' N hs1 fun p hp => by
      rcases List.mem_cons.mp hp with rfl | hp
      · exact ap.id.symm
      · exact (ap.off p hp).1)
theorem off1_of {D : Addr} : ∀ {l : List (Addr × Obj)}, (∀ p ∈ l, p.1 ≠ D) → Off1 D l
  | [], _ => trivial
  | _ :: _, h => ⟨h _ List.mem_cons_self, off1_of fun q hq => h q (List.mem_cons_of_mem _ hq)⟩
/-- What the source of such a comprehension has to show. -/
def CellSrc (prog : Program) (w : World) (A : Around) (h₀ : Heap) (L : Addr) (m : Str → Option Value) (env : Env) (elt : Expr) (x : Str) (scope : Scope) (Fin : Shared → List Value → List (Addr × Obj) → Prop) (xv : Value) (s₁ : Shared) : Prop :=
  ∃ (T : Addr) (oT : Obj) (its : Array Value) (news : List (Addr × Obj)) (St : Nat → List Value → Prop), xv = .ref T ∧ A.handled = none ∧ Fr h₀ L s₁.heap m ∧ News h₀ L s₁.heap news ∧ (T, oT) ∈ news ∧ (oT.cls = .type "tuple" ∧ ∃ n, oT.data = .seq its n) ∧ its.size ≤ sizeLine ∧ St 0 [] ∧
    ∀ g, CellTurn prog w A h₀ L m env elt x scope { s₁ with heap := g } its St news ∧ ∀ ys, St its.size ys → Fin { s₁ with heap := g } ys news
theorem Assign_cell {Q : Flow → Shared → Prop} (F₀ : Fr h₀ env.locals s.heap m)
    (hsw : swapsWith (.ListComp elt [⟨.Name x px, iter, [], 0⟩] scope pos) (some (.Name y py)) spos.line env = pure true)
    (hclos : closureFor scope env = pure []) (hcf : ∀ n, cellsFrom n scope.names [] = [(x, n)]) (hpc : ∀ h, pushCells h scope.names = h.push { cls := .type "cell", data := .cell none }) (hkind : scope.kind = .function)
    (hnames : ∀ z ∈ scope.names, z.2 = .local → scope.names.lookup z.1 = some .local) (hx : ∀ C c, (compEnvC scope [(x, c)] C env).kindOf x = some .cell)
    (hy : env.kindOf y = some .local) (hp : (env.scope.kind == .class || (env.scope.kind == .module && env.locals != env.globals)) = false)
    (h : wpAny (model prog w) A (eval iter env) (CellSrc prog w A h₀ env.locals m env elt x scope (fun s₂ => FinA h₀ env.locals m s₂ y Q)) E s)
    (hs : ∀ x, foldedSetIterable iter env x = pure x := by intro _; rfl) :
    wpAny (model prog w) A (exec (.Assign [.Name y py] (.ListComp elt [⟨.Name x px, iter, [], 0⟩] scope pos) spos) env) Q E s := by
  rw [exec_Assign_Name_used _ _ _ _ hsw]
  refine wpAny_bind (wpAny_standAt (wpAny_bind ?_))
  show wpAny _ A (do let _ ← comprehension (.ListComp elt [⟨.Name x px, iter, [], 0⟩] scope pos) scope env _ (newList []) false (eval iter env) (some (assign (.Name y py) env))) _ _ s
  refine wpAny_bind (wpAny_mono (wpAny_comprehension_free (use := some (assign (.Name y py) env)) (Q := fun _ s' => Q .next s') rfl hs hclos hkind hnames
    (wpAny_mono h (fun xv s₁ h₁ => ?_) fun _ _ e => e)) (fun _ s' hq => wpAny_pure (wpAny_pure hq)) fun _ _ e => e)
  obtain ⟨T, oT, its, news, St, rfl, hh, F, N, hm, hT, hsz, st0, rest⟩ := h₁
  have hTu : s₁.heap.IsTuple T its := ⟨oT, (N _ hm).1, hT⟩
  refine wpAny_pyIter_tuple hTu ?_
  refine wpAny_newObj_type (env_cell hcf hpc ?_)
  generalize e1 : s₁.heap.push { cls := .type "tuple_iterator", data := .fields #[.ref T, .int 0 0] } = H1
  have z1 : H1.objs.size = s₁.heap.objs.size + 1 := by rw [← e1, Heap.size_push]
  have gI : H1.get? s₁.heap.objs.size = some { cls := .type "tuple_iterator", data := .fields #[.ref T, .int 0 0] } := by rw [← e1]; exact Heap.get?_push_size _ rfl
  have k1 : ∀ b o, s₁.heap.get? b = some o → H1.get? b = some o := fun b o e => by rw [← e1]; exact Heap.get?_push_of_some _ e
  dsimp only
  generalize e2 : H1.push { cls := .type "list", dict := none, data := .seq ([] : List Value).toArray } = H2
  have z2 : H2.objs.size = s₁.heap.objs.size + 2 := by rw [← e2, Heap.size_push, z1]
  have gD : H2.get? H1.objs.size = some (lst []) := by rw [← e2]; exact Heap.get?_push_size _ rfl
  have k2 : ∀ b o, H1.get? b = some o → H2.get? b = some o := fun b o e => by rw [← e2]; exact Heap.get?_push_of_some _ e
  generalize e3 : H2.push { cls := .type "dict", data := .dict #[] } = H3
  have z3 : H3.objs.size = s₁.heap.objs.size + 3 := by rw [← e3, Heap.size_push, z2]
  have gC : H3.Ns H2.objs.size fun _ => none := by rw [← e3]; exact Heap.Ns.new _ _
  have k3 : ∀ b o, H2.get? b = some o → H3.get? b = some o := fun b o e => by rw [← e3]; exact Heap.get?_push_of_some _ e
  have gc : (H3.push { cls := .type "cell", data := .cell none }).get? H3.objs.size = some { cls := .type "cell", data := .cell none } := Heap.get?_push_size _ rfl
  have k4 : ∀ b o, H3.get? b = some o → (H3.push { cls := .type "cell", data := .cell none }).get? b = some o := fun b o e => Heap.get?_push_of_some _ e
  generalize H3.push { cls := .type "cell", data := .cell none } = H4 at *
  have z3' : H3.objs.size = H2.objs.size + 1 := by omega
  rw [← z3']
  have all : ∀ b o, s₁.heap.get? b = some o → H4.get? b = some o := fun b o e => k4 _ _ (k3 _ _ (k2 _ _ (k1 _ _ e)))
  have fresh : ∀ a, s₁.heap.objs.size ≤ a → h₀.get? a = none := fun a ha => by
    cases e : h₀.get? a with
    | none => rfl
    | some o' => exact absurd (Heap.lt_size (F.keep a o' e)) (Nat.not_lt.mpr ha)
  have hLlt : env.locals < s₁.heap.objs.size := F.ns.lt
  have ap : Apart s₁.heap.objs.size H2.objs.size H3.objs.size H1.objs.size env.locals news := by
    have ne : ∀ {a b : Nat}, a < b → a ≠ b := fun h => Nat.ne_of_lt h
    have ne' : ∀ {a b : Nat}, b < a → a ≠ b := fun h => Nat.ne_of_gt h
    rw [z1, z2, z3]
    refine ⟨ne (by omega), ne (by omega), ne (by omega), ne (by omega), ne' (by omega), ne' (by omega), ne' hLlt, ne' (Nat.lt_of_lt_of_le hLlt (by omega)), ne' (Nat.lt_of_lt_of_le hLlt (by omega)), ne' (Nat.lt_of_lt_of_le hLlt (by omega)), fun p hp => ?_⟩
    have hlt := Heap.lt_size (N p hp).1
    exact ⟨ne hlt, ne (Nat.lt_of_lt_of_le hlt (by omega)), ne (Nat.lt_of_lt_of_le hlt (by omega)), ne (Nat.lt_of_lt_of_le hlt (by omega))⟩
  have loop : ∀ s' : Shared, s' = { s₁ with heap := H4 } →
      codeAny (model prog w) A (.compLoop (.ListComp elt [⟨.Name x px, iter, [], 0⟩] scope pos) 0 (.ref s₁.heap.objs.size) (.ref H1.objs.size) (compEnvC scope [(x, H3.objs.size)] H2.objs.size env))
        (compPost (model prog w) A E (some (assign (.Name y py) env)) (fun _ s' => Q .next s') (.ref H1.objs.size) H2.objs.size) s' := by
    rintro s' rfl
    obtain ⟨turn, fin⟩ := rest H4
    refine celled (L := env.locals) (m := m) (h₀ := h₀) (T := T) (news := news) (its := its) (St := St) (s₂ := { s₁ with heap := H4 }) hh hm hT hsz hkind (hx _ _) ap ⟨fresh _ (Nat.le_refl _), fresh _ (by omega), fresh _ (by omega)⟩ turn ?_ (its.size + 1) _ ?_
    · intro h tk ys mC hst F' hn N'
      show wpAny _ A (assign (.Name y py) env (.ref H1.objs.size)) _ _ _
      refine wpAny_assign_Name (wpAny_storeName_local hy F'.ns (fun h₂ hn₂ hs₂ => ?_) hp)
      have hL₀ : h₀.get? env.locals = none := Heap.get?_none_of_le F'.above
      have F₂ : Fr h₀ env.locals h₂ (fun z => if z = y then some (.ref H1.objs.size) else m z) := ⟨hn₂, fun b o e => hs₂.extBut b o (fun q => by rw [q, hL₀] at e; cases e) (F'.keep b o e), F'.above⟩
      refine ⟨mC, hn.sameBut hs₂ ap.cl, fun h'' hs'' => fin ys hst _ h'' _ (F₂.change hs'' ap.cl (fresh _ (by omega))) (news_but' (news_but' N' hs₂.extBut fun p hp => (N' p hp).2.1) hs''.extBut fun p hp => ?_) ?_⟩
      · rcases List.mem_cons.mp hp with rfl | hp
        · exact ap.cd.symm
        · exact (ap.off p hp).2.1
      · exact off1_of fun p hp => (ap.off p hp).2.2.2
    · refine ⟨H4, _, 0, [], _, none, rfl, Nat.zero_le _, rfl, rfl, st0, ⟨_, k4 _ _ (k3 _ _ (k2 _ _ gI)), rfl, rfl⟩, F.keeps all, gC.keeps k4, ⟨_, gc, rfl⟩, fun p hp => ?_⟩
      rcases List.mem_cons.mp hp with rfl | hp
      · exact ⟨k4 _ _ (k3 _ _ gD), ap.dl, fresh _ (by omega)⟩
      · exact ⟨all _ _ (N p hp).1, (N p hp).2⟩
  refine codeAny_compStart_list (loop _ rfl) (wpAny_pyIter_tupleiter (t := T) (i := 0) ⟨_, k4 _ _ (k3 _ _ (k2 _ _ gI)), rfl, rfl⟩ (loop _ rfl))
end
end Mine
end
section
open PySem PySem.W PyProof.Rows
set_option autoImplicit false
set_option Elab.async false
set_option maxRecDepth 100000
namespace Mine
section
variable {prog : Program} {w : World} {A : Around} {E : Value → Shared → Prop} {s : Shared} {a b : Addr} {x1 x2 y1 y2 : Int} {t1 t2 u1 u2 : Tok}
theorem tup_le_tree {P : Fin → Shared → Prop} (ha : s.heap.IsTuple a #[.int x1 t1, .int x2 t2]) (hb : s.heap.IsTuple b #[.int y1 u1, .int y2 u2])
    (h : P (.done (.ret (.bool (decide (x1 < y1 ∨ x1 = y1 ∧ x2 ≤ y2))))) s) :
    wpAny (model prog w) A (Builtin.«tuple.__le__» ⟨[.ref a, .ref b], []⟩) P E s := by
  have hTb := hb.typeIs
  obtain ⟨oa, hoa, _, na, hda⟩ := ha
  obtain ⟨ob, hob, _, nb, hdb⟩ := hb
  show wpAny _ _ (isInstance (.ref b) (.type "tuple") >>= _) _ _ s
  refine wpAny_bind (wpAny_isInstance hTb isSubtype_tuple_tuple ?_)
  simp only [Bool.not_true, Bool.false_eq_true, if_false]
  refine wpAny_bind (wpAny_tupleItemsOf hoa hda ?_)
  refine wpAny_bind (wpAny_tupleItemsOf hob hdb ?_)
  refine wpAny_bind ?_
  show wpAny _ _ (forIn [(Value.int x1 t1, Value.int y1 u1), (Value.int x2 t2, Value.int y2 u2)] _ _) _ _ _
  rw [List.forIn_cons]
  refine wpAny_bind (wpAny_bind (wpAny_eqBool_int ?_))
  by_cases e1 : x1 = y1
  · subst e1
    simp only [beq_self_eq_true, Bool.not_true, Bool.false_eq_true, if_false]
    refine wpAny_pure ?_
    dsimp only
    rw [List.forIn_cons]
    refine wpAny_bind (wpAny_bind (wpAny_eqBool_int ?_))
    by_cases e2 : x2 = y2
    · subst e2
      simp only [beq_self_eq_true, Bool.not_true, Bool.false_eq_true, if_false]
      refine wpAny_pure ?_
      dsimp only
      rw [List.forIn_nil]
      refine wpAny_pure ?_
      dsimp only
      refine wpAny_pure ?_
      simp at h
      exact h
    · have e2' : (x2 == y2) = false := by simpa using e2
      simp only [e2', Bool.not_false, if_true]
      refine wpAny_bind (wpAny_rule (wpAny_bind (wpAny_mono (le_int (Q := fun v s' => v = .bool (decide (x2 ≤ y2)) ∧ s' = s) ⟨rfl, rfl⟩) (fun v s' q => ?_) fun _ _ e => e)))
      obtain ⟨rfl, rfl⟩ := q
      refine wpAny_bind (wpAny_pure (wpAny_pure (wpAny_pure (wpAny_pure ?_))))
      simp at h
      exact h
  · have e1' : (x1 == y1) = false := by simpa using e1
    simp only [e1', Bool.not_false, if_true]
    refine wpAny_bind (wpAny_rule (wpAny_bind (wpAny_mono (le_int (Q := fun v s' => v = .bool (decide (x1 ≤ y1)) ∧ s' = s) ⟨rfl, rfl⟩) (fun v s' q => ?_) fun _ _ e => e)))
    obtain ⟨rfl, rfl⟩ := q
    refine wpAny_bind (wpAny_pure (wpAny_pure (wpAny_pure (wpAny_pure ?_))))
    have e : decide (x1 < y1 ∨ x1 = y1 ∧ x2 ≤ y2) = decide (x1 ≤ y1) := by
      rw [Bool.eq_iff_iff, decide_eq_true_iff, decide_eq_true_iff]; omega
    rw [e] at h
    exact h
theorem tup_le {Q : Value → Shared → Prop} (ha : s.heap.IsTuple a #[.int x1 t1, .int x2 t2]) (hb : s.heap.IsTuple b #[.int y1 u1, .int y2 u2]) (hu : A.units < cLine)
    (h : Q (.bool (decide (x1 < y1 ∨ x1 = y1 ∧ x2 ≤ y2))) s) : wpAny (model prog w) A (compareOp .LtE (.ref a) (.ref b)) Q E s := by
  refine cmp_ofLtE ?_
  exact wpAny_richCompare_same_room (op := .LtE) ha.typeIs hb.typeIs F.slot_tuple_le
    (wpAny_call_entry F.slot_tuple_le ha.typeIs F.entry_tuple_le (tup_le_tree ha hb ⟨_, rfl, (fun e => nomatch e), h⟩) (F.args_tuple_le_2 _ _)) hu
end
end Mine
end
section
open PySem PySem.W PyProof.Rows PySem.Builtin PySem.Builtin.Str
set_option autoImplicit false
set_option linter.unusedSimpArgs false
set_option Elab.async false
set_option maxRecDepth 100000
namespace Mine
theorem look_tab (y : Str) : ∀ l : List (List Nat × Int), Spec.lookup (PyData.str y) (l.map fun q => (PyData.str ⟨q.1.toArray⟩, PyData.int q.2)) = (l.lookup y.cps.toList).map PyData.int
  | [] => rfl
  | (k, v) :: r => by
    rw [List.map_cons, List.lookup_cons]
    simp only [Spec.lookup, PyProof.V.same_str]
    by_cases h : y.cps.toList = k
    · have e : (⟨k.toArray⟩ : Str) = y := by cases y; subst h; simp
      simp [h, e]
    · have e : ¬ ((⟨k.toArray⟩ : Str) = y) := by intro e; apply h; rw [← e]
      have h' : (y.cps.toList == k) = false := by simpa using h
      simp only [e, h', decide_false, Bool.false_eq_true, if_false]
      exact look_tab y r
theorem flat_found {v : Value} {y : Str} (h : PyProof.V.Flat v ((Spec.lookup (PyData.str y) (tab.map fun q => (PyData.str ⟨q.1.toArray⟩, PyData.int q.2))).getD (PyData.int (-1)))) : ∃ t, v = .int (found y.cps.toList) t := by
  rw [look_tab] at h
  unfold found
  cases e : tab.lookup y.cps.toList with
  | none => rw [e] at h; exact h.int_inv
  | some k => rw [e] at h; exact h.int_inv
theorem indices_past {n : Nat} {i j : Int} (h0 : 0 ≤ i) (h1 : i ≤ j) (h : (n : Int) ≤ j) : strSliceIndices (some i) (some j) 1 n = strSliceIndices (some i) (some (n : Int)) 1 n := by
  have a0 : ¬ i < 0 := by omega
  have a1 : ¬ j < 0 := by omega
  have a2 : ¬ ((n : Int) < 0) := by omega
  have h2 : (1 : Int) > 0 := by decide
  simp only [strSliceIndices, a0, a1, a2, h2, if_false, if_true, Int.min_eq_right h, Int.min_self]
/-- A cut of a text, wherever its end lies. -/
theorem slice_codes {x : Str} {i j : Int} (h0 : 0 ≤ i) (h1 : i ≤ j) (hi : i ≤ x.length) : (Txt.slice x (some i) (some j)).cps.toList = (x.cps.toList.drop i.toNat).take (j - i).toNat := by
  have hlen : x.cps.toList.length = x.length := by simp [Str.length]
  by_cases h : j ≤ x.length
  · have e := beq_iff_eq.mp (slice_closes (x := x) (i := i) (j := j) ⟨h0, h1, by rw [hlen]; exact h⟩)
    rw [e]
  · have e2 : Txt.slice x (some i) (some j) = Txt.slice x (some i) (some (x.length : Int)) := by
      unfold Txt.slice
      rw [indices_past h0 h1 (by omega)]
    rw [e2]
    have e := beq_iff_eq.mp (slice_closes (x := x) (i := i) (j := (x.length : Int)) ⟨h0, hi, by rw [hlen]; exact Int.le_refl _⟩)
    rw [e]
    simp only []
    rw [List.take_of_length_le, List.take_of_length_le]
    · rw [List.length_drop, hlen]; omega
    · rw [List.length_drop, hlen]; omega
end Mine
end
section
open PySem PySem.W PyProof.Rows
set_option autoImplicit false
set_option Elab.async false
set_option maxRecDepth 100000
namespace Mine
theorem found_mem {l : List Nat} (h : 0 ≤ found l) : l ∈ sg := by
  unfold found at h
  cases e : tab.lookup l with
  | none => rw [e] at h; exact absurd h (by decide)
  | some v => exact tab_keys _ (lookup_mem e)
theorem num3 : ∀ u ∈ sg, numOf (flg u 3) = found u := by decide +kernel
theorem num2 : ∀ u ∈ sg, u.length ≤ 2 → numOf (flg u 2) = found u := by decide +kernel
theorem num1 : ∀ u ∈ sg, u.length ≤ 1 → numOf (flg u 1) = found u := by decide +kernel
theorem num0 : numOf 0 = -1 := by decide +kernel
theorem sg_found : ∀ i, i < 48 → found (sg.getD i []) = 7 + (i : Int) := by decide +kernel
theorem sg_len : ∀ u ∈ sg, 1 ≤ u.length ∧ u.length ≤ 3 := by decide
theorem orf_neg {a b : Int} (h : ¬ 0 ≤ b) : orf a b = a := by unfold orf; rw [if_neg h]
theorem flg_take3 (T : List Nat) : flg T 3 = flg (T.take 3) 3 := by
  simp [flg, List.take_take]
theorem flg_take2 (T : List Nat) : flg T 2 = flg (T.take 2) 2 := by
  simp [flg, List.take_take]
theorem flg_take1 (T : List Nat) : flg T 1 = flg (T.take 1) 1 := by
  simp [flg, List.take_take]
/-- The number read at a place: that of the longest sign there. -/
theorem numAt_eq (T : List Nat) : numAt T = if 0 ≤ found (T.take 3) then found (T.take 3) else if 0 ≤ found (T.take 2) then found (T.take 2) else found (T.take 1) := by
  unfold numAt
  by_cases h3 : 0 ≤ found (T.take 3)
  · rw [if_pos h3, flg_take3, num3 _ (found_mem h3)]
  · rw [if_neg h3]
    have e3 : flg T 3 = flg T 2 := orf_neg h3
    by_cases h2 : 0 ≤ found (T.take 2)
    · rw [if_pos h2, e3, flg_take2, num2 _ (found_mem h2) (by rw [List.length_take]; omega)]
    · rw [if_neg h2]
      have e2 : flg T 2 = flg T 1 := orf_neg h2
      by_cases h1 : 0 ≤ found (T.take 1)
      · rw [e3, e2, flg_take1, num1 _ (found_mem h1) (by rw [List.length_take]; omega)]
      · have e1 : flg T 1 = 0 := orf_neg h1
        rw [e3, e2, e1, num0]
        rcases found_range (T.take 1) with h | h
        · exact h.symm
        · omega
theorem numAt_range (T : List Nat) : numAt T = -1 ∨ (7 ≤ numAt T ∧ numAt T ≤ 54) := by
  rw [numAt_eq]
  have h3 := found_range (T.take 3)
  have h2 := found_range (T.take 2)
  have h1 := found_range (T.take 1)
  split
  · exact h3
  · split
    · exact h2
    · exact h1
theorem getD_mem {i : Nat} (h : i < 48) : sg.getD i [] ∈ sg := by
  have : i < sg.length := h
  rw [List.getD_eq_getElem?_getD, List.getElem?_eq_getElem this]
  exact List.getElem_mem this
theorem lenOf_range {n : Int} (h : 7 ≤ n ∧ n ≤ 54) : 1 ≤ lenOf n ∧ lenOf n ≤ 3 := sg_len _ (getD_mem (by omega))
theorem rdF_nil (k : Nat) : rdF k [] = [] := by cases k <;> rfl
theorem rdF_fuel : ∀ (n : Nat) (T : List Nat) (k : Nat), T.length ≤ n → T.length ≤ k → rdF k T = rdF T.length T
  | _, [], k, _, _ => by rw [rdF_nil, rdF_nil]
  | 0, c :: T, _, h, _ => by simp at h
  | n + 1, c :: T, 0, _, h => by simp at h
  | n + 1, c :: T, k + 1, h, hk => by
    simp only [List.length_cons] at h hk ⊢
    show (if numAt (c :: T) < 0 then rdF k T else numAt (c :: T) :: rdF k ((c :: T).drop (lenOf (numAt (c :: T))))) = if numAt (c :: T) < 0 then rdF T.length T else numAt (c :: T) :: rdF T.length ((c :: T).drop (lenOf (numAt (c :: T))))
    by_cases hn : numAt (c :: T) < 0
    · rw [if_pos hn, if_pos hn]
      exact rdF_fuel n T k (by omega) (by omega)
    · rw [if_neg hn, if_neg hn]
      have hr := lenOf_range (n := numAt (c :: T)) (by have := numAt_range (c :: T); omega)
      have hl : ((c :: T).drop (lenOf (numAt (c :: T)))).length ≤ T.length := by rw [List.length_drop, List.length_cons]; omega
      rw [rdF_fuel n _ k (by omega) (by omega), rdF_fuel n _ T.length (by omega) hl]
theorem rd_nil : rd [] = [] := rfl
theorem rd_cons (c : Nat) (T : List Nat) : rd (c :: T) = if numAt (c :: T) < 0 then rd T else numAt (c :: T) :: rd ((c :: T).drop (lenOf (numAt (c :: T)))) := by
  show (if numAt (c :: T) < 0 then rdF T.length T else numAt (c :: T) :: rdF T.length ((c :: T).drop (lenOf (numAt (c :: T))))) = _
  by_cases hn : numAt (c :: T) < 0
  · rw [if_pos hn, if_pos hn]; rfl
  · rw [if_neg hn, if_neg hn]
    have hr := lenOf_range (n := numAt (c :: T)) (by have := numAt_range (c :: T); omega)
    have hl : ((c :: T).drop (lenOf (numAt (c :: T)))).length ≤ T.length := by rw [List.length_drop, List.length_cons]; omega
    rw [rdF_fuel _ _ T.length (Nat.le_refl _) hl]; rfl
theorem rd_step {l : List Nat} {p : Nat} (h : p < l.length) : rd (l.drop p) = if numAt (l.drop p) < 0 then rd (l.drop (p + 1)) else numAt (l.drop p) :: rd (l.drop (p + lenOf (numAt (l.drop p)))) := by
  have e : l.drop p = l[p] :: l.drop (p + 1) := List.drop_eq_getElem_cons h
  conv => lhs; rw [e, rd_cons]
  rw [← e]
  by_cases hn : numAt (l.drop p) < 0
  · rw [if_pos hn, if_pos hn]
  · rw [if_neg hn, if_neg hn, List.drop_drop]
end Mine
namespace Mine
def sgn : List Str := sg.map fun l => ⟨l.toArray⟩
theorem sgn_len : sgn.length = 48 := rfl
theorem sgn_getD (i : Nat) : (sgn.getD i Str.empty).cps.toList = sg.getD i [] := by
  unfold sgn
  rw [List.getD_eq_getElem?_getD, List.getElem?_map, List.getD_eq_getElem?_getD]
  cases sg[i]? <;> simp [Str.empty]
theorem sgn_lenOf (n : Int) : (sgn.getD (n - 7).toNat Str.empty).length = lenOf n := by
  unfold lenOf
  rw [← sgn_getD]; simp [Str.length]
end Mine
end
section
open PySem PySem.W PyProof.Rows PySem.Builtin PySem.Builtin.Str
set_option autoImplicit false
set_option Elab.async false
set_option maxRecDepth 100000
namespace Mine
def cds (ps : List Str) : List (List Nat) := ps.map fun s => s.cps.toList
theorem cds_getD (ps : List Str) (i : Nat) : (cds ps).getD i [] = (ps.getD i Str.empty).cps.toList := by
  unfold cds
  rw [List.getD_eq_getElem?_getD, List.getElem?_map, List.getD_eq_getElem?_getD]
  cases ps[i]? <;> simp [Str.empty]
/-- The k-th binary figure. -/
def bit (b : Int) (k : Nat) : Int := (b.fdiv (2 ^ k)).fmod 2
theorem bit_range (b : Int) (k : Nat) : bit b k = 0 ∨ bit b k = 1 := by
  unfold bit
  have h1 := Int.fmod_nonneg_of_pos (b.fdiv (2 ^ k)) (b := 2) (by decide)
  have h2 := Int.fmod_lt_of_pos (b.fdiv (2 ^ k)) (b := 2) (by decide)
  omega
/-- The pieces up to the i-th, one behind the other, with their blanks. -/
def spcN (ps : List (List Nat)) (b : Int) : Nat → List Nat
  | 0 => ps.getD 0 []
  | i + 1 => spcN ps b i ++ List.replicate (bit b i).toNat 32 ++ ps.getD (i + 1) []
def spc (ps : List (List Nat)) (b : Int) : List Nat := spcN ps b (ps.length - 1)
theorem app_codes (x y : Str) : (x ++ y).cps.toList = x.cps.toList ++ y.cps.toList := Array.toList_append
theorem blank_is : Str.ofString " " = ⟨#[32]⟩ := by decide
theorem blanks_codes (n : Int) : (Txt.mul (Str.ofString " ") n).cps.toList = List.replicate n.toNat 32 := by
  rw [blank_is]; exact mul_one_list 32 n
theorem str_len (x : Str) : x.length = x.cps.toList.length := by simp [Str.length]
theorem getD_le3 {ps : List Str} (h : ∀ p ∈ ps, p.length ≤ 3) (i : Nat) : (ps.getD i Str.empty).length ≤ 3 := by
  rw [List.getD_eq_getElem?_getD]
  cases e : ps[i]? with
  | none => simp [Str.empty, Str.length]
  | some p => exact h p (List.mem_of_getElem? e)
theorem getD_ge1 {ps : List Str} (h : ∀ p ∈ ps, 1 ≤ p.length) {i : Nat} (hi : i < ps.length) : 1 ≤ (ps.getD i Str.empty).length := by
  rw [List.getD_eq_getElem?_getD, List.getElem?_eq_getElem hi]
  exact h _ (List.getElem_mem hi)
def dot3 : List (List Nat) := [[46], [46], [46]]
def longer (both : List Nat) (size : Nat) : Bool := sg.contains (both.take size)
/-- No blank wanted behind the k-th piece, or one is there. -/
def OkAt (ps : List (List Nat)) (b : Int) (k : Nat) : Prop :=
  bit b k = 0 → (∀ q, q < 3 - (ps.getD k []).length → longer (ps.getD k [] ++ ps.getD (k + 1) []) ((ps.getD k []).length + 1 + q) = false) ∧ ¬ ((ps.drop k).take 3 = dot3 ∧ bit b (k + 1) = 0)
def Fits (ps : List (List Nat)) (b : Int) : Prop := ∀ k, k < ps.length - 1 → OkAt ps b k
theorem dots_iff (ps : List Str) (k : Nat) : ((cds ps).drop k).take 3 = dot3 ↔ (ps.drop k).take 3 = [Str.ofString ".", Str.ofString ".", Str.ofString "."] := by
  have e : Str.ofString "." = ⟨#[46]⟩ := by decide
  rw [e]
  unfold cds
  rw [← List.map_drop, ← List.map_take]
  constructor
  · intro h
    have h2 : ((ps.drop k).take 3).map (fun s => s.cps.toList) = ([⟨#[46]⟩, ⟨#[46]⟩, ⟨#[46]⟩] : List Str).map (fun s => s.cps.toList) := h
    refine (List.map_inj_right ?_).mp h2
    intro x y hxy
    cases x; cases y
    simp only at hxy
    congr 1
    exact Array.toList_inj.mp hxy
  · intro h; rw [h]; rfl
theorem indices_to {n : Nat} {j : Int} (h : (n : Int) ≤ j) : strSliceIndices none (some j) 1 n = strSliceIndices none (some (n : Int)) 1 n := by
  have a1 : ¬ j < 0 := by omega
  have a2 : ¬ ((n : Int) < 0) := by omega
  have h2 : (1 : Int) > 0 := by decide
  simp only [strSliceIndices, a1, a2, h2, if_false, if_true, Int.min_eq_right h, Int.min_self]
theorem slice_to_codes {x : Str} {j : Int} (h0 : 0 ≤ j) : (Txt.slice x none (some j)).cps.toList = x.cps.toList.take j.toNat := by
  have hlen : x.cps.toList.length = x.length := by simp [Str.length]
  by_cases h : j ≤ x.length
  · have e := beq_iff_eq.mp (slice_closes_to (x := x) (j := j) ⟨h0, by rw [hlen]; exact h⟩)
    rw [e]; simp
  · have e2 : Txt.slice x none (some j) = Txt.slice x none (some (x.length : Int)) := by
      unfold Txt.slice
      rw [indices_to (by omega)]
    rw [e2]
    have e := beq_iff_eq.mp (slice_closes_to (x := x) (j := (x.length : Int)) ⟨by omega, by rw [hlen]; exact Int.le_refl _⟩)
    rw [e]
    simp only []
    rw [List.take_of_length_le, List.take_of_length_le]
    · simp
    · rw [hlen]; omega
    · rw [List.length_drop, hlen]; omega
theorem sgn_any (x : Str) : sgn.any (· == x) = sg.contains x.cps.toList := by
  unfold sgn
  rw [List.any_map]
  rw [List.contains_eq_any_beq]
  congr 1
  funext l
  show ((⟨l.toArray⟩ : Str) == x) = (x.cps.toList == l)
  rw [Bool.eq_iff_iff, beq_iff_eq, beq_iff_eq]
  constructor
  · intro e; rw [← e]
  · intro e; cases x; simp only at e; subst e; simp
end Mine
end
section
open PySem PySem.W PyProof.Rows
set_option autoImplicit false
set_option Elab.async false
set_option maxRecDepth 100000
namespace Mine
def cut {α : Type} (l : List α) (a b : Nat) : List α := (l.drop a).take (b - a)
/-- The blanks that the sparing one has set behind i turns. -/
def nd (ps : List (List Nat)) (rs : List Int) : Nat → Int
  | 0 => 0
  | i + 1 => if rd (spc (cut ps (high (nd ps rs i) + 1).toNat (i + 2)) 0) = cut rs (high (nd ps rs i) + 1).toNat (i + 2) then nd ps rs i else nd ps rs i + 2 ^ i
theorem high_lt {n : Int} {i : Nat} (h0 : 0 ≤ n) (h1 : n < 2 ^ i) : 0 ≤ high n + 1 ∧ high n + 1 ≤ i := by
  unfold high Builtin.Int.intBits
  by_cases h : n = 0
  · subst h; simp
  · have hb : (n == 0) = false := by simpa using h
    rw [hb]
    have hp : n.natAbs < 2 ^ i := by
      have : ((n.natAbs : Nat) : Int) = n := Int.natAbs_of_nonneg h0
      have h2 : ((2 ^ i : Nat) : Int) = (2 : Int) ^ i := by norm_cast
      omega
    have hl : n.natAbs.log2 < i := (Nat.log2_lt (by omega)).mpr hp
    simp only [Bool.false_eq_true, if_false]
    omega
theorem nd_range (ps : List (List Nat)) (rs : List Int) : ∀ i, 0 ≤ nd ps rs i ∧ nd ps rs i < 2 ^ i
  | 0 => by simp [nd]
  | i + 1 => by
    have ih := nd_range ps rs i
    have h2 : (2 : Int) ^ (i + 1) = 2 ^ i + 2 ^ i := by rw [Int.pow_succ]; omega
    have h3 : (0 : Int) < 2 ^ i := Int.pow_pos (by decide)
    rw [nd]
    split <;> omega
theorem cut_cds (ps : List Str) (a b : Nat) : cds (cut ps a b) = cut (cds ps) a b := by
  unfold cut cds
  rw [List.map_take, List.map_drop]
theorem cut_len {α : Type} (l : List α) {a b : Nat} (h : b ≤ l.length) : (cut l a b).length = b - a := by
  unfold cut
  rw [List.length_take, List.length_drop]; omega
theorem cut_mem {α : Type} {l : List α} {a b : Nat} {x : α} (h : x ∈ cut l a b) : x ∈ l := List.mem_of_mem_drop (List.mem_of_mem_take h)
end Mine
end
section
open PySem PySem.W PyProof.Rows
set_option autoImplicit false
set_option Elab.async false
set_option maxRecDepth 100000
namespace Mine
/-- What stands behind the first piece. -/
def tl (f : Nat → Bool) : Nat → List (List Nat) → List Nat
  | _, [] => []
  | k, q :: r => (if f k then [32] else []) ++ (q ++ tl f (k + 1) r)
theorem tl_snoc (f : Nat → Bool) (q : List Nat) : ∀ (l : List (List Nat)) (k : Nat), tl f k (l ++ [q]) = tl f k l ++ (if f (k + l.length) then [32] else []) ++ q
  | [], k => by simp [tl]
  | p :: l, k => by
    have e : k + 1 + l.length = k + (l.length + 1) := by omega
    simp only [List.cons_append, tl, tl_snoc f q l (k + 1), List.length_cons, List.append_assoc, e]
def bb (b : Int) (k : Nat) : Bool := bit b k == 1
theorem bb_blank (b : Int) (k : Nat) : List.replicate (bit b k).toNat 32 = if bb b k then [32] else [] := by
  unfold bb
  rcases bit_range b k with h | h <;> rw [h] <;> rfl
theorem bb_false {b : Int} {k : Nat} : bb b k = false ↔ bit b k = 0 := by
  unfold bb
  rcases bit_range b k with h | h <;> rw [h] <;> simp
theorem spcN_tl (p : List Nat) (r : List (List Nat)) (b : Int) : ∀ i, i ≤ r.length → spcN (p :: r) b i = p ++ tl (bb b) 0 (r.take i)
  | 0, _ => by simp [spcN, tl]
  | i + 1, h => by
    have hi : i < r.length := h
    rw [spcN, spcN_tl p r b i (by omega), List.take_succ_eq_append_getElem hi, tl_snoc, bb_blank]
    have e : (p :: r).getD (i + 1) [] = r[i] := by simp [hi]
    have e2 : 0 + (r.take i).length = i := by rw [List.length_take]; omega
    rw [e, e2]; simp only [List.append_assoc]
theorem spc_tl (p : List Nat) (r : List (List Nat)) (b : Int) : spc (p :: r) b = p ++ tl (bb b) 0 r := by
  unfold spc
  rw [spcN_tl p r b _ (by simp)]
  simp
def okF (f : Nat → Bool) (k : Nat) (p q : List Nat) (r : List (List Nat)) : Prop :=
  f k = false → (∀ j, j < 3 - p.length → longer (p ++ q) (p.length + 1 + j) = false) ∧ ¬ ((p :: q :: r).take 3 = dot3 ∧ f (k + 1) = false)
def FL (f : Nat → Bool) : Nat → List Nat → List (List Nat) → Prop
  | _, _, [] => True
  | k, p, q :: r => okF f k p q r ∧ FL f (k + 1) q r
theorem sg32 : ∀ u ∈ sg, 32 ∉ u := by decide
theorem sgHead : ∀ u ∈ sg, u.length = 3 → u.take 2 ∈ sg ∨ u = [46, 46, 46] := by decide
theorem sgDot : ∀ u ∈ sg, u.head? = some 46 → u = [46] ∨ u = [46, 46, 46] := by decide
theorem sgLen : ∀ u ∈ sg, lenOf (found u) = u.length := by decide +kernel
theorem sgPos : ∀ u ∈ sg, 7 ≤ found u := by decide +kernel
theorem found_pos {u : List Nat} : 0 ≤ found u ↔ u ∈ sg := ⟨found_mem, fun h => by have := sgPos u h; omega⟩
theorem found_inj : ∀ u ∈ sg, ∀ v ∈ sg, found u = found v → u = v := by decide +kernel
/-- At a sign: it is read unless a longer one stands there. -/
theorem numAt_sign {u R : List Nat} (hu : u ∈ sg) : numAt (u ++ R) = found u ↔ ∀ s, u.length < s → s ≤ 3 → s ≤ (u ++ R).length → (u ++ R).take s ∉ sg := by
  have hl := sg_len u hu
  have hup := sgPos u hu
  have key : ∀ s, u.length < s → s ≤ (u ++ R).length → (u ++ R).take s ∈ sg → found ((u ++ R).take s) ≠ found u := by
    intro s h1 h2 hm e
    have := found_inj _ hm _ hu e
    have h3 := congrArg List.length this
    rw [List.length_take] at h3
    omega
  have same : ∀ s, u.length ≤ s → ¬ s ≤ (u ++ R).length → (u ++ R).take s = u ++ R := fun s _ h => List.take_of_length_le (by omega)
  rw [numAt_eq]
  simp only [found_pos]
  constructor
  · intro h s h1 h2 h3 hm
    by_cases m3 : (u ++ R).take 3 ∈ sg
    · rw [if_pos m3] at h
      by_cases c : 3 ≤ (u ++ R).length
      · exact key 3 (by omega) c m3 h
      · rw [same 3 hl.2 c] at h m3
        have e := found_inj _ m3 _ hu h
        have := congrArg List.length e
        omega
    · rw [if_neg m3] at h
      have hs : s ≠ 3 := fun e => m3 (e ▸ hm)
      by_cases m2 : (u ++ R).take 2 ∈ sg
      · rw [if_pos m2] at h
        have hs2 : s = 2 := by omega
        subst hs2
        exact key 2 h1 h3 hm h
      · have : s = 2 := by omega
        exact m2 (this ▸ hm)
  · intro h
    have tk : (u ++ R).take u.length = u := by simp
    have cmp : ∀ s, u.length ≤ s → s ≤ 3 → (u ++ R).take s ∈ sg → found ((u ++ R).take s) = found u := by
      intro s h1 h2 hm
      by_cases c : s ≤ (u ++ R).length
      · by_cases c1 : u.length < s
        · exact absurd hm (h s c1 h2 c)
        · have : s = u.length := by omega
          rw [this, tk]
      · rw [same s h1 c] at hm ⊢
        by_cases c1 : u.length < (u ++ R).length
        · have := h (u ++ R).length c1 (by omega) (Nat.le_refl _)
          rw [List.take_length] at this
          exact absurd hm this
        · have : R = [] := by
            cases R with
            | nil => rfl
            | cons a b => simp at c1
          rw [this, List.append_nil]
    by_cases m3 : (u ++ R).take 3 ∈ sg
    · rw [if_pos m3]; exact cmp 3 hl.2 (by omega) m3
    · rw [if_neg m3]
      have l3 : u.length ≠ 3 := fun e => m3 (by rw [← e, tk]; exact hu)
      by_cases m2 : (u ++ R).take 2 ∈ sg
      · rw [if_pos m2]; exact cmp 2 (by omega) (by omega) m2
      · rw [if_neg m2]
        have l2 : u.length ≠ 2 := fun e => m2 (by rw [← e, tk]; exact hu)
        have l1 : u.length = 1 := by omega
        have := tk
        rw [l1] at this
        rw [this]
theorem numAt_pos {u R : List Nat} (hu : u ∈ sg) : 0 ≤ numAt (u ++ R) := by
  have hl := sg_len u hu
  have tk : (u ++ R).take u.length = u := by simp
  rw [numAt_eq]
  split
  · assumption
  · rename_i h3
    split
    · assumption
    · rename_i h2
      rw [found_pos] at h3 h2 ⊢
      have l3 : u.length ≠ 3 := fun e => h3 (by rw [← e, tk]; exact hu)
      have l2 : u.length ≠ 2 := fun e => h2 (by rw [← e, tk]; exact hu)
      have l1 : u.length = 1 := by omega
      have := tk
      rw [l1] at this
      rw [this]; exact hu
theorem take_no32 {T : List Nat} {s i : Nat} (h : T[i]? = some 32) (hi : i < s) : T.take s ∉ sg := by
  intro hm
  refine sg32 _ hm ?_
  have : (T.take s)[i]? = some 32 := by rw [List.getElem?_take_of_lt hi]; exact h
  exact List.mem_of_getElem? this
theorem rd_blank (T : List Nat) : rd (32 :: T) = rd T := by
  rw [rd_cons, if_pos]
  rw [numAt_eq]
  have h : ∀ s, 0 < s → ¬ 0 ≤ found ((32 :: T).take s) := fun s hs => by
    rw [found_pos]; exact take_no32 (i := 0) rfl hs
  rw [if_neg (h 3 (by decide)), if_neg (h 2 (by decide))]
  have := h 1 (by decide)
  omega
theorem rd_sign {u R : List Nat} (hu : u ∈ sg) : rd (u ++ R) = numAt (u ++ R) :: rd ((u ++ R).drop (lenOf (numAt (u ++ R)))) := by
  have h := numAt_pos (R := R) hu
  have hl := sg_len u hu
  cases u with
  | nil => simp at hl
  | cons c t =>
    rw [List.cons_append] at h ⊢
    rw [rd_cons, if_neg (by omega)]
theorem longer_iff {T : List Nat} {s : Nat} : longer T s = false ↔ T.take s ∉ sg := by
  unfold longer
  rw [List.contains_eq_mem]; simp
/-- The text is read as the row just if the blanks fit. -/
theorem read_iff (f : Nat → Bool) : ∀ (r : List (List Nat)) (p : List Nat) (k : Nat), p ∈ sg → (∀ u ∈ r, u ∈ sg) →
    (rd (p ++ tl f k r) = found p :: r.map found ↔ FL f k p r)
  | [], p, k, hp, _ => by
    simp only [tl, FL, List.map_nil, iff_true]
    have h : numAt (p ++ []) = found p := (numAt_sign hp).mpr fun s h1 _ h3 => by simp at h3; omega
    rw [rd_sign hp, h, sgLen p hp]
    simp [rd_nil]
  | q :: r, p, k, hp, hr => by
    have hq : q ∈ sg := hr q (.head _)
    have hr' : ∀ u ∈ r, u ∈ sg := fun u hu => hr u (.tail _ hu)
    have ih := read_iff f r q (k + 1) hq hr'
    have lp := sg_len p hp
    have lq := sg_len q hq
    simp only [FL, List.map_cons]
    rw [← List.map_cons] at ih
    have hrest : rd (tl f k (q :: r)) = rd (q ++ tl f (k + 1) r) := by
      rw [tl]
      by_cases h : f k = true
      · rw [if_pos h, List.singleton_append, rd_blank]
      · rw [if_neg h, List.nil_append]
    have hloc : FL f (k + 1) q r → (numAt (p ++ tl f k (q :: r)) = found p ↔ okF f k p q r) := by
      intro hFL
      rw [numAt_sign hp]
      by_cases h : f k = true
      · constructor
        · intro _ h'; rw [h] at h'; cases h'
        · intro _ s h1 _ _
          refine take_no32 (i := p.length) ?_ h1
          rw [tl, if_pos h]; simp
      · have h' : f k = false := by simpa using h
        rw [tl, if_neg h, List.nil_append]
        have eqs : ∀ s, s ≤ p.length + q.length → (p ++ (q ++ tl f (k + 1) r)).take s = (p ++ q).take s := by
          intro s hs
          rw [← List.append_assoc, List.take_append_of_le_length (by rw [List.length_append]; exact hs)]
        constructor
        · intro H _
          refine ⟨fun j hj => ?_, ?_⟩
          · rw [longer_iff]
            by_cases c : p.length + 1 + j ≤ p.length + q.length
            · rw [← eqs _ c]
              exact H _ (by omega) (by omega) (by simp; omega)
            · have e : (p ++ q).take (p.length + 1 + j) = (p ++ q).take (p.length + q.length) := by
                rw [List.take_of_length_le (by rw [List.length_append]; omega), List.take_of_length_le (by rw [List.length_append]; omega)]
              rw [e, ← eqs _ (Nat.le_refl _)]
              exact H _ (by omega) (by omega) (by simp)
          · rintro ⟨hd, hf⟩
            cases r with
            | nil => simp [dot3] at hd
            | cons w r =>
              simp [dot3] at hd
              obtain ⟨rfl, rfl, rfl⟩ := hd
              refine H 3 (by decide) (by decide) (by simp [tl]; omega) ?_
              simp [tl, hf, sg]
        · intro hok
          obtain ⟨hlong, hdots⟩ := hok h'
          intro s h1 h2 h3 hm
          by_cases c : s ≤ p.length + q.length
          · rw [eqs s c] at hm
            have := hlong (s - p.length - 1) (by omega)
            rw [longer_iff, show p.length + 1 + (s - p.length - 1) = s by omega] at this
            exact this hm
          · have e1 : p.length = 1 := by omega
            have e2 : q.length = 1 := by omega
            have e3 : s = 3 := by omega
            subst e3
            obtain ⟨a, rfl⟩ : ∃ a, p = [a] := List.length_eq_one_iff.mp e1
            obtain ⟨b, rfl⟩ : ∃ b, q = [b] := List.length_eq_one_iff.mp e2
            cases r with
            | nil => simp [tl] at h3
            | cons w r =>
              have hw : w ∈ sg := hr' w (.head _)
              have lw := sg_len w hw
              by_cases hf : f (k + 1) = true
              · refine take_no32 (i := 2) ?_ (by decide) hm
                simp [tl, hf]
              · have hf' : f (k + 1) = false := by simpa using hf
                cases w with
                | nil => simp at lw
                | cons c w =>
                  have hm' : [a, b, c] ∈ sg := by simpa [tl, hf'] using hm
                  rcases sgHead _ hm' rfl with hh | hh
                  · have := hlong 0 (by simp)
                    rw [longer_iff] at this
                    exact this (by simpa using hh)
                  · simp only [List.cons.injEq, and_true] at hh
                    obtain ⟨rfl, rfl, rfl⟩ := hh
                    rcases sgDot _ hw rfl with hh | hh
                    · exact hdots ⟨by rw [hh]; rfl, hf'⟩
                    · rw [hh] at hFL
                      have h5 := (hFL.1 hf').1 1 (by simp)
                      rw [longer_iff] at h5
                      exact h5 (by simp [sg])
    rw [rd_sign hp]
    constructor
    · intro h
      rw [List.cons.injEq] at h
      obtain ⟨ha, hb⟩ := h
      rw [ha, sgLen p hp, List.drop_left, hrest] at hb
      have hF := ih.mp hb
      exact ⟨(hloc hF).mp ha, hF⟩
    · rintro ⟨ho, hF⟩
      have ha := (hloc hF).mpr ho
      rw [ha, sgLen p hp, List.drop_left, hrest, ih.mpr hF, List.map_cons]
end Mine
end
section
open PySem PySem.W PyProof.Rows
set_option autoImplicit false
set_option Elab.async false
set_option maxRecDepth 100000
namespace Mine
/-- No longer sign begins at the gap. -/
def LP (ps : List (List Nat)) (k : Nat) : Prop := ∀ q, q < 3 - (ps.getD k []).length → longer (ps.getD k [] ++ ps.getD (k + 1) []) ((ps.getD k []).length + 1 + q) = false
def DD (ps : List (List Nat)) (k : Nat) : Prop := (ps.drop k).take 3 = dot3
theorem LP_cons (p : List Nat) (r : List (List Nat)) (k : Nat) : LP (p :: r) (k + 1) ↔ LP r k := by
  unfold LP; simp only [List.getD_cons_succ]
theorem DD_cons (p : List Nat) (r : List (List Nat)) (k : Nat) : DD (p :: r) (k + 1) ↔ DD r k := by
  unfold DD; rw [List.drop_succ_cons]
theorem FL_iff (f : Nat → Bool) : ∀ (r : List (List Nat)) (p : List Nat) (k : Nat), FL f k p r ↔ ∀ i, i < r.length → f (k + i) = false → LP (p :: r) i ∧ ¬ (DD (p :: r) i ∧ f (k + i + 1) = false)
  | [], p, k => by simp [FL]
  | q :: r, p, k => by
    have ih := FL_iff f r q (k + 1)
    rw [FL, ih]
    constructor
    · rintro ⟨h0, hs⟩ i hi hf
      cases i with
      | zero => exact h0 hf
      | succ i =>
        rw [LP_cons, DD_cons]
        have e : k + 1 + i = k + (i + 1) := by omega
        have := hs i (by simpa using hi) (by rw [e]; exact hf)
        rw [e] at this; exact this
    · intro H
      refine ⟨fun hf => H 0 (by simp) hf, fun i hi hf => ?_⟩
      have e : k + 1 + i = k + (i + 1) := by omega
      rw [e] at hf ⊢
      have := H (i + 1) (by simpa using hi) hf
      rw [LP_cons, DD_cons] at this
      exact this
theorem Fits_def {ps : List (List Nat)} {b : Int} : Fits ps b ↔ ∀ k, k < ps.length - 1 → bit b k = 0 → LP ps k ∧ ¬ (DD ps k ∧ bit b (k + 1) = 0) := Iff.rfl
/-- A text with its blanks is read as the row just if they fit. -/
theorem read_fits {ps : List (List Nat)} (h1 : 1 ≤ ps.length) (hs : ∀ u ∈ ps, u ∈ sg) (b : Int) : rd (spc ps b) = ps.map found ↔ Fits ps b := by
  cases ps with
  | nil => simp at h1
  | cons p r =>
    rw [spc_tl, List.map_cons, read_iff (bb b) r p 0 (hs p (.head _)) (fun u hu => hs u (.tail _ hu)), FL_iff, Fits_def]
    simp only [Nat.zero_add, bb_false, List.length_cons, Nat.add_sub_cancel]
theorem cut_map {α β : Type} (g : α → β) (l : List α) (a b : Nat) : cut (l.map g) a b = (cut l a b).map g := by
  unfold cut; rw [List.map_take, List.map_drop]
theorem cut_getD {ps : List (List Nat)} {s e j : Nat} (h : s + j < e) : (cut ps s e).getD j [] = ps.getD (s + j) [] := by
  unfold cut
  rw [List.getD_eq_getElem?_getD, List.getD_eq_getElem?_getD, List.getElem?_take_of_lt (by omega), List.getElem?_drop]
theorem cut_LP {ps : List (List Nat)} {s e j : Nat} (h : s + j + 1 < e) : LP (cut ps s e) j ↔ LP ps (s + j) := by
  unfold LP
  rw [cut_getD (by omega), cut_getD (show s + (j + 1) < e by omega), Nat.add_assoc]
theorem dot3_len : dot3.length = 3 := rfl
theorem cut_DD {ps : List (List Nat)} {s e j : Nat} (hj : s + j ≤ e) : DD (cut ps s e) j ↔ DD ps (s + j) ∧ s + j + 3 ≤ e := by
  unfold DD cut
  rw [List.drop_take, List.drop_drop, List.take_take]
  constructor
  · intro h
    have hl := congrArg List.length h
    rw [dot3_len, List.length_take] at hl
    have : s + j + 3 ≤ e := by omega
    rw [show min 3 (e - s - j) = 3 by omega] at h
    exact ⟨h, this⟩
  · rintro ⟨h, h3⟩
    rw [show min 3 (e - s - j) = 3 by omega]; exact h
theorem bit0 (k : Nat) : bit 0 k = 0 := by unfold bit; simp
/-- What stands behind the last blank is read as it should. -/
theorem read_cut {ps : List (List Nat)} (hs : ∀ u ∈ ps, u ∈ sg) {s i : Nat} (hsi : s ≤ i) (hi : i + 2 ≤ ps.length) :
    rd (spc (cut ps s (i + 2)) 0) = cut (ps.map found) s (i + 2) ↔ ∀ k, s ≤ k → k ≤ i → LP ps k ∧ ¬ (DD ps k ∧ k + 1 ≤ i) := by
  have hl := cut_len ps (a := s) (b := i + 2) hi
  rw [cut_map, read_fits (by rw [hl]; omega) (fun u hu => hs u (cut_mem hu)), Fits_def, hl]
  constructor
  · intro H k h1 h2
    have := H (k - s) (by omega) (bit0 _)
    rw [cut_LP (by omega), cut_DD (by omega), show s + (k - s) = k by omega] at this
    refine ⟨this.1, fun ⟨a, b⟩ => this.2 ⟨⟨a, by omega⟩, bit0 _⟩⟩
  · intro H j h1 _
    have := H (s + j) (by omega) (by omega)
    rw [cut_LP (by omega), cut_DD (by omega)]
    refine ⟨this.1, fun ⟨⟨a, b⟩, _⟩ => this.2 ⟨a, by omega⟩⟩
theorem tbl_high : ∀ n : Nat, n < 128 → ∀ k, k < 7 → ((high (n : Int) + 1).toNat ≤ k → bit (n : Int) k = 0) ∧ (k + 1 = (high (n : Int) + 1).toNat → bit (n : Int) k = 1) := by decide +kernel
theorem tbl_add : ∀ i : Nat, i < 7 → ∀ n : Nat, n < 2 ^ i → bit (n : Int) i = 0 ∧ bit ((n : Int) + 2 ^ i) i = 1 ∧ ∀ k, k < i → bit ((n : Int) + 2 ^ i) k = bit (n : Int) k := by decide +kernel
def cnt (x : Int) : Nat → Int
  | 0 => 0
  | k + 1 => cnt x k + bit x k
def val (x : Int) : Nat → Int
  | 0 => 0
  | k + 1 => val x k + bit x k * 2 ^ k
theorem tbl_val : ∀ i : Nat, i < 8 → ∀ n : Nat, n < 2 ^ i → val (n : Int) i = n ∧ cnt (n : Int) i = cnt (n : Int) 7 := by decide +kernel
theorem tbl_single : ∀ n : Nat, n < 128 → (single (n : Int) = true ↔ cnt (n : Int) 7 = 1) := by decide +kernel
theorem val_lt (x : Int) : ∀ i, 0 ≤ val x i ∧ val x i < 2 ^ i
  | 0 => by simp [val]
  | i + 1 => by
    have ih := val_lt x i
    have h2 : (2 : Int) ^ (i + 1) = 2 ^ i + 2 ^ i := by rw [Int.pow_succ]; omega
    have h3 : (0 : Int) < 2 ^ i := Int.pow_pos (by decide)
    rw [val]
    rcases bit_range x i with h | h <;> rw [h] <;> omega
theorem toN {x : Int} {i : Nat} (h0 : 0 ≤ x) (h1 : x < 2 ^ i) : ∃ n : Nat, x = n ∧ n < 2 ^ i := by
  obtain ⟨n, rfl⟩ := Int.eq_ofNat_of_zero_le h0
  refine ⟨n, rfl, ?_⟩
  have : ((2 ^ i : Nat) : Int) = (2 : Int) ^ i := by norm_cast
  omega
theorem pow_le7 {i : Nat} (h : i ≤ 7) : 2 ^ i ≤ 128 := Nat.pow_le_pow_right (n := 2) (by decide) h
theorem b_high {x : Int} {i : Nat} (h0 : 0 ≤ x) (h1 : x < 2 ^ i) (hi : i ≤ 7) {k : Nat} (hk : k < i) : ((high x + 1).toNat ≤ k → bit x k = 0) ∧ (k + 1 = (high x + 1).toNat → bit x k = 1) := by
  obtain ⟨n, rfl, hn⟩ := toN h0 h1
  exact tbl_high n (by have := pow_le7 hi; omega) k (by omega)
theorem b_add {x : Int} {i : Nat} (h0 : 0 ≤ x) (h1 : x < 2 ^ i) (hi : i < 7) : bit x i = 0 ∧ bit (x + 2 ^ i) i = 1 ∧ ∀ k, k < i → bit (x + 2 ^ i) k = bit x k := by
  obtain ⟨n, rfl, hn⟩ := toN h0 h1
  exact tbl_add i hi n hn
/-- What holds of the blanks set so far. -/
def GInv (ps : List (List Nat)) (g : Int) (i : Nat) : Prop :=
  ∀ k, k < i → (bit g k = 0 → LP ps k ∧ ¬ (DD ps k ∧ k + 1 < i ∧ bit g (k + 1) = 0)) ∧ (bit g k = 1 → ¬ LP ps k ∨ ∃ j, k = j + 1 ∧ DD ps j ∧ bit g j = 0)
theorem nd_inv {ps : List (List Nat)} (hs : ∀ u ∈ ps, u ∈ sg) (h8 : ps.length ≤ 8) : ∀ i, i + 1 ≤ ps.length → GInv ps (nd ps (ps.map found) i) i
  | 0, _ => fun k hk => absurd hk (Nat.not_lt_zero k)
  | i + 1, hi => by
    have ih := nd_inv hs h8 i (by omega)
    have hr := nd_range ps (ps.map found) i
    have hh := high_lt hr.1 hr.2
    rw [nd]
    generalize nd ps (ps.map found) i = g at *
    have hsi : (high g + 1).toNat ≤ i := by omega
    have hrc := read_cut hs hsi (by omega)
    have hba := b_add hr.1 hr.2 (by omega)
    have hbh := fun k (hk : k < i) => b_high hr.1 hr.2 (by omega) hk
    have key : (∀ k, (high g + 1).toNat ≤ k → k ≤ i → LP ps k ∧ ¬ (DD ps k ∧ k + 1 ≤ i)) ↔ LP ps i ∧ ∀ j, i = j + 1 → bit g j = 0 → ¬ DD ps j := by
      constructor
      · intro H
        refine ⟨(H i hsi (Nat.le_refl _)).1, ?_⟩
        rintro j rfl hb hD
        have h1 := hbh j (by omega)
        by_cases c : (high g + 1).toNat ≤ j
        · exact (H j c (by omega)).2 ⟨hD, Nat.le_refl _⟩
        · have := h1.2 (by omega)
          omega
      · rintro ⟨hL, hD⟩ k h1 h2
        by_cases e : k = i
        · subst e
          exact ⟨hL, fun h => by omega⟩
        · have hb := (hbh k (by omega)).1 h1
          have hk := (ih k (by omega)).1 hb
          refine ⟨hk.1, fun ⟨hd, h3⟩ => ?_⟩
          by_cases e2 : i = k + 1
          · exact hD k e2 hb hd
          · exact hk.2 ⟨hd, by omega, (hbh (k + 1) (by omega)).1 (by omega)⟩
    rw [key] at hrc
    by_cases hc : rd (spc (cut ps (high g + 1).toNat (i + 2)) 0) = cut (ps.map found) (high g + 1).toNat (i + 2)
    · rw [if_pos hc]
      obtain ⟨hL, hD⟩ := hrc.mp hc
      intro k hk
      by_cases e : k = i
      · subst e
        refine ⟨fun _ => ⟨hL, fun h => by omega⟩, fun h => ?_⟩
        rw [hba.1] at h; cases h
      · have hk' := ih k (by omega)
        refine ⟨fun h => ?_, hk'.2⟩
        have h5 := hk'.1 h
        refine ⟨h5.1, fun ⟨hd, h3, h4⟩ => ?_⟩
        by_cases e2 : i = k + 1
        · exact hD k e2 h hd
        · exact h5.2 ⟨hd, by omega, h4⟩
    · rw [if_neg hc]
      have hn := fun h => hc (hrc.mpr h)
      intro k hk
      by_cases e : k = i
      · subst e
        refine ⟨fun h => ?_, fun _ => ?_⟩
        · rw [hba.2.1] at h; cases h
        · by_cases hL : LP ps k
          · refine .inr ?_
            refine Classical.byContradiction fun hno => hn ⟨hL, ?_⟩
            rintro j rfl hb hD
            exact hno ⟨j, rfl, hD, by rw [hba.2.2 j (by omega)]; exact hb⟩
          · exact .inl hL
      · have hk' := ih k (by omega)
        rw [hba.2.2 k (by omega)]
        refine ⟨fun h => ?_, fun h => ?_⟩
        · have h5 := hk'.1 h
          refine ⟨h5.1, fun ⟨hd, h3, h4⟩ => ?_⟩
          by_cases e2 : i = k + 1
          · subst e2
            rw [hba.2.1] at h4; cases h4
          · rw [hba.2.2 (k + 1) (by omega)] at h4
            exact h5.2 ⟨hd, by omega, h4⟩
        · rcases hk'.2 h with h6 | ⟨j, rfl, hD, hb⟩
          · exact .inl h6
          · exact .inr ⟨j, rfl, hD, by rw [hba.2.2 j (by omega)]; exact hb⟩
theorem DD_len {ps : List (List Nat)} {k : Nat} (h : DD ps k) : k + 3 ≤ ps.length := by
  have := congrArg List.length h
  rw [dot3_len, List.length_take, List.length_drop] at this
  omega
theorem nd_fits {ps : List (List Nat)} (hs : ∀ u ∈ ps, u ∈ sg) (h1 : 1 ≤ ps.length) (h8 : ps.length ≤ 8) : Fits ps (nd ps (ps.map found) (ps.length - 1)) := by
  rw [Fits_def]
  have hI := nd_inv hs h8 (ps.length - 1) (by omega)
  intro k hk hb
  have := (hI k hk).1 hb
  refine ⟨this.1, fun ⟨hd, h⟩ => this.2 ⟨hd, ?_, h⟩⟩
  have := DD_len hd
  omega
theorem best {ps : List (List Nat)} {g b : Int} {n : Nat} (hn : n = ps.length - 1) (hI : GInv ps g n) (hF : Fits ps b) : ∀ j, j ≤ n →
    cnt g j ≤ cnt b j ∧ (cnt g j = cnt b j → (∀ i, j = i + 1 → bit b i = 1 → bit g i = 1) ∧ val b j ≤ val g j)
  | 0, _ => by simp [cnt, val]
  | j + 1, hj => by
    obtain ⟨ih1, ih2⟩ := best hn hI hF j (by omega)
    have hb := bit_range b j
    have hg := bit_range g j
    have hFj := Fits_def.mp hF j (by omega)
    have hIj := hI j (by omega)
    simp only [cnt, val]
    have vb := val_lt b j
    have vg := val_lt g j
    rcases hg with hg | hg
    · rcases hb with hb | hb
      · rw [hg, hb]
        refine ⟨by omega, fun h => ⟨fun i e h' => ?_, ?_⟩⟩
        · have : i = j := by omega
          subst this; rw [hb] at h'; cases h'
        · have := (ih2 (by omega)).2
          omega
      · rw [hg, hb]
        refine ⟨by omega, fun h => by omega⟩
    · rcases hb with hb | hb
      · have h1 := hFj hb
        rcases hIj.2 hg with h2 | ⟨i, rfl, hD, hgi⟩
        · exact absurd h1.1 h2
        · have hbi : bit b i = 1 := by
            rcases bit_range b i with h | h
            · exact absurd ⟨hD, hb⟩ (Fits_def.mp hF i (by omega) h).2
            · exact h
          have hne : cnt g (i + 1) ≠ cnt b (i + 1) := fun h => by
            have := (ih2 h).1 i rfl hbi
            omega
          rw [hg, hb]
          refine ⟨by omega, fun h => ⟨fun i' e h' => ?_, by omega⟩⟩
          have : i' = i + 1 := by omega
          subst this; exact hg
      · rw [hg, hb]
        refine ⟨by omega, fun h => ⟨fun i e h' => ?_, ?_⟩⟩
        · have : i = j := by omega
          subst this; exact hg
        · have := (ih2 (by omega)).2
          omega
/-- The sparing one's blanks are the fewest and, of as many, the greatest number. -/
theorem nd_best {ps : List (List Nat)} (hs : ∀ u ∈ ps, u ∈ sg) (h1 : 1 ≤ ps.length) (h8 : ps.length ≤ 8) {b : Int} (h0 : 0 ≤ b) (hb : b < 2 ^ (ps.length - 1)) (hF : Fits ps b) :
    cnt (nd ps (ps.map found) (ps.length - 1)) 7 ≤ cnt b 7 ∧ (cnt (nd ps (ps.map found) (ps.length - 1)) 7 = cnt b 7 → b ≤ nd ps (ps.map found) (ps.length - 1)) := by
  have hI := nd_inv hs h8 (ps.length - 1) (by omega)
  have hr := nd_range ps (ps.map found) (ps.length - 1)
  generalize nd ps (ps.map found) (ps.length - 1) = g at *
  have hB := best rfl hI hF (ps.length - 1) (Nat.le_refl _)
  obtain ⟨n, rfl, hn⟩ := toN h0 hb
  obtain ⟨m, rfl, hm⟩ := toN hr.1 hr.2
  obtain ⟨a1, a2⟩ := tbl_val (ps.length - 1) (by omega) n hn
  obtain ⟨c1, c2⟩ := tbl_val (ps.length - 1) (by omega) m hm
  rw [a1, a2, c1, c2] at hB
  exact ⟨hB.1, fun h => (hB.2 h).2⟩
theorem nd_single {ps : List (List Nat)} {rs : List Int} (h1 : 1 ≤ ps.length) (h8 : ps.length ≤ 8) : single (nd ps rs (ps.length - 1)) = true ↔ cnt (nd ps rs (ps.length - 1)) 7 = 1 := by
  have hr := nd_range ps rs (ps.length - 1)
  obtain ⟨m, e, hm⟩ := toN hr.1 hr.2
  rw [e]
  exact tbl_single m (by have := pow_le7 (i := ps.length - 1) (by omega); omega)
theorem tbl_far : ∀ p : Nat, p < 109 → 14 ≤ p → high ((2 : Int) ^ p) = p ∧ high (-(2 : Int) ^ p) = p ∧ high ((2 : Int) ^ p - 1) = (p : Int) - 1 ∧ high (1 - (2 : Int) ^ p) = (p : Int) - 1 ∧ single ((2 : Int) ^ p) = true ∧ single (-(2 : Int) ^ p) = false ∧ single ((2 : Int) ^ p - 1) = false ∧ single (1 - (2 : Int) ^ p) = false := by decide +kernel
end Mine
end
section
open PySem PySem.W PyProof.Rows
set_option autoImplicit false
set_option Elab.async false
set_option maxRecDepth 100000
namespace Mine
theorem freeze {h₀ h : Heap} {L : Addr} {x1 x2 x3 x4 c1 c2 : Addr × Obj} {Dn Ds : Addr} {wn : List Value} {l : List (Str × Tok)} {m : List Int} {k : Nat}
    (N : News h₀ L h [(Dn, listOf wn.toArray 0), x1, x2, x3, x4, (Ds, listOf (strValues l).toArray 0), c1, c2])
    (hI : IntsAre wn (List.take k (m ++ [21, 64, 16, 16]))) (hk : 4 ≤ k) (hk8 : k ≤ 8) (hm : k ≤ m.length + 4) (hS : StrsAre (strValues l) (l.map (·.1))) (hW : l.map (·.1) = sgn) :
    ∃ (wn : List Value) (ns : List Int) (vss : List Value), News h₀ L h [(Dn, listOf wn.toArray 0), (Ds, listOf vss.toArray 0), c1, c2] ∧ IntsAre wn ns ∧ StrsAre vss sgn ∧ 4 ≤ ns.length ∧ ns.length ≤ 8 := by
  rw [hW] at hS
  refine ⟨wn, _, strValues l, fun p hp => N p ?_, hI, hS, ?_, ?_⟩
  · simp only [List.mem_cons, List.not_mem_nil, or_false] at hp ⊢
    rcases hp with h | h | h | h <;> simp [h]
  · rw [List.length_take, List.length_append]; simp; omega
  · rw [List.length_take]; omega
theorem words_sgn : Txt.words (Str.ofString "( ) [ ] : , ; + - * / | & < > = . % { } == != <= >= ~ ^ << >> ** += -= *= /= %= &= |= ^= <<= >>= **= // //= @ @= -> ... := !") = sgn := by decide +kernel
theorem mod48 (n : Int) : 0 ≤ n.fmod 48 ∧ n.fmod 48 < 48 := ⟨Int.fmod_nonneg_of_pos n (by decide), Int.fmod_lt_of_pos n (by decide)⟩
theorem snoc_sg {ns : List Int} {j : Nat} {zs : List Value} {t : Tok} (hj : j < ns.length) (hJ : StrsAre zs ((ns.take j).map fun n => sgn.getD (n.fmod 48).toNat Str.empty)) :
    StrsAre (zs ++ [.str (sgn.getD (7 + ns[j].fmod 48 - 7).toNat Str.empty) t]) ((ns.take (j + 1)).map fun n => sgn.getD (n.fmod 48).toNat Str.empty) := by
  rw [List.take_succ_eq_append_getElem hj, List.map_append, show 7 + ns[j].fmod 48 - 7 = ns[j].fmod 48 by omega]
  exact hJ.append' (.cons _ _ .nil)
def dz (ns : List Int) (k : Nat) : Int := ((ns.getD k 0).fdiv 48).fmod 2 * 2 ^ k
/-- The drawn blanks, as a number. -/
def drw (ns : List Int) : Nat → Int
  | 0 => 0
  | k + 1 => drw ns k + dz ns k
theorem drw_range (ns : List Int) : ∀ i, 0 ≤ drw ns i ∧ drw ns i < 2 ^ i
  | 0 => by simp [drw]
  | i + 1 => by
    have ih := drw_range ns i
    have h2 : (2 : Int) ^ (i + 1) = 2 ^ i + 2 ^ i := by rw [Int.pow_succ]; omega
    have h3 : (0 : Int) < 2 ^ i := Int.pow_pos (by decide)
    have a1 := Int.fmod_nonneg_of_pos ((ns.getD i 0).fdiv 48) (b := 2) (by decide)
    have a2 := Int.fmod_lt_of_pos ((ns.getD i 0).fdiv 48) (b := 2) (by decide)
    rw [drw, dz]
    generalize ((ns.getD i 0).fdiv 48).fmod 2 = x at *
    rcases (show x = 0 ∨ x = 1 by omega) with h | h <;> rw [h] <;> omega
theorem drw_sum (ns : List Int) : ∀ i, ((List.range i).map (dz ns)).sum = drw ns i
  | 0 => rfl
  | i + 1 => by rw [List.range_succ, List.map_append, List.sum_append, drw_sum ns i, drw]; simp
end Mine
end
section
open PySem PySem.W PyProof.Rows
set_option autoImplicit false
set_option Elab.async false
set_option maxRecDepth 100000
namespace Mine
theorem snoc_dz {ns : List Int} {us : List Value} {j : Nat} {t : Tok} (hJ : IntsAre us ((List.range j).map (dz ns))) :
    IntsAre (us ++ [.int (((ns.getD (0 + (j : Int)).toNat 0).fdiv 48).fmod 2 * 2 ^ (0 + (j : Int)).toNat) t]) ((List.range (j + 1)).map (dz ns)) := by
  rw [List.range_succ, List.map_append, show (0 + (j : Int)).toNat = j by omega]
  exact hJ.append (.cons _ _ .nil)
theorem sgn_ok : ∀ i, i < 48 → PyData.strOk (sgn.getD i Str.empty) = true := by decide +kernel
/-- What the law's pieces and row are. -/
theorem setting (ns : List Int) (h4 : 4 ≤ ns.length) (h8 : ns.length ≤ 8) :
    ∃ (ps : List Str) (rs : List Int) (dr : Int), ps = ns.map (fun n => sgn.getD (n.fmod 48).toNat Str.empty) ∧ rs = ns.map (fun n => 7 + n.fmod 48) ∧ dr = drw ns (ns.length - 1) ∧
      ps.length = ns.length ∧ rs.length = ps.length ∧ (∀ p ∈ ps, p.length ≤ 3) ∧ (∀ p ∈ ps, 1 ≤ p.length) ∧ (∀ p ∈ ps, PyData.strOk p = true) ∧ (∀ u ∈ cds ps, u ∈ sg) ∧ (cds ps).map found = rs ∧ (0 ≤ dr ∧ dr < 2 ^ (ps.length - 1)) ∧ (∀ x ∈ rs, 7 ≤ x ∧ x ≤ 54) := by
  refine ⟨_, _, _, rfl, rfl, rfl, by simp, by simp, ?_, ?_, ?_, ?_, ?_, ?_, ?_⟩
  · intro p hp
    obtain ⟨n, _, rfl⟩ := List.mem_map.mp hp
    have hm := mod48 n
    rw [str_len, sgn_getD]
    exact (sg_len _ (getD_mem (by omega))).2
  · intro p hp
    obtain ⟨n, _, rfl⟩ := List.mem_map.mp hp
    have hm := mod48 n
    rw [str_len, sgn_getD]
    exact (sg_len _ (getD_mem (by omega))).1
  · intro p hp
    obtain ⟨n, _, rfl⟩ := List.mem_map.mp hp
    have hm := mod48 n
    exact sgn_ok _ (by omega)
  · intro u hu
    unfold cds at hu
    rw [List.map_map] at hu
    obtain ⟨n, _, rfl⟩ := List.mem_map.mp hu
    have hm := mod48 n
    show (sgn.getD (n.fmod 48).toNat Str.empty).cps.toList ∈ sg
    rw [sgn_getD]
    exact getD_mem (by omega)
  · unfold cds
    rw [List.map_map, List.map_map]
    apply List.map_congr_left
    intro n _
    have hm := mod48 n
    show found (sgn.getD (n.fmod 48).toNat Str.empty).cps.toList = 7 + n.fmod 48
    rw [sgn_getD, sg_found _ (by omega)]
    omega
  · have := drw_range ns (ns.length - 1)
    rw [List.length_map]; exact this
  · intro x hx
    obtain ⟨n, _, rfl⟩ := List.mem_map.mp hx
    have hm := mod48 n
    omega
theorem shrink {h₀ h : Heap} {L : Addr} {x1 x2 x3 x4 x5 c1 c2 : Addr × Obj} (N : News h₀ L h [x1, x2, x3, x4, x5, c1, c2]) : News h₀ L h [x2, x3, x5, c1, c2] :=
  fun p hp => N p (by
    simp only [List.mem_cons, List.not_mem_nil, or_false] at hp ⊢
    rcases hp with h | h | h | h | h <;> simp [h])
theorem unhead {h₀ h : Heap} {L : Addr} {x : Addr × Obj} {l : List (Addr × Obj)} (N : News h₀ L h (x :: l)) : News h₀ L h l := fun p hp => N p (.tail _ hp)
end Mine
namespace Mine
theorem cnt_sum (b : Int) : ∀ i, ((List.range i).map (bit b)).sum = cnt b i
  | 0 => rfl
  | i + 1 => by rw [List.range_succ, List.map_append, List.sum_append, cnt_sum b i, cnt]; simp
theorem snoc_bit {b : Int} {us : List Value} {j : Nat} {t : Tok} (hJ : IntsAre us ((List.range j).map (bit b))) :
    IntsAre (us ++ [.int ((b.fdiv (2 ^ (0 + (j : Int)).toNat)).fmod 2) t]) ((List.range (j + 1)).map (bit b)) := by
  rw [List.range_succ, List.map_append, show (0 + (j : Int)).toNat = j by omega]
  exact hJ.append (.cons _ _ .nil)
def two (a b : Int) : List Int := [cnt a 7, cnt b 7]
theorem two_at {a b : Int} {ta tb : Tok} {i : Nat} {v : Value} (h : (#[Value.int a ta, Value.int b tb] : Array Value)[i]? = some v) : ∃ x t, v = .int x t ∧ (two a b)[i]? = some (cnt x 7) ∧ (x = a ∨ x = b) := by
  match i with
  | 0 => exact ⟨a, ta, by simpa using h.symm, rfl, .inl rfl⟩
  | 1 => exact ⟨b, tb, by simpa using h.symm, rfl, .inr rfl⟩
  | i + 2 => simp at h
theorem two_snoc {a b x : Int} {t : Tok} {i : Nat} {ys : List Value} (h : IntsAre ys ((two a b).take i)) (hx : (two a b)[i]? = some (cnt x 7)) : IntsAre (ys ++ [.int ((List.range 7).map (bit x)).sum t]) ((two a b).take (i + 1)) := by
  rw [List.take_add_one, hx, cnt_sum]
  exact h.append (.cons _ _ .nil)
theorem two_inv {a b : Int} {ys : List Value} (h : IntsAre ys ((two a b).take 2)) : ∃ t1 t2, ys = [.int (cnt a 7) t1, .int (cnt b 7) t2] := by
  obtain ⟨v, n, t, r⟩ := h
  rename_i h
  cases h
  rename_i h
  cases h
  exact ⟨_, _, rfl⟩
theorem keep3 {h₀ h : Heap} {L : Addr} {x1 x2 x3 x4 x5 c1 c2 : Addr × Obj} (N : News h₀ L h [x1, x2, x3, x4, x5, c1, c2]) : News h₀ L h [x1, x4, c1, c2] :=
  fun p hp => N p (by
    simp only [List.mem_cons, List.not_mem_nil, or_false] at hp ⊢
    rcases hp with h | h | h | h <;> simp [h])
theorem mem_getD0 {l : List Int} {i : Nat} (h : i < l.length) : l.getD i 0 ∈ l := by
  rw [List.getD_eq_getElem?_getD, List.getElem?_eq_getElem h]
  exact List.getElem_mem h
end Mine
end
section
open PySem PySem.W PyProof.Rows
set_option autoImplicit false
set_option Elab.async false
set_option maxRecDepth 100000
namespace Mine
def four (f : Int) : List Int := [f, -f, f - 1, 1 - f]
theorem four_at {f : Int} {ta tb tc td : Tok} {i : Nat} {v : Value} (h : ([Value.int f ta, Value.int (-f) tb, Value.int (f - 1) tc, Value.int (1 - f) td].toArray)[i]? = some v) : ∃ x t, v = .int x t ∧ (four f)[i]? = some x := by
  match i with
  | 0 => exact ⟨_, ta, by simpa using h.symm, rfl⟩
  | 1 => exact ⟨_, tb, by simpa using h.symm, rfl⟩
  | 2 => exact ⟨_, tc, by simpa using h.symm, rfl⟩
  | 3 => exact ⟨_, td, by simpa using h.symm, rfl⟩
  | i + 4 => simp at h
theorem four_high {f x : Int} {t : Tok} {i : Nat} {ys : List Value} (h : IntsAre ys (((four f).take i).map high)) (hx : (four f)[i]? = some x) : IntsAre (ys ++ [.int (high x) t]) (((four f).take (i + 1)).map high) := by
  rw [List.take_add_one, hx, List.map_append]
  exact h.append (.cons _ _ .nil)
theorem four_single {f x : Int} {i : Nat} {ys : List Value} (h : ys = ((four f).take i).map fun x => .bool (single x)) (hx : (four f)[i]? = some x) : ys ++ [.bool (single x)] = ((four f).take (i + 1)).map fun x => .bool (single x) := by
  rw [List.take_add_one, hx, List.map_append, h]; rfl
def Far (f : Int) (p : Nat) : Prop := high f = p ∧ high (-f) = p ∧ high (f - 1) = (p : Int) - 1 ∧ high (1 - f) = (p : Int) - 1 ∧ single f = true ∧ single (-f) = false ∧ single (f - 1) = false ∧ single (1 - f) = false
theorem far_high {f : Int} {p : Nat} (h : Far f p) : ((four f).take 4).map high = [(p : Int), p, (p : Int) - 1, (p : Int) - 1] := by
  obtain ⟨h1, h2, h3, h4, _⟩ := h
  show [high f, high (-f), high (f - 1), high (1 - f)] = _
  rw [h1, h2, h3, h4]
theorem far_single {f : Int} {p : Nat} (h : Far f p) : ((four f).take 4).map (fun x => Value.bool (single x)) = [.bool true, .bool false, .bool false, .bool false] := by
  obtain ⟨_, _, _, _, h1, h2, h3, h4⟩ := h
  show [Value.bool (single f), .bool (single (-f)), .bool (single (f - 1)), .bool (single (1 - f))] = _
  rw [h1, h2, h3, h4]
theorem far_of {p : Nat} (h : p < 109) (h' : 14 ≤ p) : Far (2 ^ p) p := tbl_far p h h'
end Mine
end
section
open PySem PySem.W PyProof.Rows
set_option autoImplicit false
set_option Elab.async false
set_option maxRecDepth 100000
namespace Mine
/-- The law came back with True: all is well. -/
theorem law_true {cl : Str → Option Addr} {mean : ExcName → Option Value} {args : List WData} {s₁ s' : Shared} {L : Addr} {m : Str → Option Value} (F : Fr s₁.heap L s'.heap m) (hg : s'.gens = #[]) (hos : s'.os = s₁.os) :
    GoodW Challenge.rw_rs0064_01.row.claim cl mean args s₁ (.ok (.ret (.bool true))) s' :=
  goodW_bool F hg (raisesW_false allW_false_nil) (postW_of (by wrow_shape) (w_eq_bool (w_res rfl) w_lit) (by rfl)) hos
end Mine
end
section
open PySem PySem.W PyProof.Rows
set_option Elab.async false
set_option maxRecDepth 100000
set_option maxHeartbeats 8000000
namespace Mine
/-- What a call of the def at f does, whoever calls. -/
def Does (k : Nat) (w : World) (f : Addr) (news : List (Addr × Obj)) (vs : List Value) (post : Value → List (Addr × Obj) → Prop) : Prop :=
  ∀ (mean : ExcName → Option Value) (mg mb : Str → Option Value) (dp un : Nat) (gd : Option (List Code)) (cn : Str) (cs : Scope) (a : Addr) (ccd : Value) (cl : List (Str × Addr)) (outer : List Env) (A₀ : Around) (base h₀ : Heap) (L : Addr) (m : Str → Option Value) (s : Shared) (Q E : Value → Shared → Prop),
    Below A₀ base outer h₀ → Fr h₀ L s.heap m → (hd.heap_39 w.params).In h₀ → News h₀ L s.heap news → Top hd.view_39 (looseW hd.view_39 [Str.ofString "EXACT_TOKEN_TYPES"]) mean mg mb h₀ → cs.kind = .function →
    dp + k < recursionLimit → un + 100 * k < cLine →
    (∀ (v : Value) (own : List (Addr × Obj)) (h' : Heap) (tk' : Nat), Fr h₀ L h' m → News h₀ L h' (own ++ news) → (∀ p ∈ news, ∀ q ∈ own, p.1 < q.1) → post v own → Q v { s with heap := h', toks := tk' }) →
    wpAny (model Challenge.rw_rs0064_01.row.prog w) (ktrTop dp un gd cn cs L a ccd cl outer) (call (.ref f) vs) Q E s

theorem Does.use {k : Nat} {w : World} {f : Addr} {news : List (Addr × Obj)} {vs : List Value} {post : Value → List (Addr × Obj) → Prop} (D : Does k w f news vs post)
    {mean : ExcName → Option Value} {mg mb : Str → Option Value} {dp un : Nat} {gd : Option (List Code)} {cn : Str} {cs : Scope} {a : Addr} {ccd : Value} {cl : List (Str × Addr)} {outer : List Env} {A₀ : Around} {base h₀ : Heap} {L : Addr} {m : Str → Option Value} {s : Shared} {Q E : Value → Shared → Prop}
    (B : Below A₀ base outer h₀) (F : Fr h₀ L s.heap m) (X : (hd.heap_39 w.params).In h₀) (N : News h₀ L s.heap news) (T : Top hd.view_39 (looseW hd.view_39 [Str.ofString "EXACT_TOKEN_TYPES"]) mean mg mb h₀) (hk : cs.kind = .function)
    (hd : dp + k < recursionLimit) (hu : un + 100 * k < cLine)
    (ret : ∀ (v : Value) (own : List (Addr × Obj)) (h' : Heap) (tk' : Nat), Fr h₀ L h' m → News h₀ L h' (own ++ news) → (∀ p ∈ news, ∀ q ∈ own, p.1 < q.1) → post v own → Q v { s with heap := h', toks := tk' }) :
    wpAny (model Challenge.rw_rs0064_01.row.prog w) (ktrTop dp un gd cn cs L a ccd cl outer) (call (.ref f) vs) Q E s := D _ _ _ _ _ _ _ _ _ _ _ _ _ _ _ _ _ _ _ _ B F X N T hk hd hu ret

theorem single_does (w : World) (news : List (Addr × Obj)) (n : Int) (t : Tok) : Does 1 w 21 news [.int n t] (fun v own => v = .bool (single n) ∧ own = []) := by
  w_top off; unfold Does; k_fill
  intro mean mg mb dp un gd cn cs a ccd cl outer A₀ base h₀ L m s Q E B F X N T hk hd hu hret
  refine wpAny_call ?_
  k_dflt cell_enter
  k_steps
  · refine hret _ [] _ _ (by assumption) (by assumption) (fun _ _ _ h => nomatch h) ⟨?_, rfl⟩
    simp_all [single]
  · refine hret _ [] _ _ (by assumption) (by assumption) (fun _ _ _ h => nomatch h) ⟨?_, rfl⟩
    simp_all [single]
theorem high_does (w : World) (news : List (Addr × Obj)) (n : Int) (t : Tok) : Does 1 w 28 news [.int n t] (fun v own => (∃ t', v = .int (high n) t') ∧ own = []) := by
  w_top off; unfold Does; k_fill
  intro mean mg mb dp un gd cn cs a ccd cl outer A₀ base h₀ L m s Q E B F X N T hk hd hu hret
  refine wpAny_call ?_
  k_dflt cell_enter
  k_steps
  · refine hret _ [] _ _ (by assumption) (by assumption) (fun _ _ _ h => nomatch h) ⟨⟨_, rfl⟩, rfl⟩
end Mine
end
section
open PySem PySem.W PyProof.Rows
set_option Elab.async false
set_option maxRecDepth 100000
set_option maxHeartbeats 8000000
namespace Mine
local macro_rules | `(tactic| walk_at "eval Call") => `(tactic| ((with_reducible show wpAny _ _ (eval (Expr.Call (Expr.Name (Str.ofString "_is_single_bit") _) _ [] _) _) _ _ _); k_dflt (refine Call_ ?_)))
local macro_rules | `(tactic| walk_at "eval Call") => `(tactic| ((with_reducible show wpAny _ _ (eval (Expr.Call (Expr.Name (Str.ofString "_high_bit") _) _ [] _) _) _ _ _); k_dflt (refine Call_ ?_)))
local macro_rules | `(tactic| walk_at "call ref") => `(tactic| (k_here; (with_reducible show wpAny _ _ (call (Value.ref 21) [Value.int _ _]) _ _ _); k_dflt (refine' Does.use (single_does _ _ _ _) ?k1 ?k2 ?k3 ?k4 ?k5 ?kK ?kd ?ku ?_; (case k1 => k_asm); (case k2 => k_asm); (case k3 => k_asm); (case k4 => k_asm); (case k5 => k_asm); (case kK => first | exact rfl | assumption); (case kd => ktr_room); (case ku => ktr_units)); intro v9 own9 h9 tk9 F9 N9 L9 p9; obtain ⟨e9, f9⟩ := p9; subst e9; subst f9; clear L9; (try simp only [List.nil_append] at N9); (try dsimp only); (try k_sweep)))
local macro_rules | `(tactic| walk_at "call ref") => `(tactic| (k_here; (with_reducible show wpAny _ _ (call (Value.ref 28) [Value.int _ _]) _ _ _); k_dflt (refine' Does.use (high_does _ _ _ _) ?k1 ?k2 ?k3 ?k4 ?k5 ?kK ?kd ?ku ?_; (case k1 => k_asm); (case k2 => k_asm); (case k3 => k_asm); (case k4 => k_asm); (case k5 => k_asm); (case kK => first | exact rfl | assumption); (case kd => ktr_room); (case ku => ktr_units)); intro v9 own9 h9 tk9 F9 N9 L9 p9; obtain ⟨⟨t9, e9⟩, f9⟩ := p9; subst e9; subst f9; clear L9; (try simp only [List.nil_append] at N9); (try dsimp only); (try k_sweep)))
theorem read_does (w : World) (news : List (Addr × Obj)) (x : Str) (t : Tok) (l : Addr) (vs : List Value) (ws : List Str) (c : Nat) (hx : x.length ≤ 64) (hl : (l, listOf vs.toArray c) ∈ news) (hv : StrsAre vs ws) (hws : ws.length = 48) (hwn : ∀ n : Int, (ws.getD (n - 7).toNat Str.empty).length = lenOf n) :
    Does 2 w 38 news [.str x t, .ref l] (fun v own => ∃ (r : Addr) (us : List Value) (n : Nat), v = .ref r ∧ own = [(r, listOf us.toArray n)] ∧ IntsAre us (rd x.cps.toList)) := by
  w_top off; unfold Does; k_fill
  intro mean mg mb dp un gd cn cs a ccd cl outer A₀ base h₀ L m s Q E B F X N T hk hd hu hret
  have kMark : KstMark := kstMark
  refine wpAny_call ?_
  k_dflt cell_enter
  repeat' ((fail_if_success (with_reducible show wpAny _ _ (exec (Stmt.While _ _ _ _) _) _ _ _)); (first | (k_unfold; (try dsimp only)) | (k_end; wrow_close) | walk1 | (dsimp only; walk1) | (leave1; walk_say "STEP leave1"; try dsimp only) | fail "no step"))
  rename Fr _ _ _ _ => lF
  rename News _ _ _ _ => lN
  refine while_row (Str.ofString "place") [Str.ofString "flags", Str.ofString "end", Str.ofString "found", Str.ofString "number"] (fun zs p => (0 ≤ p ∧ p ≤ x.length + 3 ∧ (zs.length : Int) ≤ p) ∧ zs ++ rd (x.cps.toList.drop p.toNat) = rd x.cps.toList) (fun p => (100 - p).toNat) lF lN rfl ⟨⟨by decide, by omega, by decide⟩, rfl⟩ ?_ (by passes_own)
  clear lF lN
  rintro ys zs cy p tp kU kH kTk kFacts ⟨kInv, kRd⟩ kFr kNews
  have kLen := kFacts.length
  repeat' ((fail_if_success (with_reducible show wpAny _ _ (exec (Stmt.For _ _ _ _ _) _) _ _ _)); (first | (k_unfold; (try dsimp only)) | (k_end; wrow_close) | walk1 | (dsimp only; walk1) | (leave1; walk_say "STEP leave1"; try dsimp only) | fail "no step"))
  · rename Fr _ _ _ _ => lF
    with_unfolding_all refine' For_invVF lF ?k1 ?k2 ?_ ?k3 ?k4
    case k1 => exact rfl
    case k2 => exact rfl
    case k3 => intro _; rfl
    case k4 => passes_own
    repeat' ((fail_if_success (with_reducible show wpAny _ _ (pyIter (Value.ref _)) _ _ _)); (first | (k_unfold; (try dsimp only)) | (k_end; wrow_close) | walk1 | (dsimp only; walk1) | (leave1; walk_say "STEP leave1"; try dsimp only) | fail "no step"))
    rename Fr _ _ _ _ => lF2
    rename News _ _ _ _ => lN2
    rename IsRange _ _ _ _ _ _ _ _ => rgX
    have hn3 : Builtin.Range.rangeSize (p + 1) (p + 4) 1 = ((3 : Nat) : Int) := by unfold Builtin.Range.rangeSize; simp; omega
    refine for_one (Str.ofString "flags") [Str.ofString "found"] (fun i v => ∃ t, v = .int (flg (x.cps.toList.drop p.toNat) i) t) rfl rgX (small_one (by omega) (by omega) (by omega) (by omega)) hn3 lF2 lN2 rfl ⟨_, rfl⟩ ?_ ?_
    · clear lF2 lN2 rgX
      rintro i _ te u2 h2 tk2 own hi hoff ⟨tf, rfl⟩ lF3 lN3
      repeat' (first | (k_unfold; (try dsimp only)) | (k_end; wrow_close) | walk1 | (dsimp only; walk1) | (leave1; walk_say "STEP leave1"; try dsimp only) | fail "no step")
      rename PyProof.V.Flat _ _ => hfl
      obtain ⟨tv, rfl⟩ := flat_found hfl
      clear hfl
      rw [slice_codes (by omega) (by omega) (by omega)] at *
      have hfd := found_range (List.take (p + 1 + ↑i - p).toNat (List.drop p.toNat x.cps.toList))
      have hfe : flg (List.drop p.toNat x.cps.toList) (i + 1) = orf (flg (List.drop p.toNat x.cps.toList) i) (found (List.take (p + 1 + ↑i - p).toNat (List.drop p.toNat x.cps.toList))) := by
        have e : (p + 1 + (i : Int) - p).toNat = i + 1 := by omega
        rw [e]; rfl
      generalize found (List.take (p + 1 + ↑i - p).toNat (List.drop p.toNat x.cps.toList)) = fd at *
      have hfd' : fd ≤ 54 := by omega
      repeat' (first | (k_unfold; (try dsimp only)) | (k_end; wrow_close) | walk1 | (dsimp only; walk1) | (leave1; walk_say "STEP leave1"; try dsimp only) | fail "no step")
      · rename (0 ≤ fd) => hpos
        rw [orf, if_pos hpos] at hfe
        rename Fr _ _ _ _ => zF
        rename News _ _ _ _ => zN
        exact ⟨_, _, _, _, _, rfl, zF, zN, fun q hq => List.mem_append_left _ hq, fun q hq => List.mem_append_right _ hq, rfl, by kst_all, by kst_same, ⟨_, by rw [hfe]⟩⟩
      · rename (¬ 0 ≤ fd) => hpos
        rw [orf, if_neg hpos] at hfe
        rename Fr _ _ _ _ => zF
        rename News _ _ _ _ => zN
        exact ⟨_, _, _, _, _, rfl, zF, zN, fun q hq => List.mem_append_left _ hq, fun q hq => List.mem_append_right _ hq, rfl, by kst_all, by kst_same, ⟨_, by rw [hfe]⟩⟩
    · rintro _ u3 h3 tk3 ⟨tf, rfl⟩ lF4 lN4
      clear lF2 lN2 rgX
      have hnA : single (flg (x.cps.toList.drop p.toNat) 3) = true → high (flg (x.cps.toList.drop p.toNat) 3) = numAt (x.cps.toList.drop p.toNat) := fun h => by unfold numAt numOf; rw [if_pos h]
      have hnB : single (flg (x.cps.toList.drop p.toNat) 3) = false → high ((flg (x.cps.toList.drop p.toNat) 3).fmod (2 ^ Int.toNat 54)) = numAt (x.cps.toList.drop p.toNat) := fun h => by unfold numAt numOf; rw [if_neg (by rw [h]; decide)]; exact congrArg high (Int.fmod_eq_emod_of_nonneg _ (by decide))
      have hnr := numAt_range (x.cps.toList.drop p.toNat)
      have hst := rd_step (l := x.cps.toList) (p := p.toNat) (by simp [Str.length] at *; omega)
      generalize flg (x.cps.toList.drop p.toNat) 3 = fl at *
      generalize numAt (x.cps.toList.drop p.toNat) = nn at *
      have hlr : 0 ≤ nn → 1 ≤ lenOf nn ∧ lenOf nn ≤ 3 := fun h => lenOf_range (by omega)
      repeat' ((fail_if_success (with_reducible show wpAny _ _ (call (Value.ref 28) _) _ _ _)); (first | (k_unfold; (try dsimp only)) | (k_end; wrow_close) | walk1 | (dsimp only; walk1) | (leave1; walk_say "STEP leave1"; try dsimp only) | fail "no step"))
      all_goals (
        first | (have e := hnA (by assumption)) | (have e := hnB (by assumption))
        walk1
        rw [e]
        clear e hnA hnB
        repeat' ((fail_if_success (with_reducible show wpAny _ _ (call (Value.builtin "list.append") _) _ _ _)); (first | (k_unfold; (try dsimp only)) | (k_end; wrow_close) | walk1 | (dsimp only; walk1) | (leave1; walk_say "STEP leave1"; try dsimp only) | fail "no step")))
      · rename Fr _ _ _ _ => zF
        rename News _ _ _ _ => zN
        rename (nn < 0) => hneg
        rw [if_pos hneg] at hst
        refine ⟨(ys, zs, cy, p + 1, _), _, _, _, _, rfl, zF, zN, fun q hq => hq, by kst_all, by ksw_same, ⟨kFacts, ⟨by dsimp only; omega, by dsimp only; omega, by dsimp only; omega⟩, ?_⟩, by show (100 - (p + 1)).toNat < (100 - p).toNat; omega⟩
        show zs ++ rd (List.drop (p + 1).toNat x.cps.toList) = rd x.cps.toList
        rw [show (p + 1).toNat = p.toNat + 1 by omega, ← hst, kRd]
      · rename Fr _ _ _ _ => zF
        rename News _ _ _ _ => zN
        rename (¬ nn < 0) => hpos
        rename (∀ p ∈ news, _) => hlt
        rw [if_neg hpos] at hst
        have hlr' := hlr (by omega)
        refine append_K zF zN (.head fun q hq => Nat.ne_of_lt (hlt q hq)) ?_ (by rw [List.size_toArray, PySem.sizeLine_eq]; omega)
        clear zF zN
        intro h5 zF zN
        repeat' ((fail_if_success (with_reducible show wpAny _ _ (subscriptTail _ _ (Value.ref _) _) _ _ _)); (first | (k_unfold; (try dsimp only)) | (k_end; wrow_close) | walk1 | (dsimp only; walk1) | (leave1; walk_say "STEP leave1"; try dsimp only) | fail "no step"))
        refine KTb.item_list (ws := ws) (News.isList (by assumption) (List.mem_cons_of_mem _ hl)) hv (by omega) (by omega) (by omega) ?_
        intro t5 ht5
        repeat' ((fail_if_success (with_reducible show wpAny _ _ (call (Value.builtin "len") _) _ _ _)); (first | (k_unfold; (try dsimp only)) | (k_end; wrow_close) | walk1 | (dsimp only; walk1) | (leave1; walk_say "STEP leave1"; try dsimp only) | fail "no step"))
        refine len_writK _ rfl (by rw [hwn]; omega) ?_
        rw [hwn]
        repeat' (first | (k_unfold; (try dsimp only)) | (k_end; wrow_close) | walk1 | (dsimp only; walk1) | (leave1; walk_say "STEP leave1"; try dsimp only) | fail "no step")
        rename Fr _ _ _ _ => zF
        rename News _ _ _ _ => zN
        rw [List.push_toArray] at zN

        refine ⟨(ys ++ [.int nn _], zs ++ [nn], cy + 1, p + lenOf nn, _), _, _, _, _, rfl, zF, zN, fun q hq => hq, by kst_all, by ksw_same, ⟨kFacts.append (.cons _ _ .nil), ⟨by dsimp only; omega, by dsimp only; omega, by dsimp only; rw [List.length_append, List.length_singleton]; omega⟩, ?_⟩, by show (100 - (p + lenOf nn)).toNat < (100 - p).toNat; omega⟩
        show zs ++ [nn] ++ rd (List.drop (p + lenOf nn).toNat x.cps.toList) = rd x.cps.toList
        rw [show (p + (lenOf nn : Int)).toNat = p.toNat + lenOf nn by omega, List.append_assoc, List.singleton_append, ← hst, kRd]
      · rename Fr _ _ _ _ => zF
        rename News _ _ _ _ => zN
        rename (nn < 0) => hneg
        rw [if_pos hneg] at hst
        refine ⟨(ys, zs, cy, p + 1, _), _, _, _, _, rfl, zF, zN, fun q hq => hq, by kst_all, by ksw_same, ⟨kFacts, ⟨by dsimp only; omega, by dsimp only; omega, by dsimp only; omega⟩, ?_⟩, by show (100 - (p + 1)).toNat < (100 - p).toNat; omega⟩
        show zs ++ rd (List.drop (p + 1).toNat x.cps.toList) = rd x.cps.toList
        rw [show (p + 1).toNat = p.toNat + 1 by omega, ← hst, kRd]
      · rename Fr _ _ _ _ => zF
        rename News _ _ _ _ => zN
        rename (¬ nn < 0) => hpos
        rename (∀ p ∈ news, _) => hlt
        rw [if_neg hpos] at hst
        have hlr' := hlr (by omega)
        refine append_K zF zN (.head fun q hq => Nat.ne_of_lt (hlt q hq)) ?_ (by rw [List.size_toArray, PySem.sizeLine_eq]; omega)
        clear zF zN
        intro h5 zF zN
        repeat' ((fail_if_success (with_reducible show wpAny _ _ (subscriptTail _ _ (Value.ref _) _) _ _ _)); (first | (k_unfold; (try dsimp only)) | (k_end; wrow_close) | walk1 | (dsimp only; walk1) | (leave1; walk_say "STEP leave1"; try dsimp only) | fail "no step"))
        refine KTb.item_list (ws := ws) (News.isList (by assumption) (List.mem_cons_of_mem _ hl)) hv (by omega) (by omega) (by omega) ?_
        intro t5 ht5
        repeat' ((fail_if_success (with_reducible show wpAny _ _ (call (Value.builtin "len") _) _ _ _)); (first | (k_unfold; (try dsimp only)) | (k_end; wrow_close) | walk1 | (dsimp only; walk1) | (leave1; walk_say "STEP leave1"; try dsimp only) | fail "no step"))
        refine len_writK _ rfl (by rw [hwn]; omega) ?_
        rw [hwn]
        repeat' (first | (k_unfold; (try dsimp only)) | (k_end; wrow_close) | walk1 | (dsimp only; walk1) | (leave1; walk_say "STEP leave1"; try dsimp only) | fail "no step")
        rename Fr _ _ _ _ => zF
        rename News _ _ _ _ => zN
        rw [List.push_toArray] at zN

        refine ⟨(ys ++ [.int nn _], zs ++ [nn], cy + 1, p + lenOf nn, _), _, _, _, _, rfl, zF, zN, fun q hq => hq, by kst_all, by ksw_same, ⟨kFacts.append (.cons _ _ .nil), ⟨by dsimp only; omega, by dsimp only; omega, by dsimp only; rw [List.length_append, List.length_singleton]; omega⟩, ?_⟩, by show (100 - (p + lenOf nn)).toNat < (100 - p).toNat; omega⟩
        show zs ++ [nn] ++ rd (List.drop (p + lenOf nn).toNat x.cps.toList) = rd x.cps.toList
        rw [show (p + (lenOf nn : Int)).toNat = p.toNat + lenOf nn by omega, List.append_assoc, List.singleton_append, ← hst, kRd]
  · refine hret _ [(_, _)] _ _ (by assumption) (by assumption) ?_ ⟨_, _, _, rfl, rfl, ?_⟩
    · intro q hq r hr
      rw [List.mem_singleton.mp hr]
      rename (∀ p ∈ news, _) => hlt
      exact hlt q hq
    · rename (¬ p < _) => hend
      have e : List.drop p.toNat x.cps.toList = [] := List.drop_eq_nil_of_le (by simp [Str.length] at *; omega)
      rw [e, rd_nil, List.append_nil] at kRd
      rw [← kRd]; exact kFacts
end Mine
end
section
open PySem PySem.W PyProof.Rows
set_option Elab.async false
set_option maxRecDepth 100000
set_option maxHeartbeats 8000000
namespace Mine
theorem spaced_does (w : World) (news : List (Addr × Obj)) (l : Addr) (vs : List Value) (ps : List Str) (c : Nat) (b : Int) (tb : Tok) (hl : (l, listOf vs.toArray c) ∈ news) (hv : StrsAre vs ps) (h1 : 1 ≤ ps.length) (h8 : ps.length ≤ 8) (h3 : ∀ p ∈ ps, p.length ≤ 3) :
    Does 1 w 45 news [.ref l, .int b tb] (fun v own => (∃ (y : Str) (t : Tok), v = .str y t ∧ y.length ≤ 40 ∧ y.cps.toList = spc (cds ps) b) ∧ own = []) := by
  w_top off; unfold Does; k_fill
  intro mean mg mb dp un gd cn cs a ccd cl outer A₀ base h₀ L m s Q E B F X N T hk hd hu hret
  have kMark : KstMark := kstMark
  refine wpAny_call ?_
  k_dflt cell_enter
  repeat' ((fail_if_success (with_reducible show wpAny _ _ (subscriptTail _ _ (Value.ref _) _) _ _ _)); (first | (k_unfold; (try dsimp only)) | (k_end; wrow_close) | walk1 | (dsimp only; walk1) | (leave1; walk_say "STEP leave1"; try dsimp only) | fail "no step"))
  refine KTb.item_list (ws := ps) (News.isList (by assumption) hl) hv (by decide) (by omega) (by decide) ?_
  intro t5 ht5
  repeat' ((fail_if_success (with_reducible show wpAny _ _ (exec (Stmt.For _ _ _ _ _) _) _ _ _)); (first | (k_unfold; (try dsimp only)) | (k_end; wrow_close) | walk1 | (dsimp only; walk1) | (leave1; walk_say "STEP leave1"; try dsimp only) | fail "no step"))
  rename Fr _ _ _ _ => lF
  with_unfolding_all refine' For_invVF lF ?k1 ?k2 ?_ ?k3 ?k4
  case k1 => exact rfl
  case k2 => exact rfl
  case k3 => intro _; rfl
  case k4 => passes_own
  repeat' ((fail_if_success (with_reducible show wpAny _ _ (call (Value.builtin "len") _) _ _ _)); (first | (k_unfold; (try dsimp only)) | (k_end; wrow_close) | walk1 | (dsimp only; walk1) | (leave1; walk_say "STEP leave1"; try dsimp only) | fail "no step"))
  refine kst_len (by assumption) hl hv.length (by omega) ?_
  repeat' ((fail_if_success (with_reducible show wpAny _ _ (pyIter (Value.ref _)) _ _ _)); (first | (k_unfold; (try dsimp only)) | (k_end; wrow_close) | walk1 | (dsimp only; walk1) | (leave1; walk_say "STEP leave1"; try dsimp only) | fail "no step"))
  rename Fr _ _ _ _ => lF2
  rename News _ _ _ _ => lN2
  rename IsRange _ _ _ _ _ _ _ _ => rgX
  have hn3 : Builtin.Range.rangeSize 1 ps.length 1 = ((ps.length - 1 : Nat) : Int) := by unfold Builtin.Range.rangeSize; simp; omega
  refine for_one (Str.ofString "text") [] (fun i v => ∃ y t, v = .str y t ∧ y.length ≤ 4 * i + 3 ∧ y.cps.toList = spcN (cds ps) b i) rfl rgX (small_one (by omega) (by omega) (by omega) (by omega)) hn3 lF2 lN2 rfl ?_ ?_ ?_
  · exact ⟨_, _, rfl, by have := getD_le3 h3 (Int.toNat 0); omega, (cds_getD ps 0).symm⟩
  · clear lF2 lN2 rgX
    rintro i _ te u2 h2 tk2 own hi hoff ⟨y, tf, rfl, hy, hyc⟩ lF3 lN3
    repeat' ((fail_if_success (with_reducible show wpAny _ _ (subscriptTail _ _ (Value.ref _) _) _ _ _)); (first | (k_unfold; (try dsimp only)) | (k_end; wrow_close) | walk1 | (dsimp only; walk1) | (leave1; walk_say "STEP leave1"; try dsimp only) | fail "no step"))
    refine KTb.item_list (ws := ps) (News.isList (by assumption) (List.mem_append_left _ hl)) hv (by omega) (by omega) (by omega) ?_
    intro t6 ht6
    have hz := getD_le3 h3 (1 + (i : Int)).toNat
    have hzc := cds_getD ps (1 + (i : Int)).toNat
    generalize ps.getD (1 + (i : Int)).toNat Str.empty = z at *
    repeat' (first | (k_unfold; (try dsimp only)) | (k_end; wrow_close) | walk1 | (dsimp only; walk1) | (leave1; walk_say "STEP leave1"; try dsimp only) | fail "no step")
    rename Fr _ _ _ _ => zF
    rename News _ _ _ _ => zN
    have hb := bit_range b i
    have e1 : (1 + (i : Int) - 1).toNat = i := by omega
    have e2 : (1 + (i : Int)).toNat = i + 1 := by omega
    refine ⟨_, _, _, _, _, rfl, zF, zN, fun q hq => List.mem_append_left _ hq, fun q hq => List.mem_append_right _ hq, rfl, by kst_all, by kst_same, ⟨_, _, rfl, ?_, ?_⟩⟩
    · rw [str_len, app_codes, app_codes, blanks_codes, e1, List.length_append, List.length_append, List.length_replicate, ← str_len, ← str_len]
      unfold bit at hb
      omega
    · rw [app_codes, app_codes, blanks_codes, e1, hyc, ← hzc, e2]
      rfl
  · rintro _ u3 h3 tk3 ⟨y, tf, rfl, hy, hyc⟩ lF4 lN4
    clear lF2 lN2 rgX
    repeat' (first | (k_unfold; (try dsimp only)) | (k_end; wrow_close) | walk1 | (dsimp only; walk1) | (leave1; walk_say "STEP leave1"; try dsimp only) | fail "no step")
    refine hret _ [] _ _ (by assumption) (by assumption) (fun _ _ _ h => nomatch h) ⟨⟨_, _, rfl, by omega, ?_⟩, rfl⟩
    rw [hyc]; unfold spc cds; rw [List.length_map]
end Mine
end
section
open PySem PySem.W PyProof.Rows
set_option Elab.async false
set_option maxRecDepth 100000
set_option maxHeartbeats 1000000
namespace Mine
theorem fits_does (w : World) (news : List (Addr × Obj)) (ls : Addr) (vss : List Value) (ws : List Str) (cs' : Nat) (l : Addr) (vs : List Value) (ps : List Str) (c : Nat) (b : Int) (tb : Tok) (hls : (ls, listOf vss.toArray cs') ∈ news) (hvs : StrsAre vss ws) (hwa : ∀ x : Str, ws.any (· == x) = sg.contains x.cps.toList) (hl : (l, listOf vs.toArray c) ∈ news) (hv : StrsAre vs ps) (h1 : 1 ≤ ps.length) (h8 : ps.length ≤ 8) (h3 : ∀ p ∈ ps, p.length ≤ 3) (hne : ∀ p ∈ ps, 1 ≤ p.length) (hok : ∀ p ∈ ps, PyData.strOk p = true) :
    Does 1 w 50 news [.ref ls, .ref l, .int b tb] (fun v own => (∃ (y : Bool), v = .bool y ∧ (y = true ↔ Fits (cds ps) b)) ∧ own = []) := by
  w_top off; unfold Does; k_fill
  intro mean mg mb dp un gd cn cs a ccd cl outer A₀ base h₀ L m s Q E B F X N T hk hd hu hret
  have kMark : KstMark := kstMark
  refine wpAny_call ?_
  k_dflt (refine' code_defC ?k1 ?k2 ?k3 ?k4 ?k5 ?kA ?kF ?kK ?k6 ?k7 ?k8 ?k9 ?kB ?kD ?_ ?c2 ?c3 ?c4; (case kA => exact rfl); (case kF => exact rfl); (case kK => assumption); (case k1 => k_asm); (case k2 => k_asm); (case k3 => k_asm); (case k4 => k_asm); (case k5 => k_asm); (case k6 => k_is); (case k7 => k_is); (case k8 => ktr_room); (case k9 => exact BindsTo.of_eq rfl); (case kB => exact rfl); (case kD => decide +kernel); (case c2 => exact rfl); (case c3 => exact rfl); (case c4 => exact rfl); k_whole)
  intro g' L' h' tk' cells' FG' F' N' Y' B' X' T' l1
  have hY := CellsAre.two Y'
  obtain ⟨ob, os, hE, d1, d2⟩ := hY
  subst hE
  clear Y'
  replace d1 : ob.data = Data.cell none := d1
  replace d2 : os.data = Data.cell (some (.ref ls)) := d2
  simp only [List.cons_append, List.nil_append] at N'
  change wpAny _ _ _ _ _ _
  k_fold
  repeat' ((fail_if_success (with_reducible show wpAny _ _ (exec (Stmt.For _ _ _ _ _) _) _ _ _)); (first | (k_unfold; (try dsimp only)) | (k_end; wrow_close) | walk1 | (dsimp only; walk1) | (leave1; walk_say "STEP leave1"; try dsimp only) | fail "no step"))
  rename Fr _ _ _ _ => lF
  with_unfolding_all refine' For_invVF lF ?k1 ?k2 ?_ ?k3 ?k4
  case k1 => exact rfl
  case k2 => exact rfl
  case k3 => intro _; rfl
  case k4 => passes_own
  repeat' ((fail_if_success (with_reducible show wpAny _ _ (call (Value.builtin "len") _) _ _ _)); (first | (k_unfold; (try dsimp only)) | (k_end; wrow_close) | walk1 | (dsimp only; walk1) | (leave1; walk_say "STEP leave1"; try dsimp only) | fail "no step"))
  refine kst_len (by assumption) (List.mem_cons_of_mem _ (List.mem_cons_of_mem _ hl)) hv.length (by omega) ?_
  repeat' ((fail_if_success (with_reducible show wpAny _ _ (pyIter (Value.ref _)) _ _ _)); (first | (k_unfold; (try dsimp only)) | (k_end; wrow_close) | walk1 | (dsimp only; walk1) | (leave1; walk_say "STEP leave1"; try dsimp only) | fail "no step"))
  rename Fr _ _ _ _ => lF2
  rename News _ _ _ _ => lN2
  rename IsRange _ _ _ _ _ _ _ _ => rgX
  have hn3 : Builtin.Range.rangeSize 0 (ps.length - 1) 1 = ((ps.length - 1 : Nat) : Int) := by unfold Builtin.Range.rangeSize; simp; omega
  refine for_cell [] (fun i o => (∃ v, o.data = Data.cell v) ∧ ∀ k, k < i → OkAt (cds ps) b k) rfl rgX (small_one (by omega) (by omega) (by omega) (by omega)) hn3 lF2 lN2 ⟨⟨_, d1⟩, fun k hk => absurd hk (Nat.not_lt_zero k)⟩ ?_ ?_
  · clear lF2 lN2 rgX
    rintro i o te u2 h2 tk2 own hi hoff ⟨⟨vb, hvb⟩, hOk⟩ lF3 lN3
    have hlM : (l, listOf vs.toArray c) ∈ (L' + 1 + 1, o) :: ((L' + 1, os) :: news ++ own) := .tail _ (.tail _ (List.mem_append_left _ hl))
    have hz1 := getD_le3 h3 i
    have hz2 := getD_le3 h3 (i + 1)
    repeat' ((fail_if_success (with_reducible show wpAny _ _ (subscriptTail _ _ (Value.ref _) _) _ _ _)); (first | (k_unfold; (try dsimp only)) | (k_end; wrow_close) | walk1 | (dsimp only; walk1) | (leave1; walk_say "STEP leave1"; try dsimp only) | fail "no step"))
    · refine KTb.item_list (ws := ps) (News.isList (by assumption) hlM) hv (by omega) (by omega) (by omega) ?_
      intro t6 ht6
      rw [show ((0 : Int) + (i : Int)).toNat = i by omega] at *
      repeat' ((fail_if_success (with_reducible show wpAny _ _ (subscriptTail _ _ (Value.ref _) _) _ _ _)); (first | (k_unfold; (try dsimp only)) | (k_end; wrow_close) | walk1 | (dsimp only; walk1) | (leave1; walk_say "STEP leave1"; try dsimp only) | fail "no step"))
      refine KTb.item_list (ws := ps) (News.isList (by assumption) hlM) hv (by omega) (by omega) (by omega) ?_
      intro t7 ht7
      rw [show ((0 : Int) + (i : Int) + 1).toNat = i + 1 by omega] at *
      have hz1' : 1 ≤ (ps.getD i Str.empty).length := getD_ge1 hne ht6
      have hps1 : ps[i]? = some (ps.getD i Str.empty) := by rw [List.getD_eq_getElem?_getD, List.getElem?_eq_getElem ht6]; rfl
      have hps2 : ps[i + 1]? = some (ps.getD (i + 1) Str.empty) := by rw [List.getD_eq_getElem?_getD, List.getElem?_eq_getElem ht7]; rfl
      rename ((b.fdiv (2 ^ i)).fmod 2 = 0) => hb1
      replace hb1 : bit b i = 0 := hb1
      generalize hg1 : ps.getD i Str.empty = p1 at *
      generalize hg2 : ps.getD (i + 1) Str.empty = p2 at *
      repeat' ((fail_if_success (with_reducible show wpAny _ _ (storeName _ _ _) _ _ _)); (first | (k_unfold; (try dsimp only)) | (k_end; wrow_close) | walk1 | (dsimp only; walk1) | (leave1; walk_say "STEP leave1"; try dsimp only) | fail "no step"))
      with_unfolding_all refine' storeX_C lF3 lN3 ?kc (.head ?kne) hvb ?_ ?ka ?kb
      case kc => rfl
      case ka => rfl
      case kb => rfl
      case kne =>
        intro q hq
        rcases List.mem_cons.mp hq with rfl | hq
        · exact Nat.ne_of_lt (Nat.lt_succ_self _)
        · rcases List.mem_append.mp hq with hq | hq
          · exact Nat.ne_of_lt (Nat.lt_of_lt_of_le (l1 q hq) (by omega))
          · exact hoff q hq _ (.head _)
      clear lF3 lN3
      intro h4 o4 lF4 lN4 d4
      clear hlM
      have hlM : (l, listOf vs.toArray c) ∈ (L' + 1 + 1, o4) :: ((L' + 1, os) :: news ++ own) := .tail _ (.tail _ (List.mem_append_left _ hl))
      have hlS : (ls, listOf vss.toArray cs') ∈ (L' + 1 + 1, o4) :: ((L' + 1, os) :: news ++ own) := .tail _ (.tail _ (List.mem_append_left _ hls))
      repeat' ((fail_if_success (with_reducible show wpAny _ _ (eval (Expr.ListComp _ _ _ _) _) _ _ _)); (first | (k_unfold; (try dsimp only)) | (k_end; wrow_close) | walk1 | (dsimp only; walk1) | (leave1; walk_say "STEP leave1"; try dsimp only) | fail "no step"))
      with_unfolding_all refine' LCt.ListComp_T lF4 ?ka ?kb ?kc ?kd ?ke ?_ ?kf
      case ka => rfl
      case kb => decide
      case kc => rfl
      case kd => decide
      case ke => rfl
      case kf => intro _; rfl
      repeat' ((fail_if_success (with_reducible show wpAny _ _ (subscriptTail _ _ (Value.ref _) _) _ _ _)); (first | (k_unfold; (try dsimp only)) | (k_end; wrow_close) | walk1 | (dsimp only; walk1) | (leave1; walk_say "STEP leave1"; try dsimp only) | fail "no step"))
      refine KTb.item_list (ws := ps) (News.isList (by assumption) hlM) hv (by omega) (by omega) (by omega) ?_
      intro t8 _
      rw [show ((0 : Int) + (i : Int)).toNat = i by omega, hg1]
      repeat' ((fail_if_success (with_reducible show LCt.CompSrcT _ _ _ _ _ _ _ _ _ _ _ _ _ _ _)); (first | (k_unfold; (try dsimp only)) | (k_end; wrow_close) | walk1 | (dsimp only; walk1) | (leave1; walk_say "STEP leave1"; try dsimp only) | fail "no step"))
      rename Fr _ _ _ _ => lF5
      rename News _ _ _ _ => lN5
      rename IsRange _ _ _ _ _ _ _ _ => rg5
      have hn5 : Builtin.Range.rangeSize ((p1.length : Int) + 1) 4 1 = ((3 - p1.length : Nat) : Int) := by unfold Builtin.Range.rangeSize; simp; omega
      refine LCt.CompSrcT.range rfl lF5 lN5 rg5 (small_one (by omega) (by omega) (by omega) (by omega)) hn5 (by rw [PySem.sizeLine_eq]; omega) ?_
      clear lF5 lN5 rg5
      intro g5
      refine restT (n := 3 - p1.length) (fun j ys => ∃ zs, IntsAre ys zs ∧ (zs = [] ↔ ∀ q, q < j → longer (p1 ++ p2).cps.toList (p1.length + 1 + q) = false)) trivial ?fin ?step _ 0 [] (by omega) ⟨[], .nil, by simp⟩
      case step =>
        rintro j ys v I oI C oC D m₂ h6 tk6 E6 hj ⟨zs, hzs, hJ⟩ ⟨tv, rfl⟩ hC hx F6 N6 off6
        repeat' ((fail_if_success (with_reducible show wpAny _ _ (compareOp _ _ _) _ _ _)); (first | (k_unfold; (try dsimp only)) | (k_end; wrow_close) | walk1 | (dsimp only; walk1) | (leave1; walk_say "STEP leave1"; try dsimp only) | fail "no step"))
        refine in_list_strs (News.isList (by assumption) (.tail _ (.tail _ (.tail _ hlS)))) hvs ?_
        rw [hwa, slice_to_codes (by omega), show ((p1.length : Int) + 1 + (j : Int)).toNat = p1.length + 1 + j by omega]
        change wpAny _ _ _ _ _ _
        have hJ' : ∀ bb, longer (p1 ++ p2).cps.toList (p1.length + 1 + j) = bb → (bb = true → (zs ++ [(p1.length : Int) + 1 + j] = [] ↔ ∀ q, q < j + 1 → longer (p1 ++ p2).cps.toList (p1.length + 1 + q) = false)) ∧ (bb = false → (zs = [] ↔ ∀ q, q < j + 1 → longer (p1 ++ p2).cps.toList (p1.length + 1 + q) = false)) := by
          intro bb hbb
          constructor
          · rintro rfl
            constructor
            · intro h; simp at h
            · intro h; have := h j (by omega); rw [hbb] at this; cases this
          · rintro rfl
            rw [hJ]
            constructor
            · intro h q hq
              by_cases e : q = j
              · rw [e, hbb]
              · exact h q (by omega)
            · intro h q hq; exact h q (by omega)
        generalize hbb : sg.contains (List.take (p1.length + 1 + j) (p1 ++ p2).cps.toList) = bb
        have hJ2 := hJ' bb hbb
        clear hJ'
        repeat' (first | (k_unfold; (try dsimp only)) | (k_end; wrow_close) | walk1 | (dsimp only; walk1) | (leave1; walk_say "STEP leave1"; try dsimp only) | fail "no step")
        · rename (bb = true) => e
          exact ⟨_, _, _, rfl, by assumption, by assumption, fun q hq => hq, _, hzs.append (.cons _ _ .nil), hJ2.1 e⟩
        · rename (bb = false) => e
          exact ⟨_, _, _, rfl, by assumption, by assumption, fun q hq => hq, _, hzs, hJ2.2 e⟩
      case fin =>
        rintro ys ⟨zs, hzs, hJ⟩
        intro D7 h7 tk7 F7 N7 off7
        repeat' ((fail_if_success (with_reducible show wpAny _ _ (compareOp _ _ _) _ _ _)); (first | (k_unfold; (try dsimp only)) | (k_end; wrow_close) | walk1 | (dsimp only; walk1) | (leave1; walk_say "STEP leave1"; try dsimp only) | fail "no step"))
        rename Fr _ _ _ _ => lF8
        rename News _ _ _ _ => lN8
        refine ke_ne_ints (ns := zs) (ms := []) (xs := ys) (ys := []) (News.isList lN8 (.tail _ (.head _))) (News.isList lN8 (.head _)) hzs .nil (by show un + 3 + 64 < cLine; omega) ?_
        change wpAny _ _ _ _ _ _
        have hJ2 : ∀ bb, decide (zs = []) = bb → ((∀ (q : Nat), q < 3 - p1.length → longer (p1 ++ p2).cps.toList (p1.length + 1 + q) = false) ↔ bb = true) := by
          intro bb hbb
          rw [← hJ, ← hbb]; simp
        generalize hbb : decide (zs = []) = bb
        replace hJ2 := hJ2 bb hbb
        repeat' ((fail_if_success (with_reducible show wpAny _ _ (subscriptTail _ _ _ _) _ _ _)); (fail_if_success (with_reducible show wpAny _ _ (exec (Stmt.Return _ _) _) _ _ _)); (first | (k_unfold; (try dsimp only)) | (k_end; wrow_close) | walk1 | (dsimp only; walk1) | (leave1; walk_say "STEP leave1"; try dsimp only) | fail "no step"))
        · refine cut_list lF8 lN8 (News.isList lN8 (.tail _ (.tail _ hlM))) (by omega) (by omega) (by rw [PySem.sizeLine_eq, hv.length]; omega) ?_ (by with_unfolding_all rfl) (by intro _; with_unfolding_all rfl)
          clear lF8 lN8
          intro D9 h9 lF9 lN9 lt9
          rw [show ((0 : Int) + (i : Int)).toNat = i by omega, show ((0 : Int) + (i : Int) + 3).toNat - i = 3 by omega] at lN9
          repeat' ((fail_if_success (with_reducible show wpAny _ _ (compareOp _ _ _) _ _ _)); (first | (k_unfold; (try dsimp only)) | (k_end; wrow_close) | walk1 | (dsimp only; walk1) | (leave1; walk_say "STEP leave1"; try dsimp only) | fail "no step"))
          rename Fr _ _ _ _ => lF8
          rename News _ _ _ _ => lN8
          rename (bb = true) => hbt
          have hlong := hJ2.mpr hbt
          have hlong2 : ∀ q, q < 3 - ((cds ps).getD i []).length → longer ((cds ps).getD i [] ++ (cds ps).getD (i + 1) []) (((cds ps).getD i []).length + 1 + q) = false := by
            rw [cds_getD, cds_getD, hg1, hg2, ← app_codes, ← str_len]; exact hlong
          refine st_eq (ns := (ps.drop i).take 3) (ms := [Str.ofString ".", Str.ofString ".", Str.ofString "."]) (News.isList lN8 (.tail _ (.head _))) (News.isList lN8 (.head _)) ((hv.drop' i).take' 3) (.cons _ _ (.cons _ _ (.cons _ _ .nil))) (fun z hz => hok z (List.mem_of_mem_drop (List.mem_of_mem_take hz))) (by decide +kernel) (by show un + 3 + 64 < cLine; omega) ?_
          have hdot := dots_iff ps i
          by_cases hdd : ((cds ps).drop i).take 3 = dot3
          · rw [decide_eq_true (hdot.mp hdd)]
            clear hdot hJ hJ2 hbb hlong
            repeat' ((fail_if_success (with_reducible show wpAny _ _ (compareOp _ _ _) _ _ _)); (first | (k_unfold; (try dsimp only)) | (k_end; wrow_close) | walk1 | (dsimp only; walk1) | (leave1; walk_say "STEP leave1"; try dsimp only) | fail "no step"))
            walk1
            walk1
            dsimp only
            split
            · rename (((b.fdiv _).fmod 2 == 0) = true) => hb2
              repeat' ((fail_if_success (with_reducible show FPost _ _ _ _ _ _ _ _ _ _ _ _ _ _)); (first | walk1 | (dsimp only; walk1)))
              change FPost _ _ _ _ _ _ _ _ _ _ _ _ _ _
              show qk (Flow.ret (Value.bool false)) _
              k_unfold
              dsimp only
              walk1
              refine hret _ [] _ _ (by assumption) (by rename News h₀ L _ _ => kN; exact fun q hq => kN q (.tail _ (.tail _ (.tail _ (.tail _ (.tail _ (.tail _ (List.mem_append_left _ hq)))))))) (fun _ _ _ h => nomatch h) ⟨⟨false, rfl, ?_⟩, rfl⟩
              constructor
              · intro h; cases h
              · intro hF
                have hA := hF i (by unfold cds; rw [List.length_map]; exact hi) hb1
                exact (hA.2 ⟨hdd, by rw [beq_iff_eq] at hb2; rw [show ((0 : Int) + (i : Int) + 1).toNat = i + 1 by omega] at hb2; exact hb2⟩).elim
            · rename (¬ ((b.fdiv _).fmod 2 == 0) = true) => hb2
              repeat' ((fail_if_success (with_reducible show FPost _ _ _ _ _ _ _ _ _ _ _ _ _ _)); (first | walk1 | (dsimp only; walk1)))
              rename Fr _ _ _ _ => zF
              rename News _ _ _ _ => zN
              refine ⟨o4, _, _, _, _, rfl, zF, zN, fun q hq => .tail _ (.tail _ (.tail _ (.tail _ (mem_l q hq)))), fun q hq => .tail _ (.tail _ (.tail _ (.tail _ (mem_o q hq)))), rfl, by kst_all, by kst_same, ⟨_, d4⟩, ?_⟩
              intro k hk
              by_cases e : k = i
              · subst e
                intro _
                refine And.intro hlong2 (fun hh => hb2 ?_)
                rw [beq_iff_eq, show ((0 : Int) + (k : Int) + 1).toNat = k + 1 by omega]; exact hh.2
              · exact hOk k (by omega)
          · rw [decide_eq_false (fun hh => hdd (hdot.mpr hh))]
            clear hdot hJ hJ2 hbb hlong
            repeat' ((fail_if_success (with_reducible show FPost _ _ _ _ _ _ _ _ _ _ _ _ _ _)); (first | walk1 | (dsimp only; walk1)))
            rename Fr _ _ _ _ => zF
            rename News _ _ _ _ => zN
            refine ⟨o4, _, _, _, _, rfl, zF, zN, fun q hq => .tail _ (.tail _ (.tail _ (.tail _ (mem_l q hq)))), fun q hq => .tail _ (.tail _ (.tail _ (.tail _ (mem_o q hq)))), rfl, by kst_all, by kst_same, ⟨_, d4⟩, ?_⟩
            intro k hk
            by_cases e : k = i
            · subst e
              intro _
              exact ⟨hlong2, fun hh => hdd hh.1⟩
            · exact hOk k (by omega)
        · rename (bb = false) => hbf
          repeat' ((fail_if_success (with_reducible show FPost _ _ _ _ _ _ _ _ _ _ _ _ _ _)); (first | walk1 | (dsimp only; walk1)))
          change FPost _ _ _ _ _ _ _ _ _ _ _ _ _ _
          show qk (Flow.ret (Value.bool false)) _
          k_unfold
          dsimp only
          walk1
          refine hret _ [] _ _ (by assumption) (by rename News h₀ L _ _ => kN; exact fun q hq => kN q (.tail _ (.tail _ (.tail _ (.tail _ (List.mem_append_left _ hq)))))) (fun _ _ _ h => nomatch h) ⟨⟨false, rfl, ?_⟩, rfl⟩
          constructor
          · intro h; cases h
          · intro hF
            have hA := hF i (by unfold cds; rw [List.length_map]; exact hi) hb1
            have hh := hJ2.mp (by rw [cds_getD, cds_getD, hg1, hg2, ← app_codes, ← str_len] at hA; exact hA.1)
            rw [hbf] at hh; cases hh
    · rename (¬ (b.fdiv _).fmod 2 = 0) => hb1
      rename Fr _ _ _ _ => zF
      rename News _ _ _ _ => zN
      change FPost _ _ _ _ _ _ _ _ _ _ _ _ _ _
      refine ⟨o, _, _, _, _, rfl, zF, zN, mem_l, mem_o, rfl, by kst_all, by kst_same, ⟨_, hvb⟩, ?_⟩
      intro k hk
      by_cases e : k = i
      · subst e
        intro h
        rw [show ((0 : Int) + (k : Int)).toNat = k by omega] at hb1
        exact absurd h hb1
      · exact hOk k (by omega)
  · rintro o3 u3 h3' tk3 ⟨_, hOk⟩ lF4 lN4
    clear lF2 lN2 rgX
    repeat' ((fail_if_success (with_reducible show wpAny _ _ (exec (Stmt.Return _ _) _) _ _ _)); (first | (k_unfold; (try dsimp only)) | (k_end; wrow_close) | walk1 | (dsimp only; walk1) | (leave1; walk_say "STEP leave1"; try dsimp only) | fail "no step"))
    walk1
    walk1
    show qk (Flow.ret (Value.bool true)) _
    k_unfold
    dsimp only
    walk1
    refine hret _ [] _ _ (by assumption) (by rename News h₀ L _ _ => kN; exact fun q hq => kN q (.tail _ (.tail _ hq))) (fun _ _ _ h => nomatch h) ⟨⟨true, rfl, ?_⟩, rfl⟩
    refine ⟨fun _ => ?_, fun _ => rfl⟩
    intro k hk
    unfold cds at hk
    rw [List.length_map] at hk
    exact hOk k hk
end Mine
end
section
open PySem PySem.W PyProof.Rows
set_option Elab.async false
set_option maxRecDepth 100000
set_option maxHeartbeats 1000000
namespace Mine
local macro_rules | `(tactic| walk_at "eval Call") => `(tactic| ((with_reducible show wpAny _ _ (eval (Expr.Call (Expr.Name (Str.ofString "_is_single_bit") _) _ [] _) _) _ _ _); k_dflt (refine Call_ ?_)))
local macro_rules | `(tactic| walk_at "eval Call") => `(tactic| ((with_reducible show wpAny _ _ (eval (Expr.Call (Expr.Name (Str.ofString "_high_bit") _) _ [] _) _) _ _ _); k_dflt (refine Call_ ?_)))
local macro_rules | `(tactic| walk_at "call ref") => `(tactic| (k_here; (with_reducible show wpAny _ _ (call (Value.ref 21) [Value.int _ _]) _ _ _); k_dflt (refine' Does.use (single_does _ _ _ _) ?k1 ?k2 ?k3 ?k4 ?k5 ?kK ?kd ?ku ?_; (case k1 => k_asm); (case k2 => k_asm); (case k3 => k_asm); (case k4 => k_asm); (case k5 => k_asm); (case kK => first | exact rfl | assumption); (case kd => ktr_room); (case ku => ktr_units)); intro v9 own9 h9 tk9 F9 N9 L9 p9; obtain ⟨e9, f9⟩ := p9; subst e9; subst f9; clear L9; (try simp only [List.nil_append] at N9); (try dsimp only); (try k_sweep)))
local macro_rules | `(tactic| walk_at "call ref") => `(tactic| (k_here; (with_reducible show wpAny _ _ (call (Value.ref 28) [Value.int _ _]) _ _ _); k_dflt (refine' Does.use (high_does _ _ _ _) ?k1 ?k2 ?k3 ?k4 ?k5 ?kK ?kd ?ku ?_; (case k1 => k_asm); (case k2 => k_asm); (case k3 => k_asm); (case k4 => k_asm); (case k5 => k_asm); (case kK => first | exact rfl | assumption); (case kd => ktr_room); (case ku => ktr_units)); intro v9 own9 h9 tk9 F9 N9 L9 p9; obtain ⟨⟨t9, e9⟩, f9⟩ := p9; subst e9; subst f9; clear L9; (try simp only [List.nil_append] at N9); (try dsimp only); (try k_sweep)))
local macro_rules | `(tactic| walk_at "eval Call") => `(tactic| ((with_reducible show wpAny _ _ (eval (Expr.Call (Expr.Name (Str.ofString "_law_read") _) _ [] _) _) _ _ _); k_dflt (refine Call_ ?_)))
local macro_rules | `(tactic| walk_at "eval Call") => `(tactic| ((with_reducible show wpAny _ _ (eval (Expr.Call (Expr.Name (Str.ofString "_law_spaced") _) _ [] _) _) _ _ _); k_dflt (refine Call_ ?_)))
local macro_rules | `(tactic| walk_at "eval Call") => `(tactic| ((with_reducible show wpAny _ _ (eval (Expr.Call (Expr.Name (Str.ofString "_law_fits") _) _ [] _) _) _ _ _); k_dflt (refine Call_ ?_)))
local macro_rules | `(tactic| walk_at "eval Call") => `(tactic| ((with_reducible show wpAny _ _ (eval (Expr.Call (Expr.Name (Str.ofString "_law_sparing") _) _ [] _) _) _ _ _); k_dflt (refine Call_ ?_)))
theorem sparing_does (w : World) (news : List (Addr × Obj)) (ls : Addr) (vss : List Value) (ws : List Str) (cs' : Nat) (l : Addr) (vs : List Value) (ps : List Str) (c : Nat) (lr : Addr) (us : List Value) (rs : List Int) (cr : Nat)
    (hls : (ls, listOf vss.toArray cs') ∈ news) (hvs : StrsAre vss ws) (hws : ws.length = 48) (hwn : ∀ n : Int, (ws.getD (n - 7).toNat Str.empty).length = lenOf n) (hl : (l, listOf vs.toArray c) ∈ news) (hv : StrsAre vs ps) (hlr : (lr, listOf us.toArray cr) ∈ news) (hus : IntsAre us rs) (hrs : rs.length = ps.length) (h1 : 1 ≤ ps.length) (h8 : ps.length ≤ 8) (h3 : ∀ p ∈ ps, p.length ≤ 3) :
    Does 3 w 57 news [.ref ls, .ref l, .ref lr] (fun v own => (∃ t, v = .int (nd (cds ps) rs (ps.length - 1)) t) ∧ own = []) := by
  w_top off; unfold Does; k_fill
  intro mean mg mb dp un gd cn cs a ccd cl outer A₀ base h₀ L m s Q E B F X N T hk hd hu hret
  have kMark : KstMark := kstMark
  refine wpAny_call ?_
  k_dflt cell_enter
  repeat' ((fail_if_success (with_reducible show wpAny _ _ (exec (Stmt.For _ _ _ _ _) _) _ _ _)); (first | (k_unfold; (try dsimp only)) | (k_end; wrow_close) | walk1 | (dsimp only; walk1) | (leave1; walk_say "STEP leave1"; try dsimp only) | fail "no step"))
  rename Fr _ _ _ _ => lF
  with_unfolding_all refine' For_invVF lF ?k1 ?k2 ?_ ?k3 ?k4
  case k1 => exact rfl
  case k2 => exact rfl
  case k3 => intro _; rfl
  case k4 => passes_own
  repeat' ((fail_if_success (with_reducible show wpAny _ _ (call (Value.builtin "len") _) _ _ _)); (first | (k_unfold; (try dsimp only)) | (k_end; wrow_close) | walk1 | (dsimp only; walk1) | (leave1; walk_say "STEP leave1"; try dsimp only) | fail "no step"))
  refine kst_len (by assumption) hl hv.length (by omega) ?_
  repeat' ((fail_if_success (with_reducible show wpAny _ _ (pyIter (Value.ref _)) _ _ _)); (first | (k_unfold; (try dsimp only)) | (k_end; wrow_close) | walk1 | (dsimp only; walk1) | (leave1; walk_say "STEP leave1"; try dsimp only) | fail "no step"))
  rename Fr _ _ _ _ => lF2
  rename News _ _ _ _ => lN2
  rename IsRange _ _ _ _ _ _ _ _ => rgX
  have hn3 : Builtin.Range.rangeSize 1 ps.length 1 = ((ps.length - 1 : Nat) : Int) := by unfold Builtin.Range.rangeSize; simp; omega
  refine for_one (Str.ofString "needed") [Str.ofString "start"] (fun i v => ∃ t, v = .int (nd (cds ps) rs i) t) rfl rgX (small_one (by omega) (by omega) (by omega) (by omega)) hn3 lF2 lN2 rfl ⟨_, rfl⟩ ?_ ?_
  · clear lF2 lN2 rgX
    rintro i _ te u2 h2 tk2 own hi hoff ⟨tf, rfl⟩ lF3 lN3
    have hnr := nd_range (cds ps) rs i
    have hhi := high_lt hnr.1 hnr.2
    have hnd : nd (cds ps) rs (i + 1) = if rd (spc (cut (cds ps) (high (nd (cds ps) rs i) + 1).toNat (i + 2)) 0) = cut rs (high (nd (cds ps) rs i) + 1).toNat (i + 2) then nd (cds ps) rs i else nd (cds ps) rs i + 2 ^ i := rfl
    generalize nd (cds ps) rs i = nn at *
    repeat' ((fail_if_success (with_reducible show wpAny _ _ (subscriptTail _ _ _ _) _ _ _)); (first | (k_unfold; (try dsimp only)) | (k_end; wrow_close) | walk1 | (dsimp only; walk1) | (leave1; walk_say "STEP leave1"; try dsimp only) | fail "no step"))
    rename Fr _ _ _ _ => lF4
    rename News _ _ _ _ => lN4
    refine cut_list lF4 lN4 (News.isList lN4 (List.mem_append_left _ hl)) (by omega) (by omega) (by rw [PySem.sizeLine_eq, hv.length]; omega) ?_ (by with_unfolding_all rfl) (by intro _; with_unfolding_all rfl)
    clear lF4 lN4
    intro D5 h5 lF5 lN5 lt5
    have ea : ((1 : Int) + (i : Int) + 1).toNat = i + 2 := by omega
    rw [ea] at lN5
    have hv5 : StrsAre ((vs.drop (high nn + 1).toNat).take (i + 2 - (high nn + 1).toNat)) (cut ps (high nn + 1).toNat (i + 2)) := (hv.drop' _).take' _
    have hcl := cut_len ps (a := (high nn + 1).toNat) (b := i + 2) (by omega)
    repeat' ((fail_if_success (with_reducible show wpAny _ _ (call (Value.ref 45) _) _ _ _)); (first | (k_unfold; (try dsimp only)) | (k_end; wrow_close) | walk1 | (dsimp only; walk1) | (leave1; walk_say "STEP leave1"; try dsimp only) | fail "no step"))
    rename Fr _ _ _ _ => lF6
    rename News _ _ _ _ => lN6
    k_dflt (refine' Does.use (spaced_does _ _ _ _ _ _ _ _ (.head _) hv5 ?ks1 ?ks2 ?ks3) ?k1 lF6 ?k3 lN6 ?k5 ?kK ?kd ?ku ?_)
    case ks1 => rw [hcl]; omega
    case ks2 => rw [hcl]; omega
    case ks3 => intro q hq; exact h3 q (cut_mem hq)
    case k1 => k_asm
    case k3 => k_asm
    case k5 => k_asm
    case kK => exact rfl
    case kd => ktr_room
    case ku => ktr_units
    clear lF6 lN6
    intro v7 own7 h7 tk7 F7 N7 L7 p7
    obtain ⟨⟨y7, t7, e7, hy7, hyc⟩, f7⟩ := p7
    subst e7; subst f7; clear L7
    simp only [List.nil_append] at N7
    dsimp only
    repeat' ((fail_if_success (with_reducible show wpAny _ _ (call (Value.ref 38) _) _ _ _)); (first | (k_unfold; (try dsimp only)) | (k_end; wrow_close) | walk1 | (dsimp only; walk1) | (leave1; walk_say "STEP leave1"; try dsimp only) | fail "no step"))
    k_dflt (refine' Does.use (read_does _ _ _ _ _ _ _ _ (by omega) (.tail _ (List.mem_append_left _ hls)) hvs hws hwn) ?k1 F7 ?k3 N7 ?k5 ?kK ?kd ?ku ?_)
    case k1 => k_asm
    case k3 => k_asm
    case k5 => k_asm
    case kK => exact rfl
    case kd => ktr_room
    case ku => ktr_units
    clear F7 N7
    intro v8 own8 h8' tk8 F8 N8 L8 p8
    obtain ⟨r8, us8, n8, e8, f8, hI8⟩ := p8
    subst e8; subst f8; clear L8
    simp only [List.cons_append, List.nil_append] at N8
    rw [hyc, cut_cds] at hI8
    dsimp only
    repeat' ((fail_if_success (with_reducible show wpAny _ _ (subscriptTail _ _ _ _) _ _ _)); (first | (k_unfold; (try dsimp only)) | (k_end; wrow_close) | walk1 | (dsimp only; walk1) | (leave1; walk_say "STEP leave1"; try dsimp only) | fail "no step"))
    rename Fr _ _ _ _ => lF9
    rename News _ _ _ _ => lN9
    refine cut_list lF9 lN9 (News.isList lN9 (.tail _ (.tail _ (List.mem_append_left _ hlr)))) (by omega) (by omega) (by rw [PySem.sizeLine_eq, hus.length]; omega) ?_ (by with_unfolding_all rfl) (by intro _; with_unfolding_all rfl)
    clear lF9 lN9
    intro D10 h10 lF10 lN10 lt10
    rw [ea] at lN10
    have hI10 : IntsAre ((us.drop (high nn + 1).toNat).take (i + 2 - (high nn + 1).toNat)) (cut rs (high nn + 1).toNat (i + 2)) := (hus.drop _).take _
    repeat' ((fail_if_success (with_reducible show wpAny _ _ (compareOp _ _ _) _ _ _)); (first | (k_unfold; (try dsimp only)) | (k_end; wrow_close) | walk1 | (dsimp only; walk1) | (leave1; walk_say "STEP leave1"; try dsimp only) | fail "no step"))
    rename Fr _ _ _ _ => lF11
    rename News _ _ _ _ => lN11
    refine ke_ne_ints (News.isList lN11 (.tail _ (.head _))) (News.isList lN11 (.head _)) hI8 hI10 (by show un + 3 + 64 < cLine; omega) ?_
    by_cases heq : rd (spc (cut (cds ps) (high nn + 1).toNat (i + 2)) 0) = cut rs (high nn + 1).toNat (i + 2)
    · rw [decide_eq_true heq]
      rw [if_pos heq] at hnd
      clear heq
      dsimp only
      repeat' ((fail_if_success (with_reducible show FPost _ _ _ _ _ _ _ _ _ _ _ _ _ _)); (first | walk1 | (dsimp only; walk1)))
      rename Fr _ _ _ _ => zF
      rename News _ _ _ _ => zN
      exact ⟨_, _, _, _, _, rfl, zF, zN, fun q hq => .tail _ (.tail _ (.tail _ (List.mem_append_left _ hq))), fun q hq => .tail _ (.tail _ (.tail _ (List.mem_append_right _ hq))), rfl, by kst_all, by kst_same, ⟨_, by rw [hnd]⟩⟩
    · rw [decide_eq_false heq]
      rw [if_neg heq] at hnd
      clear heq
      dsimp only
      repeat' ((fail_if_success (with_reducible show FPost _ _ _ _ _ _ _ _ _ _ _ _ _ _)); (first | walk1 | (dsimp only; walk1)))
      rename Fr _ _ _ _ => zF
      rename News _ _ _ _ => zN
      rw [show ((1 : Int) + (i : Int) - 1).toNat = i by omega] at zF
      exact ⟨_, _, _, _, _, rfl, zF, zN, fun q hq => .tail _ (.tail _ (.tail _ (List.mem_append_left _ hq))), fun q hq => .tail _ (.tail _ (.tail _ (List.mem_append_right _ hq))), rfl, by kst_all, by kst_same, ⟨_, by rw [hnd]⟩⟩
  · rintro _ u3 h3 tk3 ⟨tf, rfl⟩ lF4 lN4
    clear lF2 lN2 rgX
    repeat' (first | (k_unfold; (try dsimp only)) | (k_end; wrow_close) | walk1 | (dsimp only; walk1) | (leave1; walk_say "STEP leave1"; try dsimp only) | fail "no step")
    refine hret _ [] _ _ (by assumption) (by assumption) (fun _ _ _ h => nomatch h) ⟨⟨_, rfl⟩, rfl⟩
end Mine
end
section
open PySem PySem.W PyProof.Rows
set_option Elab.async false
set_option maxRecDepth 100000
set_option maxHeartbeats 8000000
namespace Mine
local macro_rules | `(tactic| walk_at "eval Call") => `(tactic| ((with_reducible show wpAny _ _ (eval (Expr.Call (Expr.Name (Str.ofString "_is_single_bit") _) _ [] _) _) _ _ _); k_dflt (refine Call_ ?_)))
local macro_rules | `(tactic| walk_at "eval Call") => `(tactic| ((with_reducible show wpAny _ _ (eval (Expr.Call (Expr.Name (Str.ofString "_high_bit") _) _ [] _) _) _ _ _); k_dflt (refine Call_ ?_)))
local macro_rules | `(tactic| walk_at "call ref") => `(tactic| (k_here; (with_reducible show wpAny _ _ (call (Value.ref 21) [Value.int _ _]) _ _ _); k_dflt (refine' Does.use (single_does _ _ _ _) ?k1 ?k2 ?k3 ?k4 ?k5 ?kK ?kd ?ku ?_; (case k1 => k_asm); (case k2 => k_asm); (case k3 => k_asm); (case k4 => k_asm); (case k5 => k_asm); (case kK => first | exact rfl | assumption); (case kd => ktr_room); (case ku => ktr_units)); intro v9 own9 h9 tk9 F9 N9 L9 p9; obtain ⟨e9, f9⟩ := p9; subst e9; subst f9; clear L9; (try simp only [List.nil_append] at N9); (try dsimp only); (try k_sweep)))
local macro_rules | `(tactic| walk_at "call ref") => `(tactic| (k_here; (with_reducible show wpAny _ _ (call (Value.ref 28) [Value.int _ _]) _ _ _); k_dflt (refine' Does.use (high_does _ _ _ _) ?k1 ?k2 ?k3 ?k4 ?k5 ?kK ?kd ?ku ?_; (case k1 => k_asm); (case k2 => k_asm); (case k3 => k_asm); (case k4 => k_asm); (case k5 => k_asm); (case kK => first | exact rfl | assumption); (case kd => ktr_room); (case ku => ktr_units)); intro v9 own9 h9 tk9 F9 N9 L9 p9; obtain ⟨⟨t9, e9⟩, f9⟩ := p9; subst e9; subst f9; clear L9; (try simp only [List.nil_append] at N9); (try dsimp only); (try k_sweep)))
local macro_rules | `(tactic| walk_at "eval Call") => `(tactic| ((with_reducible show wpAny _ _ (eval (Expr.Call (Expr.Name (Str.ofString "_law_read") _) _ [] _) _) _ _ _); k_dflt (refine Call_ ?_)))
local macro_rules | `(tactic| walk_at "eval Call") => `(tactic| ((with_reducible show wpAny _ _ (eval (Expr.Call (Expr.Name (Str.ofString "_law_spaced") _) _ [] _) _) _ _ _); k_dflt (refine Call_ ?_)))
local macro_rules | `(tactic| walk_at "eval Call") => `(tactic| ((with_reducible show wpAny _ _ (eval (Expr.Call (Expr.Name (Str.ofString "_law_fits") _) _ [] _) _) _ _ _); k_dflt (refine Call_ ?_)))
local macro_rules | `(tactic| walk_at "eval Call") => `(tactic| ((with_reducible show wpAny _ _ (eval (Expr.Call (Expr.Name (Str.ofString "_law_sparing") _) _ [] _) _) _ _ _); k_dflt (refine Call_ ?_)))
theorem main : PySem.Challenge.rw_rs0064_01.Holds := hd (by
  w_strict (
    k_go0
    (all_goals try k_fold)
    repeat' ((fail_if_success (with_reducible show wpAny _ _ (exec (Stmt.Assign _ (Expr.ListComp _ _ _ _) _) _) _ _ _)); (first | (k_unfold; (try dsimp only)) | (k_end; wrow_close) | walk1 | (dsimp only; walk1) | (leave1; walk_say "STEP leave1"; try dsimp only) | fail "no step"))
    rename IntsAre _ (List.take _ (_ ++ _)) => hI0
    rename News _ _ _ _ => lN
    rename Fr _ _ _ _ => lF
    rename (_ = Txt.words _) => hW
    rename StrsAre _ _ => hS
    obtain ⟨wn, ns, vss, lN', hI, hV, hn4, hn8⟩ := freeze lN hI0 (by split <;> omega) (by have := List.length_take_le 8 (by assumption); split <;> omega) (by split <;> omega) hS (hW.trans words_sgn)
    clear lN hI0 hS hW
    repeat' ((fail_if_success (with_reducible show wpAny _ _ (exec (Stmt.Assign (List.cons (Expr.Name (Str.ofString "pieces") _) _) _ _) _) _ _ _)); (first | (k_unfold; (try dsimp only)) | (k_end; wrow_close) | walk1 | (dsimp only; walk1) | (leave1; walk_say "STEP leave1"; try dsimp only) | fail "no step"))
    rename IntsAre _ (List.map _ _) => hR
    rename Fr _ _ _ _ => lF2
    rename News _ _ _ _ => lN2
    have hRl := hR.length
    rw [List.length_map] at hRl
    with_unfolding_all refine' LCg.Assign_ListComp_U lF2 ?ka ?kb ?kc ?kd ?ke ?kf ?kg ?kh ?ki ?_ ?kj
    case ka => rfl
    case kb => rfl
    case kc => rfl
    case kd => decide
    case ke => rfl
    case kf => decide
    case kg => rfl
    case kh => rfl
    case ki => rfl
    case kj => intro _; rfl
    repeat' ((fail_if_success (with_reducible show LCg.CompSrc _ _ _ _ _ _ _ _ _ _ _ _ _ _)); (first | (k_unfold; (try dsimp only)) | (k_end; wrow_close) | walk1 | (dsimp only; walk1) | (leave1; walk_say "STEP leave1"; try dsimp only) | fail "no step"))
    rename Fr _ _ _ _ => lF3
    rename News _ _ _ _ => lN3
    refine LCg.CompSrc.ledger rfl lF3 lN3 (.head _) (by rw [List.size_toArray, PySem.sizeLine_eq]; omega) ?_
    clear lF3 lN3
    intro g5
    refine restU (n := ns.length) (fun j zs => StrsAre zs ((ns.take j).map fun n => sgn.getD (n.fmod 48).toNat Str.empty)) (.inr ⟨_, .head _, rfl, _, rfl⟩) ?fin ?step _ 0 [] (by rw [List.size_toArray]; omega) .nil
    case step =>
      rintro j zs v I oI C oC D m₂ h6 tk6 E6 hj hJ hv hC hx F6 N6 off6
      obtain ⟨n', t', rfl, hn'⟩ := hR.at j v (by simpa using hv)
      rw [List.getElem?_map, List.getElem?_eq_getElem hj] at hn'
      have hn2 : n' = 7 + ns[j].fmod 48 := (Option.some.inj hn').symm
      clear hn'
      subst hn2
      have hm := mod48 ns[j]
      repeat' ((fail_if_success (with_reducible show wpAny _ _ (subscriptTail _ _ (Value.ref _) _) _ _ _)); (first | (k_unfold; (try dsimp only)) | (k_end; wrow_close) | walk1 | (dsimp only; walk1) | (leave1; walk_say "STEP leave1"; try dsimp only) | fail "no step"))
      refine KTb.item_list (ws := sgn) (News.isList (by assumption) (.tail _ (.tail _ (.tail _ (.tail _ (.tail _ (.head _))))))) hV (by omega) (by rw [sgn_len]; omega) (by omega) ?_
      intro t7 ht7
      change TEnd _ _ _ _ _ _ _ _
      exact ⟨_, _, _, rfl, by assumption, by assumption, fun q hq => hq, snoc_sg hj hJ⟩
    case fin =>
      rintro zs hzs
      rw [List.take_length] at hzs
      repeat' ((fail_if_success (with_reducible show wpAny _ _ (eval (Expr.ListComp _ _ _ _) _) _ _ _)); (first | (k_unfold; (try dsimp only)) | (k_end; wrow_close) | walk1 | (dsimp only; walk1) | (leave1; walk_say "STEP leave1"; try dsimp only) | fail "no step"))
      rename Fr _ _ _ _ => lF4
      rename News _ _ _ _ => lN4
      with_unfolding_all refine' LCg.ListComp_U lF4 ?ka ?kb ?kc ?kd ?ke ?_ ?kf
      case ka => rfl
      case kb => decide
      case kc => rfl
      case kd => decide
      case ke => rfl
      case kf => intro _; rfl
      repeat' ((fail_if_success (with_reducible show LCg.CompSrc _ _ _ _ _ _ _ _ _ _ _ _ _ _)); (first | (k_unfold; (try dsimp only)) | (k_end; wrow_close) | walk1 | (dsimp only; walk1) | (leave1; walk_say "STEP leave1"; try dsimp only) | fail "no step"))
      rename Fr _ _ _ _ => lF5
      rename News _ _ _ _ => lN5
      rename IsRange _ _ _ _ _ _ _ _ => rg5
      have hn5 : Builtin.Range.rangeSize 0 (ns.length - 1) 1 = ((ns.length - 1 : Nat) : Int) := by unfold Builtin.Range.rangeSize; simp; omega
      refine LCg.CompSrc.range rfl lF5 lN5 rg5 (small_one (by omega) (by omega) (by omega) (by omega)) hn5 (by rw [PySem.sizeLine_eq]; omega) ?_
      clear lF5 lN5 rg5
      intro g6
      refine restU (n := ns.length - 1) (fun j zs => IntsAre zs ((List.range j).map (dz ns))) trivial ?fin ?step _ 0 [] (by omega) .nil
      case step =>
        rintro j us v I oI C oC D m₂ h6 tk6 E6 hj hJ ⟨tv, rfl⟩ hC hx F6 N6 off6
        repeat' ((fail_if_success (with_reducible show TEnd _ _ _ _ _ _ _ _)); (first | (k_unfold; (try dsimp only)) | (k_end; wrow_close) | walk1 | (dsimp only; walk1) | (leave1; walk_say "STEP leave1"; try dsimp only) | fail "no step"))
        exact ⟨_, _, _, rfl, by assumption, by assumption, fun q hq => hq, snoc_dz hJ⟩
      case fin =>
        rintro us hus
        repeat' ((fail_if_success (with_reducible show wpAny _ _ (exec (Stmt.Assign (List.cons (Expr.Name (Str.ofString "fits") _) _) _ _) _) _ _ _)); (first | (k_unfold; (try dsimp only)) | (k_end; wrow_close) | walk1 | (dsimp only; walk1) | (leave1; walk_say "STEP leave1"; try dsimp only) | fail "no step"))
        rw [drw_sum] at *
        rename Fr _ _ _ _ => lF6
        rename News _ _ _ _ => lN6
        obtain ⟨ps, rs, dr, e1, e2, e3, hpl, hrl, hp3, hp1, hpok, hpsg, hpf, hdr, hrr⟩ := setting ns hn4 hn8
        rw [← e1] at hzs
        rw [← e2] at hR
        rw [← e3] at lF6
        rw [← hpl] at hn4 hn8
        replace lN6 := shrink lN6
        clear e1 e2 e3 hpl hus hn5 hRl hI
        repeat (rename (_ ≠ _ ∧ _) => kz; clear kz)
        w_top off
        repeat' ((fail_if_success (with_reducible show wpAny _ _ (call (Value.ref 50) _) _ _ _)); (first | (k_unfold; (try dsimp only)) | (k_end; wrow_close) | walk1 | (dsimp only; walk1) | (leave1; walk_say "STEP leave1"; try dsimp only) | fail "no step"))
        rename Fr _ _ _ _ => lF7
        rename News _ _ _ _ => lN7
        k_dflt (refine' Does.use (fits_does _ _ _ _ _ _ _ _ _ _ _ _ (.tail _ (.tail _ (.head _))) hV sgn_any (.head _) hzs ?ks1 ?ks2 hp3 hp1 hpok) ?k1 lF7 ?k3 lN7 ?k5 ?kK ?kd ?ku ?_)
        case ks1 => omega
        case ks2 => omega
        case k1 => k_asm
        case k3 => k_asm
        case k5 => k_asm
        case kK => exact rfl
        case kd => ktr_room
        case ku => ktr_units
        clear lF7 lN7
        intro v7 own7 h7 tk7 F7 N7 L7 p7
        obtain ⟨⟨y7, e7, hy7⟩, f7⟩ := p7
        subst e7; subst f7; clear L7
        simp only [List.nil_append] at N7
        dsimp only
        repeat' ((fail_if_success (with_reducible show wpAny _ _ (call (Value.ref 45) _) _ _ _)); (first | (k_unfold; (try dsimp only)) | (k_end; wrow_close) | walk1 | (dsimp only; walk1) | (leave1; walk_say "STEP leave1"; try dsimp only) | fail "no step"))
        rename Fr _ _ _ _ => lF6
        rename News _ _ _ _ => lN6
        k_dflt (refine' Does.use (spaced_does _ _ _ _ _ _ _ _ (.head _) hzs ?ks1 ?ks2 hp3) ?k1 lF6 ?k3 lN6 ?k5 ?kK ?kd ?ku ?_)
        case ks1 => omega
        case ks2 => omega
        case k1 => k_asm
        case k3 => k_asm
        case k5 => k_asm
        case kK => exact rfl
        case kd => ktr_room
        case ku => ktr_units
        clear lF6 lN6
        intro v8 own8 h8 tk8 F8 N8 L8 p8
        obtain ⟨⟨y8, t8, e8, hy8, hyc8⟩, f8⟩ := p8
        subst e8; subst f8; clear L8
        simp only [List.nil_append] at N8
        dsimp only
        repeat' ((fail_if_success (with_reducible show wpAny _ _ (call (Value.ref 38) _) _ _ _)); (first | (k_unfold; (try dsimp only)) | (k_end; wrow_close) | walk1 | (dsimp only; walk1) | (leave1; walk_say "STEP leave1"; try dsimp only) | fail "no step"))
        rename Fr _ _ _ _ => lF6
        rename News _ _ _ _ => lN6
        k_dflt (refine' Does.use (read_does _ _ _ _ _ _ _ _ (by omega) (.tail _ (.tail _ (.head _))) hV sgn_len sgn_lenOf) ?k1 lF6 ?k3 lN6 ?k5 ?kK ?kd ?ku ?_)
        case k1 => k_asm
        case k3 => k_asm
        case k5 => k_asm
        case kK => exact rfl
        case kd => ktr_room
        case ku => ktr_units
        clear lF6 lN6
        intro v9 own9 h9 tk9 F9 N9 L9 p9
        obtain ⟨r9, us9, n9, e9, f9, hI9⟩ := p9
        subst e9; subst f9; clear L9
        simp only [List.cons_append, List.nil_append] at N9
        rw [hyc8] at hI9
        dsimp only
        repeat' ((fail_if_success (with_reducible show wpAny _ _ (compareOp _ _ _) _ _ _)); (first | (k_unfold; (try dsimp only)) | (k_end; wrow_close) | walk1 | (dsimp only; walk1) | (leave1; walk_say "STEP leave1"; try dsimp only) | fail "no step"))
        rename Fr _ _ _ _ => lF6
        rename News _ _ _ _ => lN6
        refine ke_eq_ints (News.isList lN6 (.head _)) (News.isList lN6 (.tail _ (.tail _ (.head _)))) hI9 hR (by first | (show 0 + 64 < cLine; omega) | decide | ktr_units) ?_
        have hrf := read_fits (ps := cds ps) (by unfold cds; rw [List.length_map]; omega) hpsg dr
        rw [hpf] at hrf
        have hyy : decide (rd (spc (cds ps) dr) = rs) = y7 := by
          rw [Bool.eq_iff_iff, decide_eq_true_iff, hrf, hy7]
        rw [hyy]
        clear hyy hrf
        repeat' ((fail_if_success (with_reducible show wpAny _ _ (compareOp CmpOp.IsNot _ _) _ _ _)); (first | (k_unfold; (try dsimp only)) | (k_end; wrow_close) | walk1 | (dsimp only; walk1) | (leave1; walk_say "STEP leave1"; try dsimp only) | fail "no step"))
        walk1
        rw [show (y7 != y7) = false by simp]
        repeat' ((fail_if_success (with_reducible show wpAny _ _ (call (Value.ref 57) _) _ _ _)); (first | (k_unfold; (try dsimp only)) | (k_end; wrow_close) | walk1 | (dsimp only; walk1) | (leave1; walk_say "STEP leave1"; try dsimp only) | fail "no step"))
        rename Fr _ _ _ _ => lF6
        rename News _ _ _ _ => lN6
        replace lN6 := unhead lN6
        clear hI9 hyc8 hy8
        k_dflt (refine' Does.use (sparing_does _ _ _ _ _ _ _ _ _ _ _ _ _ _ (.tail _ (.tail _ (.head _))) hV sgn_len sgn_lenOf (.head _) hzs (.tail _ (.head _)) hR hrl ?ks1 ?ks2 hp3) ?k1 lF6 ?k3 lN6 ?k5 ?kK ?kd ?ku ?_)
        case ks1 => omega
        case ks2 => omega
        case k1 => k_asm
        case k3 => k_asm
        case k5 => k_asm
        case kK => exact rfl
        case kd => ktr_room
        case ku => ktr_units
        clear lF6 lN6
        intro v10 own10 h10 tk10 F10 N10 L10 p10
        obtain ⟨⟨t10, e10⟩, f10⟩ := p10
        subst e10; subst f10; clear L10
        simp only [List.nil_append] at N10
        dsimp only
        have hcl : 1 ≤ (cds ps).length ∧ (cds ps).length ≤ 8 ∧ (cds ps).length = ps.length := by unfold cds; rw [List.length_map]; omega
        have hg1 := nd_fits (ps := cds ps) hpsg hcl.1 hcl.2.1
        have hg2 := nd_best (ps := cds ps) hpsg hcl.1 hcl.2.1 hdr.1 (by rw [hcl.2.2]; exact hdr.2)
        have hg3 := nd_single (ps := cds ps) (rs := rs) hcl.1 hcl.2.1
        have hg4 := nd_range (cds ps) rs (ps.length - 1)
        rw [hpf, hcl.2.2] at hg1 hg2
        rw [hcl.2.2] at hg3
        generalize nd (cds ps) rs (ps.length - 1) = gd at *
        repeat' ((fail_if_success (with_reducible show wpAny _ _ (call (Value.ref 50) _) _ _ _)); (first | (k_unfold; (try dsimp only)) | (k_end; wrow_close) | walk1 | (dsimp only; walk1) | (leave1; walk_say "STEP leave1"; try dsimp only) | fail "no step"))
        rename Fr _ _ _ _ => lF7
        rename News _ _ _ _ => lN7
        k_dflt (refine' Does.use (fits_does _ _ _ _ _ _ _ _ _ _ _ _ (.tail _ (.tail _ (.head _))) hV sgn_any (.head _) hzs ?ks1 ?ks2 hp3 hp1 hpok) ?k1 lF7 ?k3 lN7 ?k5 ?kK ?kd ?ku ?_)
        case ks1 => omega
        case ks2 => omega
        case k1 => k_asm
        case k3 => k_asm
        case k5 => k_asm
        case kK => exact rfl
        case kd => ktr_room
        case ku => ktr_units
        clear lF7 lN7
        intro v11 own11 h11 tk11 F11 N11 L11 p11
        obtain ⟨⟨y11, e11, hy11⟩, f11⟩ := p11
        have hyt := hy11.mpr hg1
        subst hyt
        subst e11; subst f11; clear L11 hy11
        simp only [List.nil_append] at N11
        dsimp only
        repeat' ((fail_if_success (with_reducible show wpAny _ _ (eval (Expr.ListComp _ _ _ _) _) _ _ _)); (first | (k_unfold; (try dsimp only)) | (k_end; wrow_close) | walk1 | (dsimp only; walk1) | (leave1; walk_say "STEP leave1"; try dsimp only) | fail "no step"))
        rename Fr _ _ _ _ => lF7
        rename News _ _ _ _ => lN7
        w_top off
        with_unfolding_all refine' Assign_cell lF7 ?ka ?kb ?kc ?kd ?ke ?kf ?kg ?kh ?ki ?_ ?kj
        case ka => rfl
        case kb => rfl
        case kc => intro _; rfl
        case kd => intro _; rfl
        case ke => rfl
        case kf => decide
        case kg => intro _ _; rfl
        case kh => rfl
        case ki => rfl
        case kj => intro _; rfl
        repeat' ((fail_if_success (with_reducible show CellSrc _ _ _ _ _ _ _ _ _ _ _ _ _)); (first | (k_unfold; (try dsimp only)) | (k_end; wrow_close) | walk1 | (dsimp only; walk1) | (leave1; walk_say "STEP leave1"; try dsimp only) | fail "no step"))
        rename Fr _ _ _ _ => lF8
        rename News _ _ _ _ => lN8
        try clear lF7
        try clear lN7
        refine ⟨_, _, _, _, fun i ys => IntsAre ys ((two gd dr).take i), rfl, rfl, lF8, lN8, .head _, ⟨rfl, _, rfl⟩, (by show 2 ≤ sizeLine; decide), .nil, ?_⟩
        intro g8
        constructor
        · intro i zs' v I oI C oC c oc D mC h6 tk6 E6 hv hst hC hoc F6 N6 ap
          clear lF8 lN8
          obtain ⟨x, tx, rfl, hx2, hx3⟩ := two_at hv
          clear hv
          repeat' ((fail_if_success (with_reducible show wpAny _ _ (eval (Expr.ListComp _ _ _ _) _) _ _ _)); (first | (k_unfold; (try dsimp only)) | (k_end; wrow_close) | walk1 | (dsimp only; walk1) | (leave1; walk_say "STEP leave1"; try dsimp only) | fail "no step"))
          with_unfolding_all refine' LCg.ListComp_U F6 ?ka ?kb ?kc ?kd ?ke ?_ ?kf
          case ka => rfl
          case kb => decide
          case kc => rfl
          case kd => decide
          case ke => rfl
          case kf => intro _; rfl
          repeat' ((fail_if_success (with_reducible show LCg.CompSrc _ _ _ _ _ _ _ _ _ _ _ _ _ _)); (first | (k_unfold; (try dsimp only)) | (k_end; wrow_close) | walk1 | (dsimp only; walk1) | (leave1; walk_say "STEP leave1"; try dsimp only) | fail "no step"))
          rename Fr _ _ _ _ => lF5
          rename News _ _ _ _ => lN5
          rename IsRange _ _ _ _ _ _ _ _ => rg5
          refine LCg.CompSrc.range rfl lF5 lN5 rg5 (by decide) (n := 7) (by decide) (by rw [PySem.sizeLine_eq]; omega) ?_
          clear lF5 lN5 rg5
          intro g6
          refine restU (n := 7) (fun j us => IntsAre us ((List.range j).map (bit x))) trivial ?fin ?step _ 0 [] (by omega) .nil
          case step =>
            rintro j us v I2 oI2 C2 oC2 D2 m2 h7 tk7 E7 hj hJ ⟨tv, rfl⟩ hC2 hx F7 N7 off7
            repeat' ((fail_if_success (with_reducible show TEnd _ _ _ _ _ _ _ _)); (first | (k_unfold; (try dsimp only)) | (k_end; wrow_close) | walk1 | (dsimp only; walk1) | (leave1; walk_say "STEP leave1"; try dsimp only) | fail "no step"))
            exact ⟨_, _, _, rfl, by assumption, by assumption, fun q hq => hq, snoc_bit hJ⟩
          case fin =>
            rintro us hus
            repeat' ((fail_if_success (with_reducible show TEnd _ _ _ _ _ _ _ _)); (first | (k_unfold; (try dsimp only)) | (k_end; wrow_close) | walk1 | (dsimp only; walk1) | (leave1; walk_say "STEP leave1"; try dsimp only) | fail "no step"))
            exact ⟨_, _, _, rfl, by assumption, by assumption, fun q hq => .tail _ hq, two_snoc hst hx2⟩
        · intro ys' hys
          clear lF8 lN8
          intro D9 h9 tk9 F9 N9 o9
          obtain ⟨t1, t2, rfl⟩ := two_inv hys
          replace N9 := keep3 N9
          clear o9 hys
          w_top off
          have hr0 : 7 ≤ rs.getD 0 0 ∧ rs.getD 0 0 ≤ 54 := hrr _ (mem_getD0 (by omega))
          have hr1 : 7 ≤ rs.getD 1 0 ∧ rs.getD 1 0 ≤ 54 := hrr _ (mem_getD0 (by omega))
          have hsg : single gd = (cnt gd 7 == 1) := by rw [Bool.eq_iff_iff, hg3, beq_iff_eq]
          repeat' ((fail_if_success (with_reducible show wpAny _ _ (compareOp CmpOp.IsNot _ _) _ _ _)); (first | (k_unfold; (try dsimp only)) | (k_end; wrow_close) | walk1 | (dsimp only; walk1) | (leave1; walk_say "STEP leave1"; try dsimp only) | fail "no step"))
          rw [hsg]
          walk1
          rw [show ((cnt gd 7 == 1) != ([cnt gd 7, cnt dr 7].getD (Int.toNat 0) 0 == 1)) = false by simp]
          clear hsg hg3
          repeat' ((fail_if_success (with_reducible show wpAny _ _ (exec (Stmt.Assign (List.cons (Expr.Name (Str.ofString "far") _) _) _ _) _) _ _ _)); (first | (k_unfold; (try dsimp only)) | (k_end; wrow_close) | walk1 | (dsimp only; walk1) | (leave1; walk_say "STEP leave1"; try dsimp only) | fail "no step"))
          have hpl : 14 ≤ rs.getD (Int.toNat 0) 0 + rs.getD (Int.toNat 1) 0 ∧ rs.getD (Int.toNat 0) 0 + rs.getD (Int.toNat 1) 0 ≤ 108 := by
            have e0 : rs.getD (Int.toNat 0) 0 = rs.getD 0 0 := rfl
            have e1 : rs.getD (Int.toNat 1) 0 = rs.getD 1 0 := rfl
            rw [e0, e1]; omega
          generalize rs.getD (Int.toNat 0) 0 + rs.getD (Int.toNat 1) 0 = pl at *
          obtain ⟨p, rfl⟩ : ∃ p : Nat, pl = p := ⟨pl.toNat, by omega⟩
          have hp14 : 14 ≤ p := by omega
          have hp108 : p < 109 := by omega
          clear hpl hr0 hr1 hrr
          repeat' ((fail_if_success (with_reducible show wpAny _ _ (binaryOp Operator.Pow _ _) _ _ _)); (first | (k_unfold; (try dsimp only)) | (k_end; wrow_close) | walk1 | (dsimp only; walk1) | (leave1; walk_say "STEP leave1"; try dsimp only) | fail "no step"))
          refine pow_int_small (by omega) (by omega) (by decide) ?_
          rw [Int.toNat_natCast]
          have hf := far_of hp108 hp14
          generalize (2 : Int) ^ p = f at *
          repeat' ((fail_if_success (with_reducible show wpAny _ _ (eval (Expr.ListComp _ _ _ _) _) _ _ _)); (first | (k_unfold; (try dsimp only)) | (k_end; wrow_close) | walk1 | (dsimp only; walk1) | (leave1; walk_say "STEP leave1"; try dsimp only) | fail "no step"))
          rename Fr _ _ _ _ => lF5
          rename News _ _ _ _ => lN5
          with_unfolding_all refine' LCg.ListComp_U lF5 ?ka ?kb ?kc ?kd ?ke ?_ ?kf
          case ka => rfl
          case kb => decide
          case kc => rfl
          case kd => decide
          case ke => rfl
          case kf => intro _; rfl
          repeat' ((fail_if_success (with_reducible show LCg.CompSrc _ _ _ _ _ _ _ _ _ _ _ _ _ _)); (first | (k_unfold; (try dsimp only)) | (k_end; wrow_close) | walk1 | (dsimp only; walk1) | (leave1; walk_say "STEP leave1"; try dsimp only) | fail "no step"))
          rename Fr _ _ _ _ => lF5
          rename News _ _ _ _ => lN5
          refine LCg.CompSrc.ledger rfl lF5 lN5 (.head _) (by show 4 ≤ sizeLine; decide) ?_
          clear lF5 lN5
          intro g6
          refine restU (n := 4) (fun j us => IntsAre us (((four f).take j).map high)) (.inr ⟨_, .head _, rfl, _, rfl⟩) ?fin ?step _ 0 [] (by rfl) .nil
          case step =>
            rintro j us v I oI C oC D m₂ h6 tk6 E6 hj hJ hv hC hx F6 N6 off6
            obtain ⟨x, tx, rfl, hx4⟩ := four_at hv
            clear hv
            repeat' ((fail_if_success (with_reducible show TEnd _ _ _ _ _ _ _ _)); (first | (k_unfold; (try dsimp only)) | (k_end; wrow_close) | walk1 | (dsimp only; walk1) | (leave1; walk_say "STEP leave1"; try dsimp only) | fail "no step"))
            exact ⟨_, _, _, rfl, by assumption, by assumption, fun q hq => hq, four_high hJ hx4⟩
          case fin =>
            rintro us hus
            repeat' ((fail_if_success (with_reducible show wpAny _ _ (compareOp _ _ _) _ _ _)); (first | (k_unfold; (try dsimp only)) | (k_end; wrow_close) | walk1 | (dsimp only; walk1) | (leave1; walk_say "STEP leave1"; try dsimp only) | fail "no step"))
            rw [far_high hf] at hus
            change wpAny _ _ _ _ _ _
            rename News _ _ _ _ => lN5
            refine ke_ne_ints (ns := [(p : Int), p, (p : Int) - 1, (p : Int) - 1]) (ms := [(p : Int), p, (p : Int) - 1, (p : Int) - 1]) (News.isList lN5 (.tail _ (.head _))) (News.isList lN5 (.head _)) hus (.cons _ _ (.cons _ _ (.cons _ _ (.cons _ _ .nil)))) (by first | decide | ktr_units) ?_
            rw [decide_eq_true rfl]
            repeat' ((fail_if_success (with_reducible show wpAny _ _ (exec (Stmt.If _ _ _ _) _) _ _ _)); (first | (k_unfold; (try dsimp only)) | (k_end; wrow_close) | walk1 | (dsimp only; walk1) | (leave1; walk_say "STEP leave1"; try dsimp only) | fail "no step"))
            replace lN5 := unhead (unhead lN5)
            clear hus
            repeat' ((fail_if_success (with_reducible show wpAny _ _ (eval (Expr.ListComp _ _ _ _) _) _ _ _)); (first | (k_unfold; (try dsimp only)) | (k_end; wrow_close) | walk1 | (dsimp only; walk1) | (leave1; walk_say "STEP leave1"; try dsimp only) | fail "no step"))
            rename Fr _ _ _ _ => lF6
            rename News _ _ _ _ => lN6
            with_unfolding_all refine' LCg.ListComp_U lF6 ?ka ?kb ?kc ?kd ?ke ?_ ?kf
            case ka => rfl
            case kb => decide
            case kc => rfl
            case kd => decide
            case ke => rfl
            case kf => intro _; rfl
            repeat' ((fail_if_success (with_reducible show LCg.CompSrc _ _ _ _ _ _ _ _ _ _ _ _ _ _)); (first | (k_unfold; (try dsimp only)) | (k_end; wrow_close) | walk1 | (dsimp only; walk1) | (leave1; walk_say "STEP leave1"; try dsimp only) | fail "no step"))
            rename Fr _ _ _ _ => lF6
            rename News _ _ _ _ => lN6
            refine LCg.CompSrc.ledger rfl lF6 lN6 (.head _) (by show 4 ≤ sizeLine; decide) ?_
            clear lF6 lN6
            intro g7
            refine restU (n := 4) (fun j us => us = (((four f).take j).map fun x => .bool (single x))) (.inr ⟨_, .head _, rfl, _, rfl⟩) ?fin ?step _ 0 [] (by rfl) rfl
            case step =>
              rintro j us v I oI C oC D m₂ h6 tk6 E6 hj hJ hv hC hx F6 N6 off6
              obtain ⟨x, tx, rfl, hx4⟩ := four_at hv
              clear hv
              repeat' ((fail_if_success (with_reducible show TEnd _ _ _ _ _ _ _ _)); (first | (k_unfold; (try dsimp only)) | (k_end; wrow_close) | walk1 | (dsimp only; walk1) | (leave1; walk_say "STEP leave1"; try dsimp only) | fail "no step"))
              exact ⟨_, _, _, rfl, by assumption, by assumption, fun q hq => hq, four_single hJ hx4⟩
            case fin =>
              rintro us hus
              rw [far_single hf] at hus
              subst hus
              repeat' ((fail_if_success (with_reducible show wpAny _ _ (exec (Stmt.Return _ _) _) _ _ _)); (first | (k_unfold; (try dsimp only)) | (k_end; wrow_close) | walk1 | (dsimp only; walk1) | (leave1; walk_say "STEP leave1"; try dsimp only) | fail "no step"))
              rcases Bool.eq_false_or_eq_true y7 with hyt | hyt
              · have hb := hg2 (hy7.mp hyt)
                subst hyt
                have hle : decide (cnt gd 7 < cnt dr 7 ∨ cnt gd 7 = cnt dr 7 ∧ -gd ≤ -dr) = true := by
                  rw [decide_eq_true_iff]
                  by_cases h : cnt gd 7 = cnt dr 7
                  · have := hb.2 h
                    exact .inr ⟨h, by omega⟩
                  · exact .inl (by omega)
                clear hb
                repeat' ((fail_if_success (with_reducible show wpAny _ _ (compareOp CmpOp.LtE _ _) _ _ _)); (first | (k_unfold; (try dsimp only)) | (k_end; wrow_close) | walk1 | (dsimp only; walk1) | (leave1; walk_say "STEP leave1"; try dsimp only) | fail "no step"))
                change wpAny _ _ _ _ _ _
                rename News _ _ _ _ => lN9
                refine tup_le (x1 := cnt gd 7) (x2 := -gd) (y1 := cnt dr 7) (y2 := -dr) ⟨_, (lN9 _ (.tail _ (.head _))).1, rfl, _, rfl⟩ ⟨_, (lN9 _ (.head _)).1, rfl, _, rfl⟩ (by first | decide | ktr_units) ?_
                rw [hle]
                show qk (Flow.ret (Value.bool true)) _
                k_unfold
                dsimp only
                exact law_true (by assumption) (by assumption) rfl
              · subst hyt
                repeat' ((fail_if_success (with_reducible show qk _ _)); (first | walk1 | (dsimp only; walk1)))
                show qk (Flow.ret (Value.bool true)) _
                k_unfold
                dsimp only
                exact law_true (by assumption) (by assumption) rfl))
end Mine
end
theorem PySem.Challenge.cw_rs0064_01_holds : PySem.Challenge.rw_rs0064_01.Holds := by
  exact Mine.main
