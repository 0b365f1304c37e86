import PyProof.Rows.All
import Wide.All
import OpenK.AllK
import Wide.FinOn
import PyProof.Walk
import PyProof.WalkLemmas
import PyProof.StrLawsIn
import PySem.Challenge.RW_pe0114_01
set_option Elab.async false
set_option linter.unusedVariables false
set_option genInjectivity false
set_option genSizeOf false
set_option genSizeOfSpec false
open PySem PySem.W
local macro_rules | `(tactic| k_all) => `(tactic| assumption)
local macro_rules | `(tactic| k_room) => `(tactic| ktr_room)
local macro_rules | `(tactic| k_units) => `(tactic| ktr_units)
section
theorem Mine.forget_Top1 : True := by
  w_top off
  trivial
open PySem PySem.W PyProof.Rows
namespace Mine
set_option maxRecDepth 100000
set_option maxHeartbeats 8000000
open_top hd for PySem.Challenge.rw_pe0114_01
end Mine
end
section
theorem Mine.forget_MyK : True := by
  w_top off
  trivial
open PySem PySem.W PyProof.Rows PySem.Calls PySem.Spec
set_option maxRecDepth 100000
namespace Mine
/-- a goal that the walk leaves where it stands -/
def Held (P : Prop) : Prop := P
theorem Held.out {P : Prop} (h : Held P) : P := h
theorem Held.put {P : Prop} (h : P) : Held P := h
/-- where it stands in the context the walk does not hold -/
structure HoldOff : Prop where
/-- the frame, told anew by the names that count -/
theorem tidy {h₀ h : Heap} {L : Addr} {m : Str → Option Value} (F : Fr h₀ L h m) (ps : List (Str × Value)) (hk : ∀ p ∈ ps, m p.1 = some p.2) : ∃ u, Fr h₀ L h (kstB u ps) := by
  refine ⟨m, ?_⟩
  have em : kstB m ps = m := by
    funext y
    exact kstB_eq hk fun _ => rfl
  rw [em]
  exact F
/-- where the ways out of a loop meet -/
def JoinA {σ : Type} (h₀ : Heap) (L : Addr) (s : Shared) (Led : σ → List (Addr × Obj)) (ps : σ → List (Str × Value)) (Post : σ → Prop) (s₂ : Shared) : Prop :=
  ∃ (c' : σ) (h' : Heap) (tk : Nat) (m' : Str → Option Value) (news' : List (Addr × Obj)), s₂ = { s with heap := h', toks := tk } ∧ Fr h₀ L h' m' ∧ News h₀ L h' news' ∧ (∀ p ∈ Led c', p ∈ news') ∧ (∀ p ∈ ps c', m' p.1 = some p.2) ∧ Post c'
def EndA {σ : Type} (h₀ : Heap) (L : Addr) (s : Shared) (Led : σ → List (Addr × Obj)) (ps : σ → List (Str × Value)) (P : σ → Prop) (μ : σ → Nat) (Post : σ → Prop) (Q : Flow → Shared → Prop) (c : σ) (f : Flow) (s₂ : Shared) : Prop :=
  match f with
  | .ret v => Q (.ret v) s₂
  | .brk => JoinA h₀ L s Led ps Post s₂
  | _ => JoinA h₀ L s Led ps (fun c' => P c' ∧ μ c' < μ c) s₂
theorem joinA_end {σ : Type} {h₀ : Heap} {L : Addr} {s : Shared} {Led : σ → List (Addr × Obj)} {ps : σ → List (Str × Value)} {m' : Str → Option Value} {Post : σ → Prop} {h' : Heap} {tk : Nat} {news' : List (Addr × Obj)} (c' : σ)
    (F : Fr h₀ L h' m') (N : News h₀ L h' news') (hn : ∀ p ∈ Led c', p ∈ news') (hk : ∀ p ∈ ps c', m' p.1 = some p.2) (hp : Post c') :
    JoinA h₀ L s Led ps Post { s with heap := h', toks := tk } := ⟨c', h', tk, m', news', rfl, F, N, hn, hk, hp⟩
section
variable {prog : Program} {w : World} {A : Around} {E : Value → Shared → Prop} {Q : Flow → Shared → Prop} {s : Shared} {env : Env} {h₀ : Heap} {L : Addr}
theorem while_all {σ : Type} {test : Expr} {body : List Stmt} {pos : Pos} {m₀ : Str → Option Value} (Led : σ → List (Addr × Obj)) (ps : σ → List (Str × Value)) (P : σ → Prop) (μ : σ → Nat) (Post : σ → Prop) (c₀ : σ)
    (F : Fr h₀ L s.heap m₀) (N : News h₀ L s.heap (Led c₀)) (hk : ∀ p ∈ ps c₀, m₀ p.1 = some p.2) (hp : P c₀)
    (turn : ∀ (c : σ) (u : Str → Option Value) h tk, P c → Fr h₀ L h (kstB u (ps c)) → News h₀ L h (Led c) →
      wpAny (model prog w) A (isTrue test env (eval test env)) (fun b s₂ =>
        if b = true then wpAny (model prog w) A (execs body env) (EndA h₀ L s Led ps P μ Post Q c) E s₂ else JoinA h₀ L s Led ps Post s₂) E { s with heap := h, toks := tk })
    (next : ∀ (c : σ) (u : Str → Option Value) h tk, Post c → Fr h₀ L h (kstB u (ps c)) → News h₀ L h (Led c) → Q .next { s with heap := h, toks := tk })
    (hE : PassesOwn (model prog w) A env E := by passes_own) :
    wpAny (model prog w) A (exec (.While test body [] pos) env) Q E s := by
  have fin : ∀ s₂, JoinA h₀ L s Led ps Post s₂ → Q .next s₂ := by
    rintro _ ⟨c', h', tk, m', news', rfl, F, N, hn, hk, hp⟩
    refine next c' m' h' tk hp ?_ fun p q => N p (hn p q)
    have em : kstB m' (ps c') = m' := funext fun y => kstB_eq hk fun _ => rfl
    rw [em]; exact F
  refine While_inv2 (fun n m nx => ∃ c : σ, nx = Led c ∧ μ c = n ∧ (∀ p ∈ ps c, m p.1 = some p.2) ∧ P c) F N ⟨c₀, rfl, rfl, hk, hp⟩ ?_ hE
  rintro n m₁ nx h tk F₁ N₁ ⟨c, hnx, hsz, h1, hp'⟩
  rw [hnx] at N₁
  rw [← hsz]
  have em : kstB m₁ (ps c) = m₁ := funext fun y => kstB_eq h1 fun _ => rfl
  refine wpAny_mono (turn c m₁ h tk hp' (by rw [em]; exact F₁) N₁) (fun b s₂ p => ?_) fun _ _ x => x
  cases b with
  | false => simp only [Bool.false_eq_true, if_false] at p ⊢; exact fin _ p
  | true =>
    simp only [if_true] at p ⊢
    refine wpAny_mono p (fun f s₃ q => ?_) fun _ _ x => x
    cases f with
    | ret v => exact q
    | brk => exact fin _ q
    | next =>
      obtain ⟨c', h', tk', m', news', rfl, F', N', hn, hk9, hp9, hm9⟩ := q
      exact ⟨h', tk', m', Led c', μ c', rfl, F', fun p hp => N' p (hn p hp), hm9, c', rfl, rfl, hk9, hp9⟩
    | cont =>
      obtain ⟨c', h', tk', m', news', rfl, F', N', hn, hk9, hp9, hm9⟩ := q
      exact ⟨h', tk', m', Led c', μ c', rfl, F', fun p hp => N' p (hn p hp), hm9, c', rfl, rfl, hk9, hp9⟩
/-- a cut: the ways of a tree meet -/
theorem cut_all {σ : Type} {t : Sem Flow} {m₀ : Str → Option Value} (_F : Fr h₀ L s.heap m₀) (Led : σ → List (Addr × Obj)) (ps : σ → List (Str × Value)) (Post : σ → Prop)
    (hw : wpAny (model prog w) A t (fun f s₂ => match f with | .next => JoinA h₀ L s Led ps Post s₂ | f => Q f s₂) E s)
    (next : ∀ (c : σ) (u : Str → Option Value) h tk, Post c → Fr h₀ L h (kstB u (ps c)) → News h₀ L h (Led c) → Q .next { s with heap := h, toks := tk }) :
    wpAny (model prog w) A t Q E s := by
  refine wpAny_mono hw (fun f s₂ j => ?_) fun _ _ x => x
  cases f with
  | next =>
    obtain ⟨c', h', tk, m', news', rfl, F, N, hn, hk, hp⟩ := j
    refine next c' m' h' tk hp ?_ fun p q => N p (hn p q)
    have em : kstB m' (ps c') = m' := funext fun y => kstB_eq hk fun _ => rfl
    rw [em]; exact F
  | _ => exact j
end
end Mine
end
section
theorem Mine.forget_MyS : True := by
  w_top off
  trivial
open PySem PySem.W PyProof.Rows PySem.Calls PySem.Spec PySem.Builtin PySem.Builtin.Str
namespace Mine
abbrev lst (x : Str) : List Nat := x.cps.toList
theorem len_lst (x : Str) : x.length = (lst x).length := by simp [Str.length, lst]
theorem str_ext {x y : Str} (h : lst x = lst y) : x = y := by
  cases x; cases y; simp [lst] at h; subst h; rfl
theorem lst_mk (l : List Nat) : lst ⟨l.toArray⟩ = l := by simp [lst]
theorem lst_append (x y : Str) : lst (x ++ y) = lst x ++ lst y := by
  show (x.cps ++ y.cps).toList = _
  simp [lst]
theorem lst_from {x : Str} {i : Int} (h0 : 0 ≤ i) (h1 : i ≤ x.length) : lst (Txt.slice x (some i) none) = (lst x).drop i.toNat := by
  rw [slice_from_eq h0 h1 rfl, lst_mk]
  apply List.take_of_length_le
  rw [List.length_drop, ← len_lst]; (first | lia | omega)
theorem lst_to {x : Str} {j : Int} (h0 : 0 ≤ j) (h1 : j ≤ x.length) : lst (Txt.slice x none (some j)) = (lst x).take j.toNat := by
  rw [eq_of_beq (slice_closes_toL h0 h1), lst_mk]
  simp
theorem lst_to_neg {x : Str} {j : Int} (h0 : j < 0) (h1 : -(x.length : Int) ≤ j) : lst (Txt.slice x none (some j)) = (lst x).take (x.length + j).toNat := by
  rw [slice_to_neg h0, lst_to (by (first | lia | omega)) (by (first | lia | omega))]
  congr 1; (first | lia | omega)
theorem item_at {x : Str} {i : Int} (h0 : 0 ≤ i) (h1 : i < x.length) : Txt.item x i = ⟨#[((lst x)[i.toNat]?).getD 0]⟩ := by
  have h2 : i.toNat < x.cps.size := by simp only [Str.length] at h1; (first | lia | omega)
  have e : seqIndex? i x.length = some i.toNat := by
    unfold seqIndex?
    have : ¬ i < 0 := by (first | lia | omega)
    simp [this, h0, h1]
  unfold Txt.item Txt.charAt
  rw [e]
  simp [lst]
theorem item_neg {x : Str} {i : Int} (h0 : i < 0) (h1 : -(x.length : Int) ≤ i) : Txt.item x i = ⟨#[((lst x)[(x.length + i).toNat]?).getD 0]⟩ := by
  have h2 : (x.length + i).toNat < x.cps.size := by simp only [Str.length] at *; (first | lia | omega)
  have e : seqIndex? i x.length = some (x.length + i).toNat := by
    unfold seqIndex?
    have h3 : 0 ≤ i + (x.length : Int) := by (first | lia | omega)
    have h4 : i + (x.length : Int) < (x.length : Int) := by (first | lia | omega)
    simp [h0, h3, h4]
    (first | lia | omega)
  unfold Txt.item Txt.charAt
  rw [e]
  simp [lst]
theorem slice_all (x : Str) : Txt.slice x none none = x := by
  unfold Txt.slice
  have : (strSliceIndices none none 1 x.length).length = x.length := by
    unfold strSliceIndices sliceRange
    simp
    try (first | lia | omega)
  simp [this]
theorem one_beq {c d : Nat} : ((⟨#[c]⟩ : Str) == ⟨#[d]⟩) = (c == d) := by
  by_cases h : c = d
  · subst h; simp
  · have : (⟨#[c]⟩ : Str) ≠ ⟨#[d]⟩ := by intro e; simp at e; exact h e
    rw [beq_false_of_ne this, beq_false_of_ne h]
end Mine
end
section
theorem Mine.forget_MyP : True := by
  w_top off
  trivial
open PySem PySem.W PyProof.Rows PySem.Calls PySem.Spec
namespace Mine
/-- blocks one behind the other -/
def cat1 {α : Type} : List (List α) → List α
  | [] => []
  | [x] => x
  | x :: y :: r => x ++ cat1 (y :: r)
theorem mem_cat1 {α : Type} {p : α} : ∀ {bs : List (List α)}, p ∈ cat1 bs ↔ ∃ b ∈ bs, p ∈ b
  | [] => by simp [cat1]
  | [x] => by simp [cat1]
  | x :: y :: r => by rw [cat1, List.mem_append, mem_cat1 (bs := y :: r)]; simp
/-- the blocks is of bs lie among the blocks js of bs -/
theorem mem_blk {α : Type} (bs : List (List α)) (is js : List Nat) (h : ∀ i ∈ is, i ∈ js) : ∀ p ∈ cat1 (is.filterMap fun i => bs[i]?), p ∈ cat1 (js.filterMap fun i => bs[i]?) := by
  intro p hp
  obtain ⟨b, hb, hp⟩ := mem_cat1.mp hp
  obtain ⟨i, hi, e⟩ := List.mem_filterMap.mp hb
  exact mem_cat1.mpr ⟨b, List.mem_filterMap.mpr ⟨i, h i hi, e⟩, hp⟩
end Mine
end
section
theorem Mine.forget_MyL : True := by
  w_top off
  trivial
open PySem PySem.W PyProof.Rows PySem.Calls PySem.Spec
set_option maxRecDepth 100000
namespace Mine
/-- the ints a, a + c, .. (n of them) -/
def stepInts (a c : Int) (n : Nat) : List Int := (List.range n).map fun (i : Nat) => a + (i : Int) * c
theorem stepInts_length (a c : Int) (n : Nat) : (stepInts a c n).length = n := by simp [stepInts]
theorem stepInts_succ (a c : Int) (n : Nat) : stepInts a c (n + 1) = a :: stepInts (a + c) c n := by
  unfold stepInts
  rw [List.range_succ_eq_map, List.map_cons, List.map_map]
  congr 1
  · simp
  · apply List.map_congr_left
    intro i _
    simp only [Function.comp]
    push_cast
    rw [Int.add_mul]
    (first | lia | omega)
theorem step_ints : ∀ (vs : List Value) (a c : Int) (n : Nat), vs.length = n → (∀ (j : Nat) (v : Value), vs[j]? = some v → ∃ t, v = .int (a + j * c) t) → IntsAre vs (stepInts a c n)
  | [], a, c, n, e, _ => by
    subst e
    exact IntsAre.nil
  | v :: r, a, c, n, e, h => by
    subst e
    rw [List.length_cons, stepInts_succ]
    obtain ⟨t, ht⟩ := h 0 v rfl
    have hv : v = .int a t := by rw [ht]; simp
    subst hv
    refine IntsAre.cons _ _ (step_ints r (a + c) c r.length rfl fun j v hj => ?_)
    obtain ⟨t', ht'⟩ := h (j + 1) v hj
    refine ⟨t', ht'.trans ?_⟩
    congr 1
    push_cast
    rw [Int.add_mul]
    (first | lia | omega)
section
variable {prog : Program} {w : World} {A : Around} {E : Value → Shared → Prop} {s : Shared} {h₀ : Heap} {L l r : Addr} {m : Str → Option Value} {news : List (Addr × Obj)} {a b c : Int} {t₀ u₀ v₀ : Tok} {n : Nat} {Q : Value → Shared → Prop}
theorem list_range_step (hh : A.handled = none) (F : Fr h₀ L s.heap m) (N : News h₀ L s.heap news) (hr : IsRange s.heap r a b c t₀ u₀ v₀) (hsmall : Builtin.Range.small a b c = true) (hn : Builtin.Range.rangeSize a b c = (n : Int)) (hz : n ≤ 2 ^ 24)
    (h : ∀ D us k h' tk, Fr h₀ L h' m → News h₀ L h' ((D, listOf (List.toArray us) k) :: news) → (∀ p ∈ news, p.1 < D) → IntsAre us (stepInts a c n) → Q (.ref D) { s with heap := h', toks := tk }) :
    wpAny (model prog w) A (call (.type "list") [.ref r]) Q E s := by
  refine call_list_range hh hr hsmall hn hz fun h' tk acc k hk hD hI => ?_
  have hD' : h'.get? s.heap.objs.size = some (listOf (List.toArray acc.toList) k) := by
    rw [Array.toArray_toList]
    exact hD
  exact h _ acc.toList k h' tk (F.keeps hk) (news_pushed F N hk hD' rfl) (fun p hp => Heap.lt_size (N p hp).1) (step_ints _ _ _ _ (by rw [Array.length_toList]; exact hI.1) fun j v hj => hI.2 j v (by rw [← hj, Array.getElem?_toList]))
end
theorem range2_size (n : Nat) : Builtin.Range.rangeSize 2 (2 * ((n : Int) + 1)) 2 = (n : Int) := by
  unfold Builtin.Range.rangeSize
  rw [if_pos (by decide)]
  split <;> (first | lia | omega)
theorem fits_small {i : Int} (h0 : 0 ≤ i) (h1 : i ≤ 100000) : Builtin.Range.rangeFitsLong i = true := by
  unfold Builtin.Range.rangeFitsLong
  rw [Bool.and_eq_true]
  exact ⟨decide_eq_true (by (first | lia | omega)), decide_eq_true (by (first | lia | omega))⟩
theorem range2_small (n : Nat) (h : n ≤ 1000) : Builtin.Range.small 2 (2 * ((n : Int) + 1)) 2 = true := by
  unfold Builtin.Range.small
  rw [range2_size]
  have a1 := fits_small (i := 2) (by (first | lia | omega)) (by (first | lia | omega))
  have a2 := fits_small (i := 2 * ((n : Int) + 1)) (by (first | lia | omega)) (by (first | lia | omega))
  have a3 := fits_small (i := (n : Int)) (by (first | lia | omega)) (by (first | lia | omega))
  have a4 := fits_small (i := 2 * ((n : Int) + 1) + (2 - 1)) (by (first | lia | omega)) (by (first | lia | omega))
  rw [a1, a2, a3, if_pos (by decide), a4, Bool.or_true]
  rfl
end Mine
end
section
theorem Mine.forget_MyR : True := by
  w_top off
  trivial
open PySem PySem.W PyProof.Rows PySem.Calls PySem.Spec
set_option maxRecDepth 100000
namespace Mine
/-- a turn's end of a for -/
def EndR {σ : Type} (h₀ : Heap) (L : Addr) (s : Shared) (Led : σ → List (Addr × Obj)) (ps : σ → List (Str × Value)) (own : List (Addr × Obj)) (adr : List Addr) (P : σ → Prop) (Q : Flow → Shared → Prop) (f : Flow) (s₂ : Shared) : Prop :=
  match f with
  | .ret v => Q (.ret v) s₂
  | .brk => Q .next s₂
  | _ => JoinA h₀ L s (fun c => Led c ++ own) ps (fun c => (Led c).map (·.1) = adr ∧ P c) s₂
section
variable {prog : Program} {w : World} {A : Around} {E : Value → Shared → Prop} {Q : Flow → Shared → Prop} {s : Shared} {env : Env} {h₀ : Heap} {x : Str} {body : List Stmt}
theorem fr_kst {h : Heap} {L : Addr} {m : Str → Option Value} {ps : List (Str × Value)} (F : Fr h₀ L h m) (hk : ∀ p ∈ ps, m p.1 = some p.2) : Fr h₀ L h (kstB m ps) := by
  have em : kstB m ps = m := funext fun y => kstB_eq hk fun _ => rfl
  rw [em]; exact F
theorem endR_up {σ : Type} {Led : σ → List (Addr × Obj)} {ps : σ → List (Str × Value)} {own : List (Addr × Obj)} {adr : List Addr} {P : σ → Prop} {L : Addr} {f : Flow} {s₂ : Shared} {J : (Str → Option Value) → List (Addr × Obj) → Prop}
    (hJ : ∀ c m, (∀ p ∈ ps c, m p.1 = some p.2) → P c → J m (Led c)) (p : EndR h₀ L s Led ps own adr P Q f s₂) : InvPostN h₀ L J own adr s Q f s₂ := by
  cases f with
  | ret v => exact p
  | brk => exact p
  | next =>
    obtain ⟨c', h', tk, m', news', rfl, F', N', hn, hk, ha, hp⟩ := p
    exact ⟨h', tk, m', news', Led c', rfl, F', N', fun q hq => hn q (List.mem_append_left _ hq), fun q hq => hn q (List.mem_append_right _ hq), ha, hJ c' m' hk hp⟩
  | cont =>
    obtain ⟨c', h', tk, m', news', rfl, F', N', hn, hk, ha, hp⟩ := p
    exact ⟨h', tk, m', news', Led c', rfl, F', N', fun q hq => hn q (List.mem_append_left _ hq), fun q hq => hn q (List.mem_append_right _ hq), ha, hJ c' m' hk hp⟩
theorem range_all {σ : Type} {r : Addr} {a₀ b₀ : Int} {t₀ u₀ v₀ : Tok} {n : Nat} {m₀ : Str → Option Value} (Led : σ → List (Addr × Obj)) (ps : σ → List (Str × Value)) (P : Nat → σ → Prop) (c₀ : σ)
    (hh : A.handled = none) (hr : IsRange s.heap r a₀ b₀ 1 t₀ u₀ v₀) (hsmall : Builtin.Range.small a₀ b₀ 1 = true) (hn : Builtin.Range.rangeSize a₀ b₀ 1 = (n : Int)) (F : Fr h₀ env.locals s.heap m₀) (N : News h₀ env.locals s.heap (Led c₀)) (hk : ∀ p ∈ ps c₀, m₀ p.1 = some p.2) (hp : P 0 c₀)
    (turn : ∀ (c : σ) (i : Nat) t (u : Str → Option Value) h tk own, i < n → OwnOff own ((Led c₀).map (·.1)) → P i c →
      Fr h₀ env.locals h (kstB (kstB u (ps c)) [(x, .int (a₀ + i) t)]) → News h₀ env.locals h (Led c ++ own) →
      wpAny (model prog w) A (execs body env) (EndR h₀ env.locals { s with heap := h, toks := tk } Led ps own ((Led c₀).map (·.1)) (P (i + 1)) Q) E { s with heap := h, toks := tk })
    (done : ∀ (c : σ) (u : Str → Option Value) h tk, P n c → Fr h₀ env.locals h (kstB u (ps c)) → News h₀ env.locals h (Led c) → Q .next { s with heap := h, toks := tk }) :
    wpAny (model prog w) A (pyIter (.ref r)) (fun it s₂ => LoopAtV prog w A h₀ env x body Q E it s₂) E s := by
  refine wpAny_pyIter_range hr hsmall ?_
  have W : Walks prog w A s.heap.objs.size [s.heap.objs.size] [s.heap.objs.size] n (fun i v => i < n ∧ ∃ t, v = .int (a₀ + i * 1) t)
      (fun i h => IsRangeIter h s.heap.objs.size (a₀ + (i : Nat) * 1) ((n : Int) - (i : Nat)) 1) := (Walks.range hh _ a₀ 1 n).bound
  refine loop_invN (fun i m nx => ∃ c, nx = Led c ∧ (∀ p ∈ ps c, m p.1 = some p.2) ∧ P i c) W ?_ ?_ ?_ ?_ (by show IsRangeIter _ _ _ _ _; rw [hn]; simpa using Heap.get?_push_size _ rfl) (F.push _) (fun p hp => ⟨Heap.get?_push_of_some _ (N p hp).1, (N p hp).2⟩) ⟨c₀, rfl, hk, hp⟩ ?_ ?_
  · intro hm
    exact absurd F.ns.lt ((List.mem_singleton.mp hm) ▸ Nat.lt_irrefl _)
  · intro b hb
    rw [List.mem_singleton.mp hb]
    exact next_is_new F
  · intro p hp hI
    exact absurd (Heap.lt_size (N p hp).1) ((List.mem_singleton.mp hI) ▸ Nat.lt_irrefl _)
  · intro p hp hI
    exact absurd (Heap.lt_size (N p hp).1) ((List.mem_singleton.mp hI) ▸ Nat.lt_irrefl _)
  · rintro i v m₁ nx h tk own hi ⟨_, t, rfl⟩ _ hoff ⟨c, rfl, hk', hp'⟩ F₁ N₁
    have e1 : a₀ + (i : Int) * 1 = a₀ + (i : Int) := by (first | lia | omega)
    rw [e1] at F₁
    refine wpAny_mono (turn c i t m₁ h tk own hi hoff hp' ?_ N₁) (fun f s₂ p => endR_up (fun c m h1 h2 => ⟨c, rfl, h1, h2⟩) p) fun _ _ e => e
    have em : kstB m₁ (ps c) = m₁ := funext fun y => kstB_eq hk' fun _ => rfl
    rw [em]
    exact F₁
  · rintro m₁ nx h tk ⟨c, rfl, hk', hp'⟩ F₁ N₁
    exact done c m₁ h tk hp' (fr_kst F₁ hk') N₁
end
end Mine
namespace Mine
/-- a contract of a def: what it asks, what it gives back, which ledger it leaves -/
abbrev Ctr (prog : Program) (w : World) (K : Frag) (p : Program) (loose : List Str) (mean : ExcName → Option Value) (mg mb : Str → Option Value) (Xt : Heap → Prop) (f : Addr) (rm : Nat) (news : List (Addr × Obj)) (pre : Prop) (vs : List Value) (Ret : Value → List (Addr × Obj) → Prop) : Prop :=
  ∀ (dp un : Nat) (gd : Option (List Code)) (cn : Str) (cs : Scope) (a : Addr) (ccd : Value) (cl : List (Str × Addr)) (outer : List Env) (A₀ : Around) (base h₀ : Heap) (L : Addr) (m : Str → Option Value) (s : Shared) (Q E : Value → Shared → Prop),
    Xt base → Below A₀ base outer h₀ → Fr h₀ L s.heap m → K.In h₀ → News h₀ L s.heap news → Top p loose mean mg mb h₀ → cs.kind = .function →
    pre → dp + rm < recursionLimit → un + 8 * rm < cLine →
    (∀ v news' h' tk', Ret v news' → Fr h₀ L h' m → News h₀ L h' news' → Q v { s with heap := h', toks := tk' }) →
      codeAny (model prog w) (ktrTop dp un gd cn cs L a ccd cl outer) (.call (.ref f) ⟨vs, []⟩) (fun r s' => match r with | .ok (.ret v) => Q v s' | .ok _ => False | .error e => E e s') s
theorem ctr_use {prog : Program} {w : World} {K : Frag} {p : Program} {loose : List Str} {mean : ExcName → Option Value} {mg mb : Str → Option Value} {Xt : Heap → Prop} {f : Addr} {rm : Nat} {news : List (Addr × Obj)} {pre : Prop} {vs : List Value} {Ret : Value → List (Addr × Obj) → Prop}
    {dp un : Nat} {gd : Option (List Code)} {cn : Str} {cs : Scope} {a : Addr} {ccd : Value} {cl : List (Str × Addr)} {outer : List Env} {A₀ : Around} {base h₀ : Heap} {L : Addr} {m : Str → Option Value} {s : Shared} {Q E : Value → Shared → Prop}
    (C : Ctr prog w K p loose mean mg mb Xt f rm news pre vs Ret) (X0 : Xt base) (B : Below A₀ base outer h₀) (F : Fr h₀ L s.heap m) (X : K.In h₀) (N : News h₀ L s.heap news) (T : Top p loose mean mg mb h₀) (hk : cs.kind = .function)
    (hp : pre) (hd : dp + rm < recursionLimit) (hu : un + 8 * rm < cLine)
    (ret : ∀ v news' h' tk', Ret v news' → Fr h₀ L h' m → News h₀ L h' news' → Q v { s with heap := h', toks := tk' }) :
      wpAny (model prog w) (ktrTop dp un gd cn cs L a ccd cl outer) (call (.ref f) vs) Q E s := wpAny_call (C _ _ _ _ _ _ _ _ _ _ _ _ _ _ _ _ _ X0 B F X N T hk hp hd hu ret)
end Mine
namespace Mine
theorem ret_int {x y : Int} {t : Tok} (h : y = x) : ∃ t', Value.int y t = Value.int x t' := ⟨t, by rw [h]⟩
theorem ret_str {x y : Str} {t : Tok} (h : y = x) : ∃ t', Value.str y t = Value.str x t' := ⟨t, by rw [h]⟩
end Mine
namespace Mine
theorem off_all {own news : List (Addr × Obj)} {D : Addr} {adr : List Addr} (l1 : ∀ p ∈ news, p.1 < D) (ho : OwnOff own adr) (hD : D ∈ adr) : ∀ p ∈ news ++ own, p.1 ≠ D := by
  intro p hp
  rcases List.mem_append.mp hp with h | h
  · exact Nat.ne_of_lt (l1 p h)
  · exact ho p h D hD
theorem off_more {own news : List (Addr × Obj)} {D : Addr} {adr : List Addr} (l1 : ∀ p ∈ news, p.1 ≠ D) (ho : OwnOff own adr) (hD : D ∈ adr) : ∀ p ∈ news ++ own, p.1 ≠ D := by
  intro p hp
  rcases List.mem_append.mp hp with h | h
  · exact l1 p h
  · exact ho p h D hD
end Mine
end
section
theorem Mine.forget_MyLev : True := by
  w_top off
  trivial
open PySem PySem.W PyProof.Rows PySem.Calls PySem.Spec
namespace Mine
def substF (a b : Str) : Int := if a = b then 0 else if Txt.lower a = Txt.lower b then 1 else 2
def cost (c d : Nat) : Nat := (substF ⟨#[c]⟩ ⟨#[d]⟩).toNat
def lev : List Nat → List Nat → Nat
  | [], y => 2 * y.length
  | c :: x, [] => 2 * (x.length + 1)
  | c :: x, d :: y => min (min (lev x (d :: y)) (lev (c :: x) y) + 2) (lev x y + cost c d)
termination_by x y => x.length + y.length
def Dd (y x : List Nat) (j k : Nat) : Int := (lev (y.take j) (x.take k) : Nat)
def rowAt (y x : List Nat) (j : Nat) : List Int := (List.range x.length).map fun k => Dd y x j (k + 1)
def mixAt (y x : List Nat) (j i : Nat) : List Int := (List.range x.length).map fun k => if k < i then Dd y x (j + 1) (k + 1) else Dd y x j (k + 1)
def resAt (y x : List Nat) (j i : Nat) : Int := if i = 0 then (j : Int) * 2 else Dd y x (j + 1) i
end Mine
open PySem PySem.W PyProof.Rows PySem.Calls PySem.Spec
namespace Mine
theorem substF_bd (a b : Str) : 0 ≤ substF a b ∧ substF a b ≤ 2 := by unfold substF; split <;> (try split) <;> decide
theorem cost_le (c d : Nat) : cost c d ≤ 2 := by have := (substF_bd ⟨#[c]⟩ ⟨#[d]⟩); unfold cost; (first | lia | omega)
theorem cost_int (c d : Nat) : (cost c d : Int) = substF ⟨#[c]⟩ ⟨#[d]⟩ := by have := (substF_bd ⟨#[c]⟩ ⟨#[d]⟩); unfold cost; (first | lia | omega)
theorem substF_comm (a b : Str) : substF a b = substF b a := by
  unfold substF
  by_cases h : a = b
  · subst h; rfl
  · rw [if_neg h, if_neg (Ne.symm h)]
    by_cases h2 : Txt.lower a = Txt.lower b
    · rw [if_pos h2, if_pos h2.symm]
    · rw [if_neg h2, if_neg (Ne.symm h2)]
theorem cost_comm (c d : Nat) : cost c d = cost d c := by unfold cost; rw [substF_comm]
theorem cost_self (c : Nat) : cost c c = 0 := by unfold cost substF; rw [if_pos rfl]; rfl
inductive Ed : List Nat → List Nat → Nat → Prop
  | nil : Ed [] [] 0
  | del {c x y n} : Ed x y n → Ed (c :: x) y (n + 2)
  | ins {d x y n} : Ed x y n → Ed x (d :: y) (n + 2)
  | sub {c d x y n} : Ed x y n → Ed (c :: x) (d :: y) (n + cost c d)
theorem lev_nl (y : List Nat) : lev [] y = 2 * y.length := by rw [lev]
theorem lev_nr : ∀ y : List Nat, lev y [] = 2 * y.length
  | [] => by rw [lev]
  | c :: y => by rw [lev]; rfl
theorem lev_cc (c d : Nat) (x y : List Nat) : lev (c :: x) (d :: y) = min (min (lev x (d :: y)) (lev (c :: x) y) + 2) (lev x y + cost c d) := by rw [lev]
theorem Ed.nl : ∀ y : List Nat, Ed [] y (2 * y.length)
  | [] => .nil
  | d :: y => by have := Ed.ins (d := d) (Ed.nl y); rwa [show 2 * y.length + 2 = 2 * (d :: y).length by simp; (first | lia | omega)] at this
theorem Ed.nr : ∀ y : List Nat, Ed y [] (2 * y.length)
  | [] => .nil
  | d :: y => by have := Ed.del (c := d) (Ed.nr y); rwa [show 2 * y.length + 2 = 2 * (d :: y).length by simp; (first | lia | omega)] at this
theorem lev_ed (x y : List Nat) : Ed x y (lev x y) := by
  induction x, y using lev.induct with
  | case1 y => rw [lev_nl]; exact Ed.nl y
  | case2 c x => rw [lev_nr]; exact Ed.nr _
  | case3 c x d y h1 h2 h3 =>
    rw [lev_cc]
    have a1 := Ed.del (c := c) h1
    have a2 := Ed.ins (d := d) h2
    have a3 := Ed.sub (c := c) (d := d) h3
    rcases Nat.le_total (lev x (d :: y)) (lev (c :: x) y) with h | h
    · rw [Nat.min_eq_left h]
      rcases Nat.le_total (lev x (d :: y) + 2) (lev x y + cost c d) with h' | h'
      · rw [Nat.min_eq_left h']; exact a1
      · rw [Nat.min_eq_right h']; exact a3
    · rw [Nat.min_eq_right h]
      rcases Nat.le_total (lev (c :: x) y + 2) (lev x y + cost c d) with h' | h'
      · rw [Nat.min_eq_left h']; exact a2
      · rw [Nat.min_eq_right h']; exact a3
theorem lev_del (c : Nat) (x y : List Nat) : lev (c :: x) y ≤ lev x y + 2 := by
  cases y with
  | nil => rw [lev_nr, lev_nr]; simp; (first | lia | omega)
  | cons d y => rw [lev_cc]; (first | lia | omega)
theorem lev_ins (d : Nat) (x y : List Nat) : lev x (d :: y) ≤ lev x y + 2 := by
  cases x with
  | nil => rw [lev_nl, lev_nl]; simp; (first | lia | omega)
  | cons c x => rw [lev_cc]; (first | lia | omega)
theorem lev_le {x y : List Nat} {n : Nat} (h : Ed x y n) : lev x y ≤ n := by
  induction h with
  | nil => rw [lev_nl]; simp
  | del _ ih => have := lev_del (by assumption) (by assumption) (by assumption); exact Nat.le_trans (lev_del _ _ _) (by (first | lia | omega))
  | ins _ ih => exact Nat.le_trans (lev_ins _ _ _) (by (first | lia | omega))
  | sub _ ih => rw [lev_cc]; (first | lia | omega)
theorem Ed.app {x y x' y' : List Nat} {n m : Nat} (h : Ed x y n) (h' : Ed x' y' m) : Ed (x ++ x') (y ++ y') (n + m) := by
  induction h with
  | nil => simpa using h'
  | @del c x y n _ ih => have := Ed.del (c := c) ih; rw [Nat.add_right_comm] at this; exact this
  | @ins d x y n _ ih => have := Ed.ins (d := d) ih; rw [Nat.add_right_comm] at this; exact this
  | @sub c d x y n _ ih => have := Ed.sub (c := c) (d := d) ih; rw [Nat.add_right_comm] at this; exact this
theorem Ed.to {x y : List Nat} {n m : Nat} (h : Ed x y n) (e : n = m) : Ed x y m := e ▸ h
theorem Ed.rev {x y : List Nat} {n : Nat} (h : Ed x y n) : Ed x.reverse y.reverse n := by
  induction h with
  | nil => exact .nil
  | @del c x y n _ ih => have := ih.app (Ed.del (c := c) .nil); simpa using this
  | @ins d x y n _ ih => have := ih.app (Ed.ins (d := d) .nil); simpa using this
  | @sub c d x y n _ ih => have := ih.app (Ed.sub (c := c) (d := d) .nil); simpa using this
theorem Ed.symm {x y : List Nat} {n : Nat} (h : Ed x y n) : Ed y x n := by
  induction h with
  | nil => exact .nil
  | del _ ih => exact ih.ins
  | ins _ ih => exact ih.del
  | @sub c d x y n _ ih => rw [cost_comm]; exact ih.sub
theorem Ed.same : ∀ x : List Nat, Ed x x 0
  | [] => .nil
  | c :: x => by have := Ed.sub (c := c) (d := c) (Ed.same x); rwa [cost_self] at this
theorem lev_rev (x y : List Nat) : lev x.reverse y.reverse = lev x y := by
  refine Nat.le_antisymm (lev_le (lev_ed x y).rev) ?_
  have := lev_le (lev_ed x.reverse y.reverse).rev
  simpa using this
theorem lev_comm' (x y : List Nat) : lev x y = lev y x := Nat.le_antisymm (lev_le (lev_ed y x).symm) (lev_le (lev_ed x y).symm)
theorem lev_self' (x : List Nat) : lev x x = 0 := Nat.le_zero.mp (lev_le (Ed.same x))
theorem lev_less {x w : List Nat} {n : Nat} (h : Ed x w n) : ∀ {c y}, w = c :: y → lev x y ≤ n + 2 := by
  induction h with
  | nil => intro c y e; cases e
  | @del c' x y' n h ih =>
    intro c y e
    subst e
    have h1 := lev_del c' x y
    have h2 := ih rfl
    (first | lia | omega)
  | @ins d x y' n h ih =>
    intro c y e
    cases e
    have := lev_le h
    (first | lia | omega)
  | @sub c' d x y' n h ih =>
    intro c y e
    cases e
    have h1 := lev_del c' x y'
    have h2 := lev_le h
    (first | lia | omega)
theorem lev_tl (c : Nat) (x y : List Nat) : lev x y ≤ lev x (c :: y) + 2 := lev_less (lev_ed x (c :: y)) rfl
theorem lev_cons (c : Nat) (x y : List Nat) : lev (c :: x) (c :: y) = lev x y := by
  rw [lev_cc, cost_self]
  have h1 := lev_tl c x y
  have h2 := lev_tl c y x
  rw [lev_comm' y x, lev_comm' y (c :: x)] at h2
  (first | lia | omega)
theorem lev_prefix' : ∀ p x y : List Nat, lev (p ++ x) (p ++ y) = lev x y
  | [], _, _ => rfl
  | c :: p, x, y => by rw [List.cons_append, List.cons_append, lev_cons, lev_prefix' p]
theorem lev_suffix' (s x y : List Nat) : lev (x ++ s) (y ++ s) = lev x y := by
  rw [← lev_rev, List.reverse_append, List.reverse_append, lev_prefix', lev_rev]
theorem Ed.ge {x y : List Nat} {n : Nat} (h : Ed x y n) : 2 * (x.length : Int) - 2 * y.length ≤ n := by
  induction h with
  | nil => simp
  | del _ ih => rw [List.length_cons]; push_cast; (first | lia | omega)
  | ins _ ih => rw [List.length_cons]; push_cast; (first | lia | omega)
  | sub _ ih => rw [List.length_cons, List.length_cons]; push_cast; (first | lia | omega)
theorem lev_ge' (x y : List Nat) : 2 * (x.length : Int) - 2 * y.length ≤ lev x y := (lev_ed x y).ge
theorem Ed.mid {y x : List Nat} {n : Nat} (h : Ed y x n) : ∀ i, i ≤ y.length → ∃ k, k ≤ x.length ∧ lev (y.take i) (x.take k) ≤ n := by
  induction h with
  | nil => intro i _; exact ⟨0, Nat.le_refl _, by simp [lev_nl]⟩
  | @del c y x n h ih =>
    intro i hi
    cases i with
    | zero => exact ⟨0, Nat.zero_le _, by simp [lev_nl]⟩
    | succ i =>
      obtain ⟨k, h1, h2⟩ := ih i (by simpa using hi)
      refine ⟨k, h1, ?_⟩
      rw [List.take_succ_cons]
      exact Nat.le_trans (lev_del _ _ _) (by (first | lia | omega))
  | @ins d y x n h ih =>
    intro i hi
    obtain ⟨k, h1, h2⟩ := ih i hi
    refine ⟨k + 1, by simpa using h1, ?_⟩
    rw [List.take_succ_cons]
    exact Nat.le_trans (lev_ins _ _ _) (by (first | lia | omega))
  | @sub c d y x n h ih =>
    intro i hi
    cases i with
    | zero => exact ⟨0, Nat.zero_le _, by simp [lev_nl]⟩
    | succ i =>
      obtain ⟨k, h1, h2⟩ := ih i (by simpa using hi)
      refine ⟨k + 1, by simpa using h1, ?_⟩
      rw [List.take_succ_cons, List.take_succ_cons, lev_cc]
      (first | lia | omega)
theorem lev_row' (y x : List Nat) (j : Nat) (mc : Int) (hx : 0 < x.length) (hj : j < y.length) (h : ∀ k, k < x.length → mc < Dd y x (j + 1) (k + 1)) : mc < lev y x := by
  obtain ⟨k, h1, h2⟩ := (lev_ed y x).mid (j + 1) hj
  cases k with
  | succ k =>
    have := h k h1
    unfold Dd at this
    (first | lia | omega)
  | zero =>
    have h3 := h 0 hx
    unfold Dd at h3
    rw [List.take_zero, lev_nr, List.length_take] at h2
    have h4 : lev (y.take (j + 1)) (x.take (0 + 1)) ≤ 2 * (j + 1) := by
      cases hy : y with
      | nil => rw [hy] at hj; simp at hj
      | cons c y' =>
        cases hx' : x with
        | nil => rw [hx'] at hx; simp at hx
        | cons d x' =>
          rw [List.take_succ_cons, List.take_succ_cons, List.take_zero, lev_cc, lev_nr (y'.take j)]
          have := cost_le c d
          have h5 : (y'.take j).length ≤ j := List.length_take_le _ _
          (first | lia | omega)
    (first | lia | omega)
theorem D_zero' (y x : List Nat) (j : Nat) (h : j ≤ y.length) : Dd y x j 0 = (j : Int) * 2 := by
  unfold Dd
  rw [List.take_zero, lev_nr, List.length_take]
  (first | lia | omega)
theorem lev_snoc (x y : List Nat) (c d : Nat) : lev (x ++ [c]) (y ++ [d]) = min (min (lev x (y ++ [d])) (lev (x ++ [c]) y) + 2) (lev x y + cost c d) := by
  have e : ∀ (z : List Nat) (c : Nat), (z ++ [c]).reverse = c :: z.reverse := fun z c => by simp
  rw [← lev_rev (x ++ [c]), e, e, lev_cc, ← e, ← e, lev_rev, lev_rev, lev_rev]
theorem take_snoc {l : List Nat} {i : Nat} (h : i < l.length) : l.take (i + 1) = l.take i ++ [(l[i]?).getD 0] := by
  rw [List.take_add_one, List.getElem?_eq_getElem h]; rfl
theorem nmin (a b : Nat) : ((min a b : Nat) : Int) = min (a : Int) b := by
  rcases Nat.le_total a b with h | h
  · rw [Nat.min_eq_left h, Int.min_eq_left (Int.ofNat_le.mpr h)]
  · rw [Nat.min_eq_right h, Int.min_eq_right (Int.ofNat_le.mpr h)]
theorem imin_add (a b k : Int) : min (a + k) (b + k) = min a b + k := by
  rcases Int.le_total a b with h | h
  · rw [Int.min_eq_left h, Int.min_eq_left (Int.add_le_add_right h k)]
  · rw [Int.min_eq_right h, Int.min_eq_right (Int.add_le_add_right h k)]
theorem cast_three (p q r c : Nat) : ((min (min p q + 2) (r + c) : Nat) : Int) = min (min (q : Int) p + 2) (r + c) := by
  rw [nmin, Int.natCast_add, nmin, Int.natCast_add, Int.min_comm (p : Int)]
  rfl
theorem cast_three2 (p q r c : Nat) (k : Int) (hk : (c : Int) = k) : min (min ((p : Int) + 2) ((q : Int) + 2)) ((r : Int) + k) = ((min (min p q + 2) (r + c) : Nat) : Int) := by
  rw [cast_three, imin_add, Int.min_comm (p : Int), hk]
theorem d_zero (b j c : Nat) (h : c ≤ 2) : ((min (min b (2 * (j + 1)) + 2) (2 * j + c) : Nat) : Int) = min (min ((j : Int) * 2) b + 2) ((j : Int) * 2 + c) := by lia
theorem D_step' (y x : Str) (j i : Nat) (hj : j < y.length) (hi : i < x.length) :
    Dd (lst y) (lst x) (j + 1) (i + 1) = min (min (resAt (lst y) (lst x) j i) (Dd (lst y) (lst x) j (i + 1)) + 2) (Dd (lst y) (lst x) j i + substF (Txt.item y j) (Txt.item x i)) := by
  have hj' : j < (lst y).length := by rw [← len_lst]; exact hj
  have hi' : i < (lst x).length := by rw [← len_lst]; exact hi
  have hs := lev_snoc ((lst y).take j) ((lst x).take i) ((lst y)[j]?.getD 0) ((lst x)[i]?.getD 0)
  rw [← take_snoc hj', ← take_snoc hi'] at hs
  rw [item_at (by (first | lia | omega)) (by (first | lia | omega)), item_at (by (first | lia | omega)) (by (first | lia | omega)), Int.toNat_natCast, Int.toNat_natCast, ← cost_int]
  have hc := cost_le ((lst y)[j]?.getD 0) ((lst x)[i]?.getD 0)
  unfold resAt
  by_cases h0 : i = 0
  · subst h0
    rw [if_pos rfl, D_zero' _ _ _ (by (first | lia | omega))]
    unfold Dd
    have e1 : lev ((lst y).take j) ((lst x).take 0) = 2 * j := by rw [List.take_zero, lev_nr, List.length_take, Nat.min_eq_left (Nat.le_of_lt hj')]
    have e2 : lev ((lst y).take (j + 1)) ((lst x).take 0) = 2 * (j + 1) := by rw [List.take_zero, lev_nr, List.length_take, Nat.min_eq_left (Nat.succ_le_of_lt hj')]
    rw [hs, e1, e2]
    exact d_zero _ _ _ hc
  · rw [if_neg h0]
    unfold Dd
    rw [hs, cast_three]
theorem row_start' (y x : List Nat) : stepInts 2 2 x.length = rowAt y x 0 := by
  unfold stepInts rowAt
  apply List.map_congr_left
  intro k hk
  have := List.mem_range.mp hk
  unfold Dd
  rw [List.take_zero, lev_nl, List.length_take]
  (first | lia | omega)
theorem mix_start' (y x : List Nat) (j : Nat) : mixAt y x j 0 = rowAt y x j := by
  unfold mixAt rowAt
  apply List.map_congr_left
  intro k _
  rw [if_neg (by (first | lia | omega))]
theorem mix_end' (y x : List Nat) (j : Nat) : mixAt y x j x.length = rowAt y x (j + 1) := by
  unfold mixAt rowAt
  apply List.map_congr_left
  intro k hk
  rw [if_pos (List.mem_range.mp hk)]
theorem mix_get' (y x : List Nat) (j i : Nat) (h : i < x.length) : (mixAt y x j i).getD i 0 = Dd y x j (i + 1) := by
  unfold mixAt
  rw [List.getD_eq_getElem?_getD, List.getElem?_map, List.getElem?_range h]
  simp
theorem mix_set' (y x : List Nat) (j i : Nat) (h : i < x.length) : (mixAt y x j i).set i (Dd y x (j + 1) (i + 1)) = mixAt y x j (i + 1) := by
  apply List.ext_getElem
  · simp [mixAt]
  · intro k h1 h2
    rw [List.getElem_set]
    simp only [mixAt, List.getElem_map, List.getElem_range]
    by_cases e : i = k
    · subst e; simp
    · rw [if_neg e]
      by_cases e2 : k < i
      · rw [if_pos e2, if_pos (by (first | lia | omega))]
      · rw [if_neg e2, if_neg (by (first | lia | omega))]
end Mine

namespace Mine
theorem row_start (y x : List Nat) : stepInts 2 2 x.length = rowAt y x 0 := row_start' y x
theorem mix_start (y x : List Nat) (j : Nat) : mixAt y x j 0 = rowAt y x j := mix_start' y x j
theorem mix_end (y x : List Nat) (j : Nat) : mixAt y x j x.length = rowAt y x (j + 1) := mix_end' y x j
theorem mix_len (y x : List Nat) (j i : Nat) : (mixAt y x j i).length = x.length := by simp [mixAt]
theorem mix_get (y x : List Nat) (j i : Nat) (h : i < x.length) : (mixAt y x j i).getD i 0 = Dd y x j (i + 1) := mix_get' y x j i h
theorem mix_set (y x : List Nat) (j i : Nat) (h : i < x.length) : (mixAt y x j i).set i (Dd y x (j + 1) (i + 1)) = mixAt y x j (i + 1) := mix_set' y x j i h
theorem D_zero (y x : List Nat) (j : Nat) (h : j ≤ y.length) : Dd y x j 0 = (j : Int) * 2 := D_zero' y x j h
theorem D_step (y x : Str) (j i : Nat) (hj : j < y.length) (hi : i < x.length) :
    Dd (lst y) (lst x) (j + 1) (i + 1) = min (min (resAt (lst y) (lst x) j i) (Dd (lst y) (lst x) j (i + 1)) + 2) (Dd (lst y) (lst x) j i + substF (Txt.item y j) (Txt.item x i)) := D_step' y x j i hj hi
end Mine
namespace Mine
theorem dp_val (y x : Str) (j i : Nat) (hj : j < y.length) (hi : i < x.length) (dist res : Int) (ns : List Int) (hns : ns = mixAt (lst y) (lst x) j i) (hdist : dist = Dd (lst y) (lst x) j i) (hres : res = resAt (lst y) (lst x) j i) :
    (if dist + substF (Txt.item y (0 + (j : Int))) (Txt.item x (0 + (i : Int))) < (if ns.getD (0 + (i : Int)).toNat 0 < res then ns.getD (0 + (i : Int)).toNat 0 else res) + 2 then dist + substF (Txt.item y (0 + (j : Int))) (Txt.item x (0 + (i : Int)))
      else (if ns.getD (0 + (i : Int)).toNat 0 < res then ns.getD (0 + (i : Int)).toNat 0 else res) + 2) = Dd (lst y) (lst x) (j + 1) (i + 1) := by
  have e : (0 + (i : Int)).toNat = i := by (first | lia | omega)
  rw [e, hns, mix_get _ _ _ _ (by rw [← len_lst]; exact hi), hdist, hres, D_step y x j i hj hi, Int.zero_add, Int.zero_add]
  generalize resAt (lst y) (lst x) j i = r
  generalize Dd (lst y) (lst x) j (i + 1) = d
  generalize Dd (lst y) (lst x) j i + substF (Txt.item y j) (Txt.item x i) = q
  split <;> split <;> (first | lia | omega)
theorem dp_get (y x : Str) (j i : Nat) (hi : i < x.length) (ns : List Int) (hns : ns = mixAt (lst y) (lst x) j i) : ns.getD (0 + (i : Int)).toNat 0 = Dd (lst y) (lst x) j (i + 1) := by
  have e : (0 + (i : Int)).toNat = i := by (first | lia | omega)
  rw [e, hns, mix_get _ _ _ _ (by rw [← len_lst]; exact hi)]
theorem dp_set (y x : Str) (j i : Nat) (hi : i < x.length) (ns : List Int) (hns : ns = mixAt (lst y) (lst x) j i) : ns.set (0 + (i : Int)).toNat (Dd (lst y) (lst x) (j + 1) (i + 1)) = mixAt (lst y) (lst x) j (i + 1) := by
  have e : (0 + (i : Int)).toNat = i := by (first | lia | omega)
  rw [e, hns, mix_set _ _ _ _ (by rw [← len_lst]; exact hi)]
theorem dp_res (y x : Str) (j i : Nat) : Dd (lst y) (lst x) (j + 1) (i + 1) = resAt (lst y) (lst x) j (i + 1) := by
  unfold resAt; rw [if_neg (by (first | lia | omega))]
theorem dp_min1 {d : Nat → Int} {i : Nat} {mn : Int} (hm : ∀ k, k < i → mn ≤ d k) (h : d i < mn) : ∀ k, k < i + 1 → d i ≤ d k := by
  intro k hk
  rcases Nat.lt_succ_iff_lt_or_eq.mp hk with h1 | h1
  · have := hm k h1; (first | lia | omega)
  · subst h1; (first | lia | omega)
theorem dp_min2 {d : Nat → Int} {i : Nat} {mn : Int} (hm : ∀ k, k < i → mn ≤ d k) (h : ¬ d i < mn) : ∀ k, k < i + 1 → mn ≤ d k := by
  intro k hk
  rcases Nat.lt_succ_iff_lt_or_eq.mp hk with h1 | h1
  · exact hm k h1
  · subst h1; (first | lia | omega)
end Mine
namespace Mine
def LevOk (a b : Str) (mc r : Int) : Prop := (lev (lst a) (lst b) : Int) = r ∨ (mc < r ∧ mc < (lev (lst a) (lst b) : Int))
def P1 (a b : Str) (pre : Int) : Prop := 0 ≤ pre ∧ pre ≤ a.length ∧ pre ≤ b.length ∧ (lst a).take pre.toNat = (lst b).take pre.toNat
def P2 (a b : Str) (post : Int) : Prop := post ≤ 0 ∧ -post ≤ a.length ∧ -post ≤ b.length ∧ (lst a).drop (a.length + post).toNat = (lst b).drop (b.length + post).toNat
theorem lev_self (x : List Nat) : lev x x = 0 := lev_self' x
theorem lev_comm (x y : List Nat) : lev x y = lev y x := lev_comm' x y
theorem lev_prefix (p x y : List Nat) : lev (p ++ x) (p ++ y) = lev x y := lev_prefix' p x y
theorem lev_suffix (s x y : List Nat) : lev (x ++ s) (y ++ s) = lev x y := lev_suffix' s x y
theorem lev_nil_left (y : List Nat) : lev [] y = 2 * y.length := lev_nl y
theorem lev_nil_right (y : List Nat) : lev y [] = 2 * y.length := lev_nr y
theorem lev_ge (x y : List Nat) : 2 * (x.length : Int) - 2 * y.length ≤ lev x y := lev_ge' x y
theorem lev_row (y x : List Nat) (j : Nat) (mc : Int) (hx : 0 < x.length) (hj : j < y.length) (h : ∀ k, k < x.length → mc < Dd y x (j + 1) (k + 1)) : mc < lev y x := lev_row' y x j mc hx hj h
theorem D_full (y x : List Nat) : Dd y x y.length x.length = lev y x := by simp [Dd]
theorem lev_strip {a b a1 b1 a2 b2 : Str} {pre post : Int} (h1 : P1 a b pre) (hA : Txt.slice a (some pre) none = a1) (hB : Txt.slice b (some pre) none = b1) (h2 : P2 a1 b1 post)
    (hc : lst a2 = (lst a1).take (a1.length + post).toNat) (hd : lst b2 = (lst b1).take (b1.length + post).toNat) : lev (lst a) (lst b) = lev (lst a2) (lst b2) := by
  obtain ⟨p0, p1, p2, p3⟩ := h1
  obtain ⟨q0, q1, q2, q3⟩ := h2
  have ea : lst a = (lst a).take pre.toNat ++ lst a1 := by rw [← hA, lst_from p0 p1, List.take_append_drop]
  have eb : lst b = (lst a).take pre.toNat ++ lst b1 := by rw [← hB, lst_from p0 p2, p3, List.take_append_drop]
  have ea1 : lst a1 = lst a2 ++ (lst a1).drop (a1.length + post).toNat := by rw [hc, List.take_append_drop]
  have eb1 : lst b1 = lst b2 ++ (lst a1).drop (a1.length + post).toNat := by rw [q3, hd, List.take_append_drop]
  rw [ea, eb, lev_prefix, ea1, eb1, lev_suffix]
theorem ok_same {a b : Str} {mc : Int} (h : (a == b) = true) : LevOk a b mc 0 := by
  rw [eq_of_beq h]
  exact .inl (by rw [lev_self]; rfl)
theorem ok_one {a b a2 b2 : Str} {mc : Int} (hL : lev (lst a) (lst b) = lev (lst a2) (lst b2)) (h : a2.length = 0 ∨ b2.length = 0) : LevOk a b mc (2 * (a2.length + b2.length)) := by
  refine .inl ?_
  rw [hL]
  rcases h with h | h
  · have : lst a2 = [] := List.eq_nil_of_length_eq_zero (by rw [← len_lst]; exact h)
    rw [this, lev_nil_left, ← len_lst, h]; push_cast; (first | lia | omega)
  · have : lst b2 = [] := List.eq_nil_of_length_eq_zero (by rw [← len_lst]; exact h)
    rw [this, lev_nil_right, ← len_lst, h]; push_cast; (first | lia | omega)
theorem ok_far {a b x y : Str} {mc : Int} (hL : lev (lst a) (lst b) = lev (lst y) (lst x)) (h : mc < ((y.length : Int) - x.length) * 2) : LevOk a b mc (mc + 1) := by
  refine .inr ⟨by (first | lia | omega), ?_⟩
  rw [hL]
  have := lev_ge (lst y) (lst x)
  rw [← len_lst, ← len_lst] at this
  (first | lia | omega)
theorem ok_row {a b x y : Str} {mc mn : Int} {j : Nat} (hL : lev (lst a) (lst b) = lev (lst y) (lst x)) (hx : 0 < x.length) (hj : j < y.length) (hm : ∀ k, k < x.length → mn ≤ Dd (lst y) (lst x) (j + 1) (k + 1)) (h : mc < mn) : LevOk a b mc (mc + 1) := by
  refine .inr ⟨by (first | lia | omega), ?_⟩
  rw [hL]
  refine lev_row _ _ j mc (by rw [← len_lst]; exact hx) (by rw [← len_lst]; exact hj) fun k hk => ?_
  have := hm k (by rw [len_lst]; exact hk)
  (first | lia | omega)
theorem ok_done {a b x y : Str} {mc r : Int} (hL : lev (lst a) (lst b) = lev (lst y) (lst x)) (h : r = Dd (lst y) (lst x) y.length x.length) : LevOk a b mc r := by
  refine .inl ?_
  rw [hL, h, len_lst, len_lst, D_full]
theorem lev_swap {a2 b2 x y : Str} (h : (x = a2 ∧ y = b2) ∨ (x = b2 ∧ y = a2)) : lev (lst a2) (lst b2) = lev (lst y) (lst x) := by
  rcases h with ⟨rfl, rfl⟩ | ⟨rfl, rfl⟩
  · exact lev_comm _ _
  · rfl
end Mine
end
section
theorem Mine.forget_MyF : True := by
  w_top off
  trivial
open PySem PySem.W PyProof.Rows PySem.Calls PySem.Spec PySem.Builtin PySem.Builtin.ObjectAttr
set_option maxRecDepth 100000
set_option maxHeartbeats 2000000
namespace Mine
theorem slot_fn_setattr : Slot "function" (Str.ofString "__setattr__") "object.__setattr__" :=
  .of (owner := "object") (n := "__setattr__") (by rw [typeLookup_type, builtinLookup_eq_fast]; kernel_rfl) (by decide +kernel) (by decide +kernel) (by decide +kernel)
    (by first | exact .inl (by decide +kernel) | exact .inr (by decide +kernel)) (by rw [isSubtype_type]; kernel_rfl)
theorem entry_setattr : entryFor table "object.__setattr__" = some Builtin.«object.__setattr__» := entryFor_of_fast (by kernel_rfl)
theorem fn_read : typeLookup (.type "function") (Str.ofString "read") = pure none := by rw [typeLookup_type, builtinLookup_eq_fast]; kernel_rfl
theorem slot_ci_next : Slot "callable_iterator" (Str.ofString "__next__") "callable_iterator.__next__" :=
  .of (owner := "callable_iterator") (n := "__next__") (by rw [typeLookup_type, builtinLookup_eq_fast]; kernel_rfl) (by decide +kernel) (by decide +kernel) (by decide +kernel)
    (by first | exact .inl (by decide +kernel) | exact .inr (by decide +kernel)) (by rw [isSubtype_type]; kernel_rfl)
theorem slot_ci_iter : Slot "callable_iterator" (Str.ofString "__iter__") "callable_iterator.__iter__" :=
  .of (owner := "callable_iterator") (n := "__iter__") (by rw [typeLookup_type, builtinLookup_eq_fast]; kernel_rfl) (by decide +kernel) (by decide +kernel) (by decide +kernel)
    (by first | exact .inl (by decide +kernel) | exact .inr (by decide +kernel)) (by rw [isSubtype_type]; kernel_rfl)
theorem entry_ci_next : entryFor table "callable_iterator.__next__" = some Builtin.«callable_iterator.__next__» := entryFor_of_fast (by kernel_rfl)
end Mine
end
section
theorem Mine.forget_MyA : True := by
  w_top off
  trivial
open PySem PySem.W PyProof.Rows PySem.Calls PySem.Spec PySem.Builtin PySem.Builtin.ObjectAttr
set_option maxRecDepth 100000
set_option maxHeartbeats 2000000
namespace Mine
section
variable {prog : Program} {w : World} {A : Around} {E : Value → Shared → Prop} {s : Shared} {Q : Unit → Shared → Prop}
theorem setAttr_fn {f : Addr} {fd : FuncData} {v : Value} (hf : s.heap.get? f = some { cls := .type "function", data := .func fd })
   (h : ∀ d hsh tk kt h', d = s.heap.objs.size → h'.get? d = some (dictOf [⟨hsh, .str (Str.ofString "read") kt, v⟩] 1) → h'.get? f = some { cls := .type "function", dict := some d, data := .func fd } →
      (∀ b o, b ≠ f → s.heap.get? b = some o → h'.get? b = some o) → Q () { s with heap := h', toks := tk }) : wpAny (model prog w) A (setAttr (.ref f) (Str.ofString "read") v) Q E s := by
  have hT : ∀ tk, ({ s with toks := tk } : Shared).TypeIs (.ref f) "function" := fun _ => ⟨_, hf, rfl⟩
  have hr := fn_read
  unfold setAttr
  refine wpAny_bind (wpAny_mkText (wpAny_bind (wpAny_callSpecial?_slot (T := "function") (hT _) slot_fn_setattr (wpAny_call_entry slot_fn_setattr (hT _) entry_setattr ?_ (by kernel_rfl)))))
  unfold Builtin.«object.__setattr__»
  wp_walk
  refine wpAny_askSetting ?_
  wp_walk
  have hlt := Heap.lt_size hf
  have hne : f ≠ s.heap.objs.size := fun e => absurd hlt (by rw [e]; exact Nat.lt_irrefl _)
  have hD : ((s.heap.push { cls := Value.type "dict", data := Data.dict #[] }).update f fun o => { cls := o.cls, dict := some s.heap.objs.size, data := o.data, slots := o.slots }).get? s.heap.objs.size = some { cls := Value.type "dict", data := Data.dict #[] } :=
    Heap.get?_update_of_ne _ hne (Heap.get?_push_size _ rfl)
  refine wpAny_loadPart hD ?_
  dsimp only
  rw [if_neg (by decide)]
  refine wpAny_updatePart hD ?_
  refine wpAny_bind (wpAny_lookBehind (Heap.get?_update_self _ hD rfl) ?_ ?_)
  · exact pastItsLine_dict (by show 1 ≤ sizeLine + 1; decide)
  refine wpAny_pure ⟨_, rfl, wpAny_pure ?_⟩
  refine h _ _ _ _ _ rfl (Heap.get?_update_self _ hD rfl) (Heap.get?_update_of_ne _ (Ne.symm hne) (Heap.get?_update_self _ (Heap.get?_push_of_some _ hf) rfl)) fun b o hb e => ?_
  refine Heap.get?_update_of_ne _ ?_ (Heap.get?_update_of_ne _ (Ne.symm hb) (Heap.get?_push_of_some _ e))
  intro q; rw [← q] at e; exact absurd (Heap.lt_size e) (Nat.lt_irrefl _)
variable {h₀ : Heap} {L : Addr} {m : Str → Option Value} {news : List (Addr × Obj)} {g : Obj → List (Addr × Obj)}
theorem setAttr_fnN {f : Addr} {fd : FuncData} {v : Value} (F : Fr h₀ L s.heap m) (N : News h₀ L s.heap news) (U : UpdF f { cls := .type "function", data := .func fd } news g)
   (h : ∀ d hsh tk kt h', Fr h₀ L h' m → News h₀ L h' ((d, dictOf [⟨hsh, .str (Str.ofString "read") kt, v⟩] 1) :: g { cls := .type "function", dict := some d, data := .func fd }) → (∀ p ∈ news, p.1 < d) → Q () { s with heap := h', toks := tk }) :
   wpAny (model prog w) A (setAttr (.ref f) (Str.ofString "read") v) Q E s := by
  obtain ⟨pre, post, rfl, hg, h1, h2⟩ := U.split
  have hm := N (f, _) (List.mem_append_right _ (.head _))
  have hLs : L < s.heap.objs.size := F.ns.lt
  refine setAttr_fn hm.1 fun d hsh tk kt h' hd hd1 hf1 hk => ?_
  have old : ∀ b o, h₀.get? b = some o → h'.get? b = some o := fun b o e => hk b o (fun q => by rw [q, hm.2.2] at e; cases e) (F.keep b o e)
  refine h d hsh tk kt h' ⟨?_, old, F.above⟩ ?_ fun p hp => hd ▸ Heap.lt_size (N p hp).1
  · obtain ⟨oL, es, ep, e, r⟩ := F.ns
    exact ⟨oL, es, ep, hk _ _ (Ne.symm hm.2.1) e, r⟩
  · rw [hg]
    intro q hq
    rcases List.mem_cons.mp hq with rfl | hq
    · exact ⟨hd1, by rw [hd]; exact Nat.ne_of_gt hLs, by rw [hd]; exact next_is_new F⟩
    rcases List.mem_append.mp hq with hq | hq
    · have := N q (List.mem_append_left _ hq)
      exact ⟨hk _ _ (h1 q hq) this.1, this.2⟩
    rcases List.mem_cons.mp hq with rfl | hq
    · exact ⟨hf1, hm.2⟩
    · have := N q (List.mem_append_right _ (List.mem_cons_of_mem _ hq))
      exact ⟨hk _ _ (h2 q hq) this.1, this.2⟩
end
end Mine
end
section
theorem Mine.forget_MyX : True := by
  w_top off
  trivial
open PySem PySem.W PyProof.Rows PySem.Calls PySem.Spec
set_option maxRecDepth 100000
namespace Mine
abbrev wsS : Str := Str.ofString "\n\t\r "
abbrev fnO (fd : FuncData) : Obj := { cls := .type "function", data := .func fd }
abbrev fnD (fd : FuncData) (d : Addr) : Obj := { cls := .type "function", dict := some d, data := .func fd }
/-- the objects of one lexer -/
structure Lx where
  pbL : Addr
  lx : Addr
  dx : Addr
  sd : Addr
  st : Addr
  c2 : Addr
  rd : Addr
  c1 : Addr
  atL : Addr
  cAt : Addr
  cTx : Addr
  oc2 : Obj
  oc1 : Obj
  oAt : Obj
  oTx : Obj
  fst : FuncData
  frd : FuncData
  h1 : Int
  h2 : Int
  h3 : Int
  h4 : Int
  h5 : Int
  k1 : Tok
  k2 : Tok
  k3 : Tok
  k4 : Tok
  k5 : Tok
  tw : Tok
/-- what a lexer's reading changes: the place, the row, the words pushed back (with their tokens) -/
structure Ls where
  pos : Int
  ln : Int
  pb : Array Value
  tp : Tok
  ea : Nat
  tl : Tok
  ep : Nat
abbrev Lx.core (x : Lx) (pos : Int) (tp : Tok) (ea : Nat) : List (Addr × Obj) :=
  [(x.rd, fnO x.frd), (x.c1, x.oc1), (x.atL, listOf #[.int pos tp] ea), (x.cAt, x.oAt), (x.cTx, x.oTx)]
abbrev Lx.more (C : Addr) (x : Lx) (y : Ls) : List (Addr × Obj) :=
  [(x.pbL, listOf y.pb y.ep), (x.lx, instObj C x.dx),
   (x.dx, dictOf [⟨x.h1, .str (Str.ofString "lineno") x.k1, .int y.ln y.tl⟩, ⟨x.h2, .str (Str.ofString "instream") x.k2, .ref x.st⟩, ⟨x.h3, .str (Str.ofString "whitespace") x.k3, .str wsS x.tw⟩, ⟨x.h4, .str (Str.ofString "pushback") x.k4, .ref x.pbL⟩] 4),
   (x.sd, dictOf [⟨x.h5, .str (Str.ofString "read") x.k5, .ref x.rd⟩] 1), (x.st, fnD x.fst x.sd), (x.c2, x.oc2)]
abbrev Lx.led (C : Addr) (x : Lx) (y : Ls) : List (Addr × Obj) := x.core y.pos y.tp y.ea ++ x.more C y
theorem lex_perm {a1 a2 a3 a4 a5 a6 a7 a8 a9 a10 a11 : Addr × Obj} {rest : List (Addr × Obj)} : ∀ p ∈ a7 :: a8 :: a9 :: a10 :: a11 :: a1 :: a2 :: a3 :: a4 :: a5 :: a6 :: rest, p ∈ a1 :: a2 :: a3 :: a4 :: a5 :: a6 :: a7 :: a8 :: a9 :: a10 :: a11 :: rest := by
  intro p hp
  simp only [List.mem_cons] at hp ⊢
  rcases hp with h | h | h | h | h | h | h | h | h | h | h | h <;> simp [h]
structure Lx.Ord (x : Lx) : Prop where
  a1 : @LT.lt Nat _ x.cTx x.cAt
  a2 : @LT.lt Nat _ x.cAt x.atL
  a3 : @LT.lt Nat _ x.atL x.rd
  a4 : @LT.lt Nat _ x.c1 x.cTx ∨ (@LT.lt Nat _ x.atL x.c1 ∧ @LT.lt Nat _ x.c1 x.rd)
  a5 : @LT.lt Nat _ x.rd x.st
  a6 : @LT.lt Nat _ x.c2 x.cTx ∨ (@LT.lt Nat _ x.rd x.c2 ∧ @LT.lt Nat _ x.c2 x.st)
  a7 : @LT.lt Nat _ x.st x.sd
  a8 : @LT.lt Nat _ x.sd x.dx
  a9 : @LT.lt Nat _ x.dx x.lx
  a10 : @LT.lt Nat _ x.lx x.pbL
abbrev ReadOk (prog : Program) (w : World) (K : Frag) (p : Program) (loose : List Str) (mean : ExcName → Option Value) (mg mb : Str → Option Value) (Xt : Heap → Prop) (x : Lx) (text : Str) : Prop :=
  ∀ (pos : Int) (tp : Tok) (ea : Nat) (t : Tok) (rest : List (Addr × Obj)),
    Ctr prog w K p loose mean mg mb Xt x.rd 1 (x.core pos tp ea ++ rest) (0 ≤ pos ∧ pos ≤ text.length ∧ ∀ q ∈ rest, q.1 ≠ x.atL) [.int 1 t]
      (fun v nw => ∃ tv tp', v = .str (Txt.slice text (some pos) (some (pos + 1))) tv ∧ nw = x.core (pos + (Txt.slice text (some pos) (some (pos + 1))).length) tp' ea ++ rest)
end Mine
end
section
theorem Mine.forget_MyG : True := by
  w_top off
  trivial
open PySem PySem.W PyProof.Rows PySem.Calls PySem.Spec PySem.Builtin PySem.Builtin.ObjectAttr
set_option maxRecDepth 100000
set_option maxHeartbeats 2000000
namespace Mine
theorem fn_ga : typeLookup (.type "function") (Str.ofString "__getattribute__") = pure (some (.builtin "object.__getattribute__")) := by rw [typeLookup_type, builtinLookup_eq_fast]; kernel_rfl
theorem fn_gat : typeLookup (.type "function") (Str.ofString "__getattr__") = pure none := by rw [typeLookup_type, builtinLookup_eq_fast]; kernel_rfl
theorem slot_fn_ga : Slot "function" (Str.ofString "__getattribute__") "object.__getattribute__" :=
  .of (owner := "object") (n := "__getattribute__") (by rw [typeLookup_type, builtinLookup_eq_fast]; kernel_rfl) (by decide +kernel) (by decide +kernel) (by decide +kernel)
    (by first | exact .inl (by decide +kernel) | exact .inr (by decide +kernel)) (by rw [isSubtype_type]; kernel_rfl)
theorem entry_ga : entryFor table "object.__getattribute__" = some Builtin.«object.__getattribute__» := entryFor_of_fast (by kernel_rfl)
section
variable {prog : Program} {w : World} {A : Around} {E : Value → Shared → Prop} {s : Shared} {Q : Value × List Value → Shared → Prop} {pl : Sem Bool}
theorem getMethod_fn {f d : Addr} {fd : FuncData} {rd : Addr} {hsh : Int} {kt : Tok} (hf : s.heap.get? f = some (fnD fd d)) (hd : s.heap.get? d = some (dictOf [⟨hsh, .str (Str.ofString "read") kt, .ref rd⟩] 1))
   (h : ∀ tk, Q (.ref rd, []) { s with toks := tk }) : wpAny (model prog w) A (getMethod (.ref f) (Str.ofString "read") pl) Q E s := by
  have hT : ∀ tk, ({ s with toks := tk } : Shared).TypeIs (.ref f) "function" := fun _ => ⟨_, hf, rfl⟩
  have hT0 : s.TypeIs (.ref f) "function" := ⟨_, hf, rfl⟩
  have hr := fn_read
  have hcan := PySem.F.canon_object_ga
  unfold getMethod
  refine wpAny_bind (wpAny_specialOf hT0 fn_ga ?_)
  dsimp only
  rw [hcan, if_neg (by decide)]
  refine wpAny_bind (wpAny_specialOf hT0 fn_gat ?_)
  rw [if_neg (by decide)]
  refine wpAny_bind (wpAny_specialOf hT0 fn_read ?_)
  refine wpAny_bind ?_
  unfold getAttr
  refine wpAny_bind (wpAny_mkText ?_)
  unfold getAttrBy
  refine wpAny_holding (wpAny_bind (wpAny_typeOf (hT _) (wpAny_bind (wpAny_of_eq fn_ga ?_))))
  dsimp only
  rw [if_neg (by decide)]
  unfold getAttrByItsOwn
  wp_walk
  refine wpAny_of_eq (slot_fn_ga.bind _) ?_
  dsimp only
  refine wpAny_call_entry slot_fn_ga (hT _) entry_ga ?_ (by kernel_rfl)
  unfold Builtin.«object.__getattribute__»
  wp_walk
  refine ⟨_, rfl, ?_⟩
  wp_walk
  exact h _
end
end Mine
end
section
theorem Mine.forget_MyI : True := by
  w_top off
  trivial
open PySem PySem.W PyProof.Rows PySem.Calls PySem.Spec PySem.Builtin
set_option maxRecDepth 100000
set_option maxHeartbeats 2000000
namespace Mine
theorem meth_call : typeLookup (.type "method") (Str.ofString "__call__") = pure (some (.builtin "method.__call__")) := by rw [typeLookup_type, builtinLookup_eq_fast]; kernel_rfl
theorem kind_iter : builtinKind "iter" = none := by decide +kernel
theorem plain_iter : plainId "iter" = true := by decide +kernel
theorem entry_iter : entryFor table "iter" = some Builtin.«iter» := entryFor_of_fast (by kernel_rfl)
theorem args_iter2 (a b : Value) : argsOk "iter" ⟨[a, b], []⟩ := by kernel_rfl
theorem args_ci_next (a : Value) : argsOk "callable_iterator.__next__" ⟨[a], []⟩ := by kernel_rfl
theorem args_ci_iter (a : Value) : argsOk "callable_iterator.__iter__" ⟨[a], []⟩ := by kernel_rfl
theorem entry_ci_iter : entryFor table "callable_iterator.__iter__" = some Builtin.«dict_keyiterator.__iter__» :=
  entryFor_alias (id' := "dict_keyiterator.__iter__") (by kernel_rfl) (by first | rfl | decide +kernel | (unfold String.splitOn; simp +decide [String.splitOnAux])) (by decide +kernel) (by kernel_rfl)
abbrev ciO (a b : Value) (e : Bool) : Obj := { cls := .type "callable_iterator", data := .fields #[a, b, .bool e] }
section
variable {prog : Program} {w : World} {A : Around} {E : Value → Shared → Prop} {s : Shared}
theorem call_iter2 {q : Addr} {f self sent : Value} {Q : Value → Shared → Prop} (hq : s.heap.get? q = some (methodObj f self))
    (h : Q (.ref s.heap.objs.size) { s with heap := s.heap.push (ciO (.ref q) sent false) }) : wpAny (model prog w) A (call (.builtin "iter") [.ref q, sent]) Q E s := by
  have hT : s.TypeIs (.ref q) "method" := ⟨_, hq, rfl⟩
  refine Calls.call_function_entry kind_iter plain_iter entry_iter (args_iter2 _ _) ?_
  have hm := meth_call
  unfold Builtin.«iter»
  wp_walk
  exact ⟨_, rfl, h⟩
theorem wpAny_callBorrowed {f : Value} {pos : List Value} {Q : Value → Shared → Prop} {M : Model} (h : wpAny M A (call f pos) Q E s) : wpAny M A (callBorrowed f pos) Q E s := by
  intro Γ p hΓ
  have h1 := h Γ p hΓ
  unfold call at h1
  rw [Sem.wp_runValue] at h1
  unfold callBorrowed
  rw [Sem.wp]
  refine wpCode_mono (fun r s' q => ?_) h1
  cases r with
  | error e => rw [Sem.wp]; exact q
  | ok fl => cases fl <;> first | exact q.elim | (rw [Sem.wp]; exact q)
theorem next_ci {it q f : Addr} {self : Value} {ts : Tok} {Q : Option Value → Shared → Prop} (hit : s.heap.get? it = some (ciO (.ref q) (.str (Str.ofString "") ts) false)) (hq : s.heap.get? q = some (methodObj (.ref f) self)) (hf : FnAt f s.heap)
    (hh : A.handled = none)
    (hc : wpAny (model prog w) A.in1 (call (.ref q) []) (fun v s' => ∃ c tc, v = .str c tc ∧ s'.heap.get? it = some (ciO (.ref q) (.str (Str.ofString "") ts) false) ∧ s'.heap.get? q = some (methodObj (.ref f) self) ∧ FnAt f s'.heap ∧
      (c ≠ Str.ofString "" → ∀ tk, Q (some v) { s' with toks := tk }) ∧ (c = Str.ofString "" → ∀ h' tk, h'.get? it = some (ciO .none .none true) → (∀ b o, b ≠ it → s'.heap.get? b = some o → h'.get? b = some o) → Q none { s' with heap := h', toks := tk })) (fun _ _ => False) s) :
    wpAny (model prog w) A (pyNext (.ref it)) Q E s := by
  have hT : s.TypeIs (.ref it) "callable_iterator" := ⟨_, hit, rfl⟩
  unfold pyNext
  refine wpAny_bind (wpAny_attempt (wpAny_callSpecial?_slot (name := Str.ofString "__next__") hT slot_ci_next (wpAny_call_entry slot_ci_next hT entry_ci_next ?_ (args_ci_next _))))
  unfold Builtin.«callable_iterator.__next__»
  wp_walk
  obtain ⟨oc, od, fd, sl, hf⟩ := hf
  refine wpAny_load hf ?_
  wp_walk
  refine wpAny_callBorrowed (wpAny_mono hc (fun v s' hv => ?_) fun _ _ x => x.elim)
  obtain ⟨c, tc, rfl, hit', hq', hf', k1, k2⟩ := hv
  wp_walk
  refine wpAny_mono (Q := fun b s'' => b = (Str.ofString "" == c) ∧ s'' = s') (E := fun _ _ => False) ?_ (fun b s'' hb => ?_) fun _ _ x => x.elim
  · show wpAny _ _ (if (Value.str (Str.ofString "") ts == Value.str c tc) = true then _ else _) _ _ s'
    refine wpAny_ite ?_
    split
    · rename_i he
      have he := eq_of_beq he
      injection he with e1 e2
      subst e1
      exact wpAny_bind (wpAny_rule (wpAny_pure ⟨by simp, rfl⟩))
    · show wpAny _ _ (richCompare CmpOp.Eq (Value.str (Str.ofString "") ts) (Value.str c tc) >>= fun r => truthOfDropped r) _ _ s'
      refine wpAny_bind (eq_str (prog := prog) (w := w) ?_)
      exact wpAny_truthy_bool ⟨rfl, rfl⟩
  · obtain ⟨rfl, rfl⟩ := hb
    by_cases hc0 : c = Str.ofString ""
    · subst hc0
      rw [if_neg (by simp)]
      wp_walk
      obtain ⟨oc, od, fd, sl, hf'⟩ := hf'
      refine wpAny_load hf' ?_
      wp_walk
      refine wpAny_raiseNew_none hh ?_
      refine wpAny_bind (wpAny_isInstance (T := "StopIteration") (b := true) ⟨_, Heap.get?_push_size _ rfl, rfl⟩ isSubtype_stop ?_)
      refine wpAny_pure (k2 rfl _ _ ?_ ?_)
      · exact Heap.get?_push_of_some _ (Heap.get?_push_of_some _ (Heap.get?_update_self _ (Heap.get?_update_self _ (Heap.get?_update_self _ hit' rfl) rfl) rfl))
      · intro b o hb e
        exact Heap.get?_push_of_some _ (Heap.get?_push_of_some _ (Heap.get?_update_of_ne _ (Ne.symm hb) (Heap.get?_update_of_ne _ (Ne.symm hb) (Heap.get?_update_of_ne _ (Ne.symm hb) e))))
    · rw [if_pos (by simp; exact fun e => hc0 e.symm)]
      wp_walk
      refine ⟨_, rfl, wpAny_pure ?_⟩
      exact k1 hc0 _
theorem next_ci_end {it : Addr} {Q : Option Value → Shared → Prop} (hit : s.heap.get? it = some (ciO .none .none true)) (hh : A.handled = none)
    (h : ∀ h', (∀ b o, s.heap.get? b = some o → h'.get? b = some o) → Q none { s with heap := h' }) : wpAny (model prog w) A (pyNext (.ref it)) Q E s := by
  have hT : s.TypeIs (.ref it) "callable_iterator" := ⟨_, hit, rfl⟩
  unfold pyNext
  refine wpAny_bind (wpAny_attempt (wpAny_callSpecial?_slot (name := Str.ofString "__next__") hT slot_ci_next (wpAny_call_entry slot_ci_next hT entry_ci_next ?_ (args_ci_next _))))
  unfold Builtin.«callable_iterator.__next__»
  wp_walk
  refine wpAny_raiseNew_none hh ?_
  refine wpAny_bind (wpAny_isInstance (T := "StopIteration") (b := true) ⟨_, Heap.get?_push_size _ rfl, rfl⟩ isSubtype_stop ?_)
  exact wpAny_pure (h _ fun b o e => Heap.get?_push_of_some _ (Heap.get?_push_of_some _ e))
theorem iter_ci {it : Addr} {a b : Value} {e : Bool} {Q : Value → Shared → Prop} (hit : s.heap.get? it = some (ciO a b e)) (h : Q (.ref it) s) : wpAny (model prog w) A (pyIter (.ref it)) Q E s := by
  have hT : s.TypeIs (.ref it) "callable_iterator" := ⟨_, hit, rfl⟩
  refine wpAny_pyIter_slot hT slot_ci_iter (wpAny_call_entry slot_ci_iter hT entry_ci_iter ?_ (args_ci_iter _))
  show wpAny _ _ (ret (.ref it)) _ _ s
  exact wpAny_pure ⟨_, rfl, "callable_iterator", _, hT, slot_ci_next.lookup, h⟩
end
end Mine
end
section
theorem Mine.forget_MyFor : True := by
  w_top off
  trivial
open PySem PySem.W PyProof.Rows PySem.Calls PySem.Spec
set_option maxRecDepth 100000
namespace Mine
section
variable {prog : Program} {w : World} {A : Around} {E : Value → Shared → Prop} {Q : Flow → Shared → Prop} {s : Shared} {env : Env} {h₀ : Heap} {L : Addr} {x : Str} {px : Pos} {body : List Stmt}
theorem iter2_N {m : Str → Option Value} {news : List (Addr × Obj)} {q : Addr} {f self sent : Value} {Q : Value → Shared → Prop} (F : Fr h₀ L s.heap m) (N : News h₀ L s.heap news) (hq : (q, methodObj f self) ∈ news)
    (h : ∀ it h', Fr h₀ L h' m → News h₀ L h' ((it, ciO (.ref q) sent false) :: news) → (∀ p ∈ news, p.1 < it) → Q (.ref it) { s with heap := h' }) : wpAny (model prog w) A (call (.builtin "iter") [.ref q, sent]) Q E s :=
  call_iter2 (N _ hq).1 (h _ _ (F.push _) (N.push F _) fun p hp => Heap.lt_size (N p hp).1)
theorem for_all {σ : Type} {it : Value} {m₀ : Str → Option Value} (Led : σ → List (Addr × Obj)) (ps : σ → List (Str × Value)) (P : σ → Prop) (μ : σ → Nat) (Post : σ → Prop) (c₀ : σ)
    (F : Fr h₀ L s.heap m₀) (N : News h₀ L s.heap (Led c₀)) (hk : ∀ p ∈ ps c₀, m₀ p.1 = some p.2) (hp : P c₀)
    (turn : ∀ (c : σ) (u : Str → Option Value) h tk, P c → Fr h₀ L h (kstB u (ps c)) → News h₀ L h (Led c) →
      wpAny (model prog w) A (pyNext it) (fun r s₁ => match r with
        | none => JoinA h₀ L s Led ps Post s₁
        | some v => wpAny (model prog w) A (storeName env x v) (fun _ s₂ => wpAny (model prog w) A (execs body env) (EndA h₀ L s Led ps P μ Post Q c) E s₂) E s₁) E { s with heap := h, toks := tk })
    (next : ∀ (c : σ) (u : Str → Option Value) h tk, Post c → Fr h₀ L h (kstB u (ps c)) → News h₀ L h (Led c) → Q .next { s with heap := h, toks := tk })
    (hE : PassesOwn (model prog w) A env E := by passes_own) :
    codeAny (model prog w) A (.forLoop (.Name x px) it body [] env) (fun r s' => match r with | .ok f => Q f s' | .error e => cameBackBy (model prog w) A env E e s') s := by
  have fin : ∀ s₂, JoinA h₀ L s Led ps Post s₂ → Q .next s₂ := by
    rintro _ ⟨c', h', tk, m', news', rfl, F, N, hn, hk, hp⟩
    refine next c' m' h' tk hp ?_ fun p q => N p (hn p q)
    have em : kstB m' (ps c') = m' := funext fun y => kstB_eq hk fun _ => rfl
    rw [em]; exact F
  refine codeAny_forLoop (fun n s' => ∃ c h₁ tk₁ m₁, s' = { s with heap := h₁, toks := tk₁ } ∧ Fr h₀ L h₁ m₁ ∧ News h₀ L h₁ (Led c) ∧ μ c = n ∧ (∀ p ∈ ps c, m₁ p.1 = some p.2) ∧ P c) ?_ (μ c₀) ⟨c₀, s.heap, s.toks, m₀, rfl, F, N, rfl, hk, hp⟩
  rintro n s' ⟨c, h₁, tk₁, m₁, rfl, F₁, N₁, hn, hk₁, hp₁⟩
  have em : kstB m₁ (ps c) = m₁ := funext fun y => kstB_eq hk₁ fun _ => rfl
  refine wpAny_mono (turn c m₁ h₁ tk₁ hp₁ (by rw [em]; exact F₁) N₁) (fun r s₁ h => ?_) hE
  cases r with
  | none => exact wpAny_execs_nil (fin _ h)
  | some v =>
    refine wpAny_mono (wpAny_assign_Name h) (fun _ s₂ h => ?_) hE
    refine wpAny_mono h (fun f s₃ q => ?_) hE
    cases f with
    | ret v => exact q
    | brk => exact fin _ q
    | next =>
      obtain ⟨c', h', tk', m', news', rfl, F', N', hn', hk9, hp9, hm9⟩ := q
      exact ⟨μ c', hn ▸ hm9, c', h', tk', m', rfl, F', fun p hp => N' p (hn' p hp), rfl, hk9, hp9⟩
    | cont =>
      obtain ⟨c', h', tk', m', news', rfl, F', N', hn', hk9, hp9, hm9⟩ := q
      exact ⟨μ c', hn ▸ hm9, c', h', tk', m', rfl, F', fun p hp => N' p (hn' p hp), rfl, hk9, hp9⟩
end
end Mine
end
section
theorem Mine.forget_MyT : True := by
  w_top off
  trivial
open PySem PySem.W PyProof.Rows PySem.Calls PySem.Spec PySem.Builtin PySem.Builtin.Str
set_option maxRecDepth 100000
namespace Mine
def isWs (c : Nat) : Bool := c == 10 || c == 9 || c == 13 || c == 32
def unq : List Nat → List Nat × List Nat
  | [] => ([], [])
  | c :: r => if isWs c then ([], r) else if c = 92 then (match r with | [] => ([], []) | d :: r' => (d :: (unq r').1, (unq r').2)) else (c :: (unq r).1, (unq r).2)
def gtok : List Nat → List Nat × List Nat
  | [] => ([], [])
  | c :: r => if isWs c then gtok r else unq (c :: r)
def okTok : List Nat → Prop
  | [] => True
  | c :: r => if isWs c then okTok r else c ≠ 34
def nls (l : List Nat) : Int := (l.filter (· == 10)).length
abbrev chAt (text : Str) (pos : Int) : Str := Txt.slice text (some pos) (some (pos + 1))
abbrev txR (text : Str) (pos : Int) : List Nat := (lst text).drop pos.toNat
theorem ofEmpty : Str.ofString "" = ⟨#[]⟩ := by decide +kernel
theorem ch_at {text : Str} {pos : Int} (h0 : 0 ≤ pos) (h1 : pos < text.length) : ∃ c, chAt text pos = ⟨#[c]⟩ ∧ txR text pos = c :: txR text (pos + 1) := by
  have hl : pos.toNat < (lst text).length := by rw [← len_lst]; (first | lia | omega)
  refine ⟨(lst text)[pos.toNat], ?_, ?_⟩
  · have := eq_of_beq (slice_one_closes h0 h1)
    rw [chAt, this]
    simp [lst, Array.getD]
    have : pos.toNat < text.cps.size := by simpa [lst] using hl
    simp [this]
  · have e : (pos + 1).toNat = pos.toNat + 1 := by (first | lia | omega)
    rw [txR, txR, e, List.drop_eq_getElem_cons hl]
theorem ch_end {text : Str} {pos : Int} (h1 : pos = text.length) : chAt text pos = Str.ofString "" ∧ txR text pos = [] := by
  subst h1
  constructor
  · rw [ofEmpty]
    have e := eq_of_beq (slice_closesL (x := text) (i := text.length) (j := text.length) (by (first | lia | omega)) (by (first | lia | omega)) (by (first | lia | omega)))
    have e2 : chAt text text.length = Txt.slice text (some (text.length : Int)) (some (text.length : Int)) := by
      unfold chAt Txt.slice
      have : strSliceIndices (some (text.length : Int)) (some ((text.length : Int) + 1)) 1 text.length = strSliceIndices (some (text.length : Int)) (some (text.length : Int)) 1 text.length := by
        have h0 : ¬ (text.length : Int) < 0 := by (first | lia | omega)
        have h1 : ¬ (text.length : Int) + 1 < 0 := by (first | lia | omega)
        have h2 : (1 : Int) > 0 := by decide
        have h3 : min ((text.length : Int) + 1) text.length = text.length := by (first | lia | omega)
        simp only [strSliceIndices, h0, h1, h2, if_false, if_true, h3, Int.min_self]
      rw [this]
    rw [e2, e]; simp
  · rw [txR, List.drop_eq_nil_of_le]; rw [← len_lst]; (first | lia | omega)
theorem tx_len {text : Str} {pos : Int} (h0 : 0 ≤ pos) (h1 : pos ≤ text.length) : ((txR text pos).length : Int) = text.length - pos := by
  rw [txR, List.length_drop, ← len_lst]; (first | lia | omega)
theorem one_ne_empty (c : Nat) : (⟨#[c]⟩ : Str) ≠ Str.ofString "" := by rw [ofEmpty]; simp
theorem len_one (c : Nat) : (⟨#[c]⟩ : Str).length = 1 := rfl
theorem one_is_nl (c : Nat) : ((⟨#[c]⟩ : Str) = Str.ofString "\n") ↔ c = 10 := by
  rw [show Str.ofString "\n" = ⟨#[10]⟩ from by decide +kernel]; simp
theorem one_is_bs (c : Nat) : ((⟨#[c]⟩ : Str) == Str.ofString "\\") = (c == 92) := by
  rw [show Str.ofString "\\" = ⟨#[92]⟩ from by decide +kernel, one_beq]
theorem one_is_qt (c : Nat) : ((⟨#[c]⟩ : Str) == Str.ofString "\"") = (c == 34) := by
  rw [show Str.ofString "\"" = ⟨#[34]⟩ from by decide +kernel, one_beq]
theorem nls_cons (c : Nat) (l : List Nat) : nls (c :: l) = (if c = 10 then 1 else 0) + nls l := by
  unfold nls
  rw [List.filter_cons]
  by_cases h : c = 10
  · simp [h]; (first | lia | omega)
  · simp [h]
end Mine
namespace Mine
/-- a sign read, an escaped one by the sign behind it -/
def escR (c : Nat) (r : List Nat) : List Nat × List Nat := if c = 92 then (match r with | [] => ([], []) | d :: r' => ([d], r')) else ([c], r)
theorem unq_nil : unq [] = ([], []) := by simp [unq]
theorem unq_esc {c : Nat} {r : List Nat} (h : isWs c = false) : unq (c :: r) = ((escR c r).1 ++ (unq (escR c r).2).1, (unq (escR c r).2).2) := by
  rw [unq.eq_def]
  unfold escR
  simp only [h, Bool.false_eq_true, if_false]
  by_cases hc : c = 92
  · subst hc
    cases r with
    | nil => simp [unq_nil]
    | cons d r' => simp
  · simp [hc]
theorem unq_ws {c : Nat} {r : List Nat} (h : isWs c = true) : unq (c :: r) = ([], r) := by rw [unq.eq_def]; simp [h]
theorem gtok_ws {c : Nat} {r : List Nat} (h : isWs c = true) : gtok (c :: r) = gtok r := by rw [gtok.eq_def]; simp [h]
theorem gtok_no {c : Nat} {r : List Nat} (h : isWs c = false) : gtok (c :: r) = unq (c :: r) := by rw [gtok.eq_def]; simp [h]
theorem okTok_ws {c : Nat} {r : List Nat} (h : isWs c = true) (ho : okTok (c :: r)) : okTok r := by rw [okTok.eq_def] at ho; simpa [h] using ho
theorem okTok_no {c : Nat} {r : List Nat} (h : isWs c = false) (ho : okTok (c :: r)) : c ≠ 34 := by rw [okTok.eq_def] at ho; simpa [h] using ho
theorem esc_len (c : Nat) (r : List Nat) : (escR c r).1.length + (escR c r).2.length ≤ r.length + 1 := by
  unfold escR
  by_cases h : c = 92
  · cases r <;> simp [h] <;> (first | lia | omega)
  · simp [h]; (first | lia | omega)
theorem esc_short (c : Nat) (r : List Nat) : (escR c r).2.length ≤ r.length := by
  unfold escR
  by_cases h : c = 92
  · cases r <;> simp [h]
  · simp [h]
theorem ws_occ (c : Nat) : (Builtin.Str.occurrences wsS ⟨#[c]⟩ 0 wsS.length 1).isEmpty = !(isWs c) := by
  have h := StrLaws.found_one wsS c
  rw [← Bool.not_not (List.isEmpty _), h]
  congr 1
  rw [show wsS.cps.toList = [10, 9, 13, 32] from by decide +kernel, isWs, Bool.eq_iff_iff]
  simp
  try (first | lia | omega)
end Mine
namespace Mine
/-- what stands after a sign and the sign that it may escape -/
structure EscOk (text : Str) (c : Nat) (pos1 ln1 : Int) (e : Str) (pos2 ln2 : Int) : Prop where
  lst : lst e = (escR c (txR text pos1)).1
  tx : txR text pos2 = (escR c (txR text pos1)).2
  p0 : 0 ≤ pos2
  p1 : pos2 ≤ text.length
  l0 : 0 ≤ ln2
  ll : ln2 + (txR text pos2).length ≤ ln1 + (txR text pos1).length
  ls : ln2 + nls (txR text pos2) = ln1 + nls (txR text pos1)
  le : e.length ≤ 1
theorem esc_none {text : Str} {c : Nat} {pos ln : Int} (hc : c ≠ 92) (h0 : 0 ≤ pos) (h1 : pos ≤ text.length) (h2 : 0 ≤ ln) : EscOk text c pos ln ⟨#[c]⟩ pos ln :=
  ⟨by simp [escR, hc, lst], by simp [escR, hc], h0, h1, h2, by (first | lia | omega), rfl, by rw [len_one]; (first | lia | omega)⟩
theorem esc_some {text : Str} {c : Nat} {pos ln : Int} (hc : c = 92) (h0 : 0 ≤ pos) (h1 : pos ≤ text.length) (h2 : 0 ≤ ln) :
    EscOk text c pos ln (chAt text pos) (pos + (chAt text pos).length) (ln + (if chAt text pos = Str.ofString "\n" then 1 else 0)) := by
  subst hc
  rcases Int.lt_or_eq_of_le h1 with h | h
  · obtain ⟨d, hd, hr⟩ := ch_at h0 h
    have hl : (((⟨#[d]⟩ : Str).length : Nat) : Int) = 1 := rfl
    rw [hd, hl]
    refine ⟨?_, ?_, by (first | lia | omega), by (first | lia | omega), ?_, ?_, ?_, by rw [len_one]; (first | lia | omega)⟩
    · rw [hr]; simp [escR, lst]
    · rw [hr]; simp [escR]
    · split <;> (first | lia | omega)
    · rw [hr, List.length_cons]; push_cast; split <;> (first | lia | omega)
    · rw [hr, nls_cons]
      by_cases e : d = 10
      · rw [if_pos ((one_is_nl d).2 e), if_pos e]; (first | lia | omega)
      · rw [if_neg (fun z => e ((one_is_nl d).1 z)), if_neg e]; (first | lia | omega)
  · obtain ⟨e, hr⟩ := ch_end h
    have hl : (((Str.ofString "").length : Nat) : Int) = 0 := by rw [ofEmpty]; rfl
    have hn : ¬ (Str.ofString "" = Str.ofString "\n") := by decide +kernel
    rw [e, hl, if_neg hn, Int.add_zero, Int.add_zero]
    refine ⟨?_, ?_, h0, h1, h2, by (first | lia | omega), rfl, by rw [ofEmpty]; exact Nat.zero_le _⟩
    · rw [hr]; simp [escR, lst, ofEmpty]
    · rw [hr]; simp [escR]
/-- a sign that was read -/
theorem read_post {text : Str} {c : Nat} {pos ln : Int} (h0 : 0 ≤ pos) (h1 : pos < text.length) (hr : txR text pos = c :: txR text (pos + 1)) (h2 : 0 ≤ ln) :
    0 ≤ pos + 1 ∧ pos + 1 ≤ text.length ∧ 0 ≤ ln + (if (⟨#[c]⟩ : Str) = Str.ofString "\n" then 1 else 0) ∧ ln + (if (⟨#[c]⟩ : Str) = Str.ofString "\n" then 1 else 0) + ((txR text (pos + 1)).length : Int) ≤ ln + ((txR text pos).length : Int) ∧
      ln + (if (⟨#[c]⟩ : Str) = Str.ofString "\n" then 1 else 0) + nls (txR text (pos + 1)) = ln + nls (txR text pos) := by
  refine ⟨by (first | lia | omega), by (first | lia | omega), ?_, ?_, ?_⟩
  · split <;> (first | lia | omega)
  · rw [hr, List.length_cons]; push_cast; split <;> (first | lia | omega)
  · rw [hr, nls_cons]
    by_cases e : c = 10
    · rw [if_pos ((one_is_nl c).2 e), if_pos e]; (first | lia | omega)
    · rw [if_neg (fun z => e ((one_is_nl c).1 z)), if_neg e]; (first | lia | omega)
end Mine
end
section
theorem Mine.forget_MyRe : True := by
  w_top off
  trivial
open PySem PySem.Sre
set_option maxRecDepth 100000
namespace Mine
abbrev c1 : Array Nat := #[14, 4, 0, 1, 1, 6, 1, 16, 46, 1]
abbrev c2 : Array Nat := #[14, 9, 4, 1, 2, 16, 10, 16, 13, 0, 7, 7, 16, 13, 16, 10, 15, 18, 5, 16, 10, 15, 13, 11, 16, 13, 5, 5, 0, 16, 10, 1, 15, 2, 0, 1]
/-- the machine's way -/
def Goes (n : Nat) (m m' : M) : Prop := ∀ k, M.runFor (n + k) m = M.runFor k m'
theorem Goes.zero (m : M) : Goes 0 m m := fun k => by rw [Nat.zero_add]
theorem Goes.step {n : Nat} {m m' m1 : M} (ho : m.outcome = none) (hs : m.step = m1) (h : Goes n m1 m') : Goes (n + 1) m m' := fun k => by
  rw [show n + 1 + k = (n + k) + 1 by (first | lia | omega), M.runFor, ho]
  simp only [Option.isSome_none, Bool.false_eq_true, if_false]
  rw [hs]; exact h k
theorem Goes.trans {a b : Nat} {m m1 m2 : M} (h : Goes a m m1) (h' : Goes b m1 m2) : Goes (a + b) m m2 := fun k => by
  rw [show a + b + k = a + (b + k) by (first | lia | omega), h, h']
theorem run_end {m : M} (h : m.outcome.isSome = true) (k : Nat) : M.runFor k m = m := by
  cases k with
  | zero => rfl
  | succ k => rw [M.runFor, h]; rfl
theorem runFor_add (a b : Nat) : ∀ m, M.runFor (a + b) m = M.runFor b (M.runFor a m) := by
  induction a with
  | zero => intro m; rw [Nat.zero_add]; rfl
  | succ a ih =>
    intro m
    rw [show a + 1 + b = (a + b) + 1 by (first | lia | omega), M.runFor, M.runFor]
    split
    · rename_i h; rw [run_end h]
    · exact ih _
/-- at the start of a try -/
abbrev A1 (text : Array Nat) (sn : Seen) (mu out : Bool) (s : Nat) : M :=
  { code := c1, text, lim := text.size, start := s, lastStart := text.size, mustAdvance := mu, pc := 5, pos := s, handed := s, outermost := out, marks := #[],
    frames := [{ wait := .nextStart, pc := 5, pos := s, outermost := out }], weight := 1, seen := sn }
section
variable {text : Array Nat} {sn : Seen} {mu out : Bool} {s : Nat}
theorem st1_at : (A1 text sn mu out s).step = (let m := { A1 text sn mu out s with seen := (sn.add 6).add 44 }; if (s == 0 || text.getD (s - 1) 0 == 10) = true then { m with pc := 7 } else m.say false) := rfl
theorem lit_step {m : M} {c : Nat} (ho : m.outcome = none) (ha : m.answer = none) (hp : m.pc < m.code.size) (hw : m.code.getD m.pc 0 = 16) (hc : m.code.getD (m.pc + 1) 0 = c) :
    m.step = (if m.pos ≥ m.lim then M.say { m with seen := m.seen.add 16 } false else if (m.text.getD m.pos 0 == c) = true then { m with seen := m.seen.add 16, pc := m.pc + 2, pos := m.pos + 1 } else M.say { m with seen := m.seen.add 16 } false) := by
  have e1 : m.word 0 = 16 := hw
  have e2 : ops[16]? = some .LITERAL := rfl
  have e3 : accepts m.code m.pc (m.text.getD m.pos 0) (m.seen.add 16) = .ok (m.text.getD m.pos 0 == c, m.seen.add 16) := by
    unfold accepts; rw [hw, hc]; rfl
  have e4 : itemWidth m.code m.pc = 2 := by unfold itemWidth; rw [hw]; rfl
  unfold M.step M.exec
  rw [ho, ha, if_pos hp, e1, e2]
  simp only [Option.isSome_none, Bool.false_eq_true, if_false]
  rw [e3, e4]
  split
  · rfl
  · cases m.text.getD m.pos 0 == c <;> rfl
theorem succ_step {m : M} (ho : m.outcome = none) (ha : m.answer = none) (hp : m.pc < m.code.size) (hw : m.code.getD m.pc 0 = 1) (hx : m.wholeText = false) (hm : (m.pos == m.start) = false) :
    m.step = M.say { m with seen := m.seen.add 1, handed := m.pos } true := by
  have e1 : m.word 0 = 1 := hw
  have e2 : ops[1]? = some .SUCCESS := rfl
  unfold M.step M.exec
  rw [ho, ha, if_pos hp, e1, e2]
  simp only [Option.isSome_none, Bool.false_eq_true, if_false]
  rw [hx, hm]
  simp
theorem fail1 {q : Nat} : M.step (M.say { A1 text sn mu out s with pc := q } false) = if s < text.size then A1 text sn false false (s + 1) else M.say { A1 text sn mu out s with frames := [], weight := 0, pc := 5 } false := rfl
theorem over1 : M.step (M.say { A1 text sn mu out s with frames := [], weight := 0, pc := 5 } false) = { A1 text sn mu out s with frames := [], weight := 0, pc := 5, answer := some false, outcome := some .failed } := rfl
theorem good1 {q p hd : Nat} : M.step (M.say { A1 text sn mu out s with pc := q, pos := p, handed := hd } true) = M.say { A1 text sn mu out s with frames := [], weight := 0, pc := 5, handed := hd } true := rfl
theorem goodO {q hd : Nat} : M.step (M.say { A1 text sn mu out s with frames := [], weight := 0, pc := q, handed := hd } true) = { A1 text sn mu out s with frames := [], weight := 0, pc := q, handed := hd, answer := some true, outcome := some .matched } := rfl
end
def dot1 (text : Array Nat) (s : Nat) : Bool := (s == 0 || text.getD (s - 1) 0 == 10) && (decide (s < text.size) && text.getD s 0 == 46)
section
variable {text : Array Nat}
theorem try1_no {sn : Seen} {mu out : Bool} {s : Nat} (h : dot1 text s = false) : ∃ sn' q n, n ≤ 2 ∧ Goes n (A1 text sn mu out s) (M.say { A1 text sn' mu out s with pc := q } false) := by
  unfold dot1 at h
  cases hb : (s == 0 || text.getD (s - 1) 0 == 10) with
  | false =>
    refine ⟨(sn.add 6).add 44, 5, 1, by (first | lia | omega), Goes.step rfl ?_ (Goes.zero _)⟩
    rw [st1_at, hb]; rfl
  | true =>
    rw [hb, Bool.true_and] at h
    refine ⟨((sn.add 6).add 44).add 16, 7, 2, by (first | lia | omega), Goes.step rfl (m1 := { A1 text ((sn.add 6).add 44) mu out s with pc := 7 }) ?_ (Goes.step rfl ?_ (Goes.zero _))⟩
    · rw [st1_at, hb]; rfl
    · rw [lit_step (c := 46) rfl rfl (Nat.le_of_ble_eq_true rfl) rfl rfl]
      by_cases hs : s < text.size
      · rw [if_neg (by simpa using hs)]
        rw [show (text.getD s 0 == 46) = false by simpa [hs] using h]; rfl
      · rw [if_pos (by simpa using hs)]
theorem try1_yes {sn : Seen} {mu out : Bool} {s : Nat} (h : dot1 text s = true) : ∃ m', Goes 5 (A1 text sn mu out s) m' ∧ m'.outcome = some .matched ∧ m'.start = s ∧ m'.handed = s + 1 := by
  unfold dot1 at h
  simp only [Bool.and_eq_true, decide_eq_true_eq] at h
  obtain ⟨hb, hs, hc⟩ := h
  refine ⟨_, Goes.step rfl (m1 := { A1 text ((sn.add 6).add 44) mu out s with pc := 7 }) ?_ (Goes.step rfl (m1 := { A1 text (((sn.add 6).add 44).add 16) mu out s with pc := 9, pos := s + 1 }) ?_ (Goes.step rfl (succ_step rfl rfl (Nat.le_of_ble_eq_true rfl) rfl rfl ?_) (Goes.step rfl good1 (Goes.step rfl goodO (Goes.zero _))))), rfl, rfl, rfl⟩
  · rw [st1_at, hb]; rfl
  · rw [lit_step (c := 46) rfl rfl (Nat.le_of_ble_eq_true rfl) rfl rfl, if_neg (by simpa using hs), if_pos hc]
  · show (s + 1 == s) = false
    simp
theorem find1_yes {t : Nat} (ht : dot1 text t = true) : ∀ (d : Nat) (sn : Seen) (mu out : Bool) (s : Nat), s + d = t → (∀ i, s ≤ i → i < t → dot1 text i = false) → ∃ n m', n ≤ 3 * d + 5 ∧ Goes n (A1 text sn mu out s) m' ∧ m'.outcome = some .matched ∧ m'.start = t ∧ m'.handed = t + 1 := by
  have htl : t < text.size := by unfold dot1 at ht; simp only [Bool.and_eq_true, decide_eq_true_eq] at ht; exact ht.2.1
  intro d
  induction d with
  | zero =>
    intro sn mu out s hs hn
    have : s = t := by (first | lia | omega)
    subst this
    obtain ⟨m', h1, h2⟩ := try1_yes (sn := sn) (mu := mu) (out := out) ht
    exact ⟨5, m', by (first | lia | omega), h1, h2⟩
  | succ d ih =>
    intro sn mu out s hs hn
    obtain ⟨sn', q, n, hn2, hg⟩ := try1_no (sn := sn) (mu := mu) (out := out) (hn s (Nat.le_refl _) (by (first | lia | omega)))
    obtain ⟨n', m', hn', hg', hr⟩ := ih sn' false false (s + 1) (by (first | lia | omega)) (fun i h1 h2 => hn i (by (first | lia | omega)) h2)
    refine ⟨n + (n' + 1), m', by (first | lia | omega), hg.trans (Goes.step rfl ?_ hg'), hr⟩
    rw [fail1, if_pos (by (first | lia | omega))]
theorem find1_no : ∀ (d : Nat) (sn : Seen) (mu out : Bool) (s : Nat), s + d = text.size → (∀ i, s ≤ i → dot1 text i = false) → ∃ n m', n ≤ 3 * d + 5 ∧ Goes n (A1 text sn mu out s) m' ∧ m'.outcome = some .failed := by
  intro d
  induction d with
  | zero =>
    intro sn mu out s hs hn
    obtain ⟨sn', q, n, hn2, hg⟩ := try1_no (sn := sn) (mu := mu) (out := out) (hn s (Nat.le_refl _))
    refine ⟨n + 2, _, by (first | lia | omega), hg.trans (Goes.step rfl (m1 := M.say { A1 text sn' mu out s with frames := [], weight := 0, pc := 5 } false) ?_ (Goes.step rfl over1 (Goes.zero _))), rfl⟩
    rw [fail1, if_neg (by (first | lia | omega))]
  | succ d ih =>
    intro sn mu out s hs hn
    obtain ⟨sn', q, n, hn2, hg⟩ := try1_no (sn := sn) (mu := mu) (out := out) (hn s (Nat.le_refl _))
    obtain ⟨n', m', hn', hg', hr⟩ := ih sn' false false (s + 1) (by (first | lia | omega)) (fun i h1 => hn i (by (first | lia | omega)))
    refine ⟨n + (n' + 1), m', by (first | lia | omega), hg.trans (Goes.step rfl ?_ hg'), hr⟩
    rw [fail1, if_pos (by (first | lia | omega))]
/-- the first search -/
theorem search1 {s : Nat} {mu : Bool} (hs : s < text.size) : forSearch c1 text 0 s text.size mu = A1 text (({} : Seen).add 14) mu true s := by
  unfold forSearch
  have h1 : (s > text.size || text.size - s < (header c1).1) = false := by
    show (decide (s > text.size) || decide (text.size - s < 1)) = false
    simp; (first | lia | omega)
  simp only [h1, Bool.false_eq_true, if_false]
  rfl
theorem search1_end {s : Nat} {mu : Bool} (hs : s = text.size) : ∃ m, forSearch c1 text 0 s text.size mu = m ∧ m.outcome = none ∧ m.step.outcome = some .failed := by
  have h1 : (s > text.size || text.size - s < (header c1).1) = true := by
    show (decide (s > text.size) || decide (text.size - s < 1)) = true
    simp; (first | lia | omega)
  refine ⟨_, rfl, ?_⟩
  unfold forSearch
  simp only [h1, if_true]
  exact ⟨rfl, rfl⟩
end
/-- it comes to an end -/
def Ends (b : Nat) (m : M) (P : M → Prop) : Prop := ∃ n m', n ≤ b ∧ Goes n m m' ∧ P m'
theorem Ends.step {b : Nat} {m m1 : M} {P : M → Prop} (ho : m.outcome = none) (hs : m.step = m1) (h : Ends b m1 P) : Ends (b + 1) m P := by
  obtain ⟨n, m', h1, h2, h3⟩ := h
  exact ⟨n + 1, m', by (first | lia | omega), Goes.step ho hs h2, h3⟩
theorem Ends.done {b : Nat} {m : M} {P : M → Prop} (h : P m) : Ends b m P := ⟨0, m, Nat.zero_le _, Goes.zero _, h⟩
theorem lit_yes {m : M} {c : Nat} (ho : m.outcome = none) (ha : m.answer = none) (hp : m.pc < m.code.size) (hw : m.code.getD m.pc 0 = 16) (hc : m.code.getD (m.pc + 1) 0 = c) (h1 : m.pos < m.lim) (h2 : m.text.getD m.pos 0 = c) :
    m.step = { m with seen := m.seen.add 16, pc := m.pc + 2, pos := m.pos + 1 } := by
  rw [lit_step ho ha hp hw hc, if_neg (by (first | lia | omega)), if_pos (by simp [h2])]
theorem lit_no {m : M} {c : Nat} (ho : m.outcome = none) (ha : m.answer = none) (hp : m.pc < m.code.size) (hw : m.code.getD m.pc 0 = 16) (hc : m.code.getD (m.pc + 1) 0 = c) (h : m.pos < m.lim → m.text.getD m.pos 0 ≠ c) :
    m.step = M.say { m with seen := m.seen.add 16 } false := by
  rw [lit_step ho ha hp hw hc]
  by_cases h1 : m.pos ≥ m.lim
  · rw [if_pos h1]
  · rw [if_neg h1, if_neg (by simpa using h (by (first | lia | omega)))]
abbrev A2 (text : Array Nat) (sn : Seen) (mu out : Bool) (s : Nat) : M :=
  { code := c2, text, lim := text.size, start := s, lastStart := text.size, mustAdvance := mu, pc := 10, pos := s, handed := s, outermost := out, marks := #[],
    frames := [{ wait := .nextStart, pc := 10, pos := s, outermost := out }], weight := 1, seen := sn }
section
variable {text : Array Nat} {sn : Seen} {mu out : Bool} {t : Nat}
theorem try2_nl (ht : t < text.size) (h : text.getD t 0 = 10) : Ends 15 (A2 text sn mu out t) (fun m' => m'.outcome = some .matched ∧ m'.start = t ∧ m'.handed = t + 1) := by
  have ne : text.getD t 0 ≠ 13 := by (first | lia | omega)
  refine Ends.step rfl (m1 := { A2 text (sn.add 7) mu out t with pc := 12, frames := [{ wait := .nextBranch, pc := 11, pos := t, outermost := out }, { wait := .nextStart, pc := 10, pos := t, outermost := out }], weight := 2 }) rfl ?_
  refine Ends.step rfl (lit_no (c := 13) rfl rfl (Nat.le_of_ble_eq_true rfl) rfl rfl (fun _ => ne)) ?_
  refine Ends.step rfl (m1 := { A2 text ((sn.add 7).add 16) mu out t with pc := 19, frames := [{ wait := .nextBranch, pc := 18, pos := t, outermost := out }, { wait := .nextStart, pc := 10, pos := t, outermost := out }], weight := 2 }) rfl ?_
  refine Ends.step rfl (lit_yes (c := 10) rfl rfl (Nat.le_of_ble_eq_true rfl) rfl rfl ht h) ?_
  refine Ends.step rfl (m1 := { A2 text ((((sn.add 7).add 16).add 16).add 15) mu out t with pc := 35, pos := t + 1, frames := [{ wait := .nextBranch, pc := 18, pos := t, outermost := out }, { wait := .nextStart, pc := 10, pos := t, outermost := out }], weight := 2 }) rfl ?_
  refine Ends.step rfl (succ_step rfl rfl (Nat.le_of_ble_eq_true rfl) rfl rfl (by show (t + 1 == t) = false; simp)) ?_
  refine Ends.step rfl rfl ?_
  refine Ends.step rfl rfl ?_
  refine Ends.step rfl rfl ?_
  exact Ends.done ⟨rfl, rfl, rfl⟩
theorem try2_crlf (ht : t + 1 < text.size) (h : text.getD t 0 = 13) (h' : text.getD (t + 1) 0 = 10) : Ends 15 (A2 text sn mu out t) (fun m' => m'.outcome = some .matched ∧ m'.start = t ∧ m'.handed = t + 2) := by
  refine Ends.step rfl (m1 := { A2 text (sn.add 7) mu out t with pc := 12, frames := [{ wait := .nextBranch, pc := 11, pos := t, outermost := out }, { wait := .nextStart, pc := 10, pos := t, outermost := out }], weight := 2 }) rfl ?_
  refine Ends.step rfl (lit_yes (c := 13) rfl rfl (Nat.le_of_ble_eq_true rfl) rfl rfl (Nat.lt_of_succ_lt ht) h) ?_
  refine Ends.step rfl (lit_yes (c := 10) rfl rfl (Nat.le_of_ble_eq_true rfl) rfl rfl ht h') ?_
  refine Ends.step rfl (m1 := { A2 text ((((sn.add 7).add 16).add 16).add 15) mu out t with pc := 35, pos := t + 2, frames := [{ wait := .nextBranch, pc := 11, pos := t, outermost := out }, { wait := .nextStart, pc := 10, pos := t, outermost := out }], weight := 2 }) rfl ?_
  refine Ends.step rfl (succ_step rfl rfl (Nat.le_of_ble_eq_true rfl) rfl rfl (by show (t + 2 == t) = false; simp)) ?_
  refine Ends.step rfl rfl ?_
  refine Ends.step rfl rfl ?_
  refine Ends.step rfl rfl ?_
  exact Ends.done ⟨rfl, rfl, rfl⟩
theorem try2_cr (ht : t < text.size) (h : text.getD t 0 = 13) (h' : t + 1 < text.size → text.getD (t + 1) 0 ≠ 10) : Ends 18 (A2 text sn mu out t) (fun m' => m'.outcome = some .matched ∧ m'.start = t ∧ m'.handed = t + 1) := by
  have ne : text.getD t 0 ≠ 10 := by (first | lia | omega)
  refine Ends.step rfl (m1 := { A2 text (sn.add 7) mu out t with pc := 12, frames := [{ wait := .nextBranch, pc := 11, pos := t, outermost := out }, { wait := .nextStart, pc := 10, pos := t, outermost := out }], weight := 2 }) rfl ?_
  refine Ends.step rfl (lit_yes (c := 13) rfl rfl (Nat.le_of_ble_eq_true rfl) rfl rfl ht h) ?_
  refine Ends.step rfl (lit_no (c := 10) rfl rfl (Nat.le_of_ble_eq_true rfl) rfl rfl h') ?_
  refine Ends.step rfl (m1 := { A2 text (((sn.add 7).add 16).add 16) mu out t with pc := 19, frames := [{ wait := .nextBranch, pc := 18, pos := t, outermost := out }, { wait := .nextStart, pc := 10, pos := t, outermost := out }], weight := 2 }) rfl ?_
  refine Ends.step rfl (lit_no (c := 10) rfl rfl (Nat.le_of_ble_eq_true rfl) rfl rfl (fun _ => ne)) ?_
  refine Ends.step rfl (m1 := { A2 text ((((sn.add 7).add 16).add 16).add 16) mu out t with pc := 24, frames := [{ wait := .nextBranch, pc := 23, pos := t, outermost := out }, { wait := .nextStart, pc := 10, pos := t, outermost := out }], weight := 2 }) rfl ?_
  refine Ends.step rfl (lit_yes (c := 13) rfl rfl (Nat.le_of_ble_eq_true rfl) rfl rfl ht h) ?_
  refine Ends.step rfl (m1 := { A2 text ((((((sn.add 7).add 16).add 16).add 16).add 16).add 5) mu out t with pc := 29, pos := t + 1, handed := t + 1, outermost := false, frames := [{ wait := .lookNot, pc := 26, pos := t + 1, outermost := out }, { wait := .nextBranch, pc := 23, pos := t, outermost := out }, { wait := .nextStart, pc := 10, pos := t, outermost := out }], weight := 3 }) rfl ?_
  refine Ends.step rfl (lit_no (c := 10) rfl rfl (Nat.le_of_ble_eq_true rfl) rfl rfl h') ?_
  refine Ends.step rfl rfl ?_
  refine Ends.step rfl (m1 := { A2 text ((((((((sn.add 7).add 16).add 16).add 16).add 16).add 5).add 16).add 15) mu out t with pc := 35, pos := t + 1, handed := t + 1, frames := [{ wait := .nextBranch, pc := 23, pos := t, outermost := out }, { wait := .nextStart, pc := 10, pos := t, outermost := out }], weight := 2 }) rfl ?_
  refine Ends.step rfl (succ_step rfl rfl (Nat.le_of_ble_eq_true rfl) rfl rfl (by show (t + 1 == t) = false; simp)) ?_
  refine Ends.step rfl rfl ?_
  refine Ends.step rfl rfl ?_
  refine Ends.step rfl rfl ?_
  exact Ends.done ⟨rfl, rfl, rfl⟩
end
abbrev eol (c : Nat) : Bool := c == 10 || c == 13
section
variable {text : Array Nat}
theorem inSet2 (c : Nat) (sn : Seen) : inSet c2 c 36 5 true sn = if (c == 10) = true then .ok (true, sn.add 16) else if (c == 13) = true then .ok (true, (sn.add 16).add 16) else .ok (false, ((sn.add 16).add 16).add 0) := rfl
theorem inSet2_yes {c : Nat} (h : eol c = true) (sn : Seen) : ∃ sn', inSet c2 c 36 5 true sn = .ok (true, sn') := by
  rw [inSet2]
  by_cases h1 : (c == 10) = true
  · exact ⟨_, if_pos h1⟩
  · have h2 : (c == 13) = true := by simpa [eol, h1] using h
    exact ⟨_, by rw [if_neg h1, if_pos h2]⟩
theorem inSet2_no {c : Nat} (h : eol c = false) (sn : Seen) : ∃ sn', inSet c2 c 36 5 true sn = .ok (false, sn') := by
  rw [inSet2]
  simp only [eol, Bool.or_eq_false_iff] at h
  exact ⟨_, by rw [if_neg (by simp [h.1]), if_neg (by simp [h.2])]⟩
theorem admit_yes {m : M} (hc : m.code = c2) (hx : m.text = text) (hl : m.lim = text.size) {t : Nat} (ht : t < text.size) (he : eol (text.getD t 0) = true) : ∀ (d f s : Nat) (sn : Seen), s + d = t → d < f → (∀ i, s ≤ i → i < t → eol (text.getD i 0) = false) →
    ∃ sn', M.admitted m f s sn = .ok (some t, sn') := by
  intro d
  induction d with
  | zero =>
    intro f s sn hs hf hn
    obtain ⟨f, rfl⟩ : ∃ g, f = g + 1 := ⟨f - 1, by (first | lia | omega)⟩
    have e : s = t := by (first | lia | omega)
    subst e
    obtain ⟨sn', h2⟩ := inSet2_yes he sn
    refine ⟨sn', ?_⟩
    unfold M.admitted
    rw [if_neg (by rw [hl]; (first | lia | omega)), hc, hx]
    show (match inSet c2 (text.getD s 0) 36 5 true sn with | .ok (true, seen) => _ | .ok (false, seen) => _ | .error why => _) = _
    rw [h2]
  | succ d ih =>
    intro f s sn hs hf hn
    obtain ⟨f, rfl⟩ : ∃ g, f = g + 1 := ⟨f - 1, by (first | lia | omega)⟩
    obtain ⟨sn', h2⟩ := inSet2_no (hn s (Nat.le_refl _) (by (first | lia | omega))) sn
    obtain ⟨sn2, h3⟩ := ih f (s + 1) sn' (by (first | lia | omega)) (by (first | lia | omega)) (fun i a b => hn i (by (first | lia | omega)) b)
    refine ⟨sn2, ?_⟩
    unfold M.admitted
    rw [if_neg (by rw [hl]; (first | lia | omega)), hc, hx]
    show (match inSet c2 (text.getD s 0) 36 5 true sn with | .ok (true, seen) => _ | .ok (false, seen) => _ | .error why => _) = _
    rw [h2]; exact h3
theorem admit_no {m : M} (hc : m.code = c2) (hx : m.text = text) (hl : m.lim = text.size) : ∀ (f s : Nat) (sn : Seen), (∀ i, s ≤ i → i < text.size → eol (text.getD i 0) = false) →
    ∃ sn', M.admitted m f s sn = .ok (none, sn') := by
  intro f
  induction f with
  | zero => intro s sn _; exact ⟨_, rfl⟩
  | succ f ih =>
    intro s sn hn
    unfold M.admitted
    by_cases hs : s < text.size
    · obtain ⟨sn', h2⟩ := inSet2_no (hn s (Nat.le_refl _) hs) sn
      obtain ⟨sn2, h3⟩ := ih (s + 1) sn' (fun i a b => hn i (by (first | lia | omega)) b)
      refine ⟨sn2, ?_⟩
      rw [if_neg (by rw [hl]; (first | lia | omega)), hc, hx]
      show (match inSet c2 (text.getD s 0) 36 5 true sn with | .ok (true, seen) => _ | .ok (false, seen) => _ | .error why => _) = _
      rw [h2]; exact h3
    · exact ⟨_, by rw [if_pos (by rw [hl]; (first | lia | omega))]⟩
theorem header2 : header c2 = (1, 10) := rfl
abbrev B2 (text : Array Nat) (mu : Bool) (s : Nat) : M :=
  { code := c2, text, lim := text.size, start := s, lastStart := text.size, mustAdvance := mu, pc := 10, pos := s, handed := s, marks := #[], seen := ({} : Seen).add 14 }
theorem search2 {s : Nat} {mu : Bool} (hs : s < text.size) : forSearch c2 text 0 s text.size mu =
    (match M.admitted (B2 text mu s) (text.size + 1 - s) s (({} : Seen).add 14) with
      | .ok (some s', seen) => M.attemptAt { B2 text mu s with mustAdvance := false, seen } s' true
      | .ok (none, seen) => M.say { B2 text mu s with seen } false
      | .error why => M.stick (B2 text mu s) why) := by
  unfold forSearch
  have h1 : (s > text.size || text.size - s < (header c2).1) = false := by
    show (decide (s > text.size) || decide (text.size - s < 1)) = false
    simp; (first | lia | omega)
  simp only [h1, Bool.false_eq_true, if_false]
  rfl
theorem search2_yes {s t : Nat} {mu : Bool} (hs : s ≤ t) (ht : t < text.size) (he : eol (text.getD t 0) = true) (hn : ∀ i, s ≤ i → i < t → eol (text.getD i 0) = false) :
    ∃ sn, forSearch c2 text 0 s text.size mu = A2 text sn false true t := by
  rw [search2 (by (first | lia | omega))]
  obtain ⟨sn, h⟩ := admit_yes (m := B2 text mu s) rfl rfl rfl ht he (t - s) (text.size + 1 - s) s (({} : Seen).add 14) (by (first | lia | omega)) (by (first | lia | omega)) hn
  rw [h]
  exact ⟨sn, rfl⟩
theorem search2_no {s : Nat} {mu : Bool} (hs : s < text.size) (hn : ∀ i, s ≤ i → i < text.size → eol (text.getD i 0) = false) :
    Ends 1 (forSearch c2 text 0 s text.size mu) (fun m' => m'.outcome = some .failed) := by
  rw [search2 hs]
  obtain ⟨sn, h⟩ := admit_no (m := B2 text mu s) rfl rfl rfl (text.size + 1 - s) s (({} : Seen).add 14) hn
  rw [h]
  refine Ends.step rfl rfl ?_
  exact Ends.done rfl
theorem search2_end {s : Nat} {mu : Bool} (hs : s = text.size) : Ends 1 (forSearch c2 text 0 s text.size mu) (fun m' => m'.outcome = some .failed) := by
  have h1 : (s > text.size || text.size - s < (header c2).1) = true := by
    show (decide (s > text.size) || decide (text.size - s < 1)) = true
    simp; (first | lia | omega)
  unfold forSearch
  simp only [h1, if_true]
  refine Ends.step rfl rfl ?_
  exact Ends.done rfl
/-- how wide the line end at t is -/
def eolW (text : Array Nat) (t : Nat) : Nat := if text.getD t 0 = 13 ∧ t + 1 < text.size ∧ text.getD (t + 1) 0 = 10 then 2 else 1
theorem found2 {s t : Nat} {mu : Bool} (hs : s ≤ t) (ht : t < text.size) (he : eol (text.getD t 0) = true) (hn : ∀ i, s ≤ i → i < t → eol (text.getD i 0) = false) :
    Ends 18 (forSearch c2 text 0 s text.size mu) (fun m' => m'.outcome = some .matched ∧ m'.start = t ∧ m'.handed = t + eolW text t) := by
  obtain ⟨sn, h⟩ := search2_yes (mu := mu) hs ht he hn
  rw [h]
  simp only [eol, Bool.or_eq_true, beq_iff_eq] at he
  unfold eolW
  rcases he with he | he
  · rw [if_neg (by (first | lia | omega))]
    obtain ⟨n, m', h1, h2⟩ := try2_nl (sn := sn) (mu := false) (out := true) ht he
    exact ⟨n, m', by (first | lia | omega), h2⟩
  · by_cases h2 : t + 1 < text.size ∧ text.getD (t + 1) 0 = 10
    · rw [if_pos ⟨he, h2⟩]
      obtain ⟨n, m', h1, h2⟩ := try2_crlf (sn := sn) (mu := false) (out := true) h2.1 he h2.2
      exact ⟨n, m', by (first | lia | omega), h2⟩
    · rw [if_neg (fun x => h2 x.2)]
      exact try2_cr ht he (fun a b => h2 ⟨a, b⟩)
theorem lost2 {s : Nat} {mu : Bool} (hs : s ≤ text.size) (hn : ∀ i, s ≤ i → i < text.size → eol (text.getD i 0) = false) :
    Ends 18 (forSearch c2 text 0 s text.size mu) (fun m' => m'.outcome = some .failed) := by
  rcases Nat.lt_or_eq_of_le hs with h | h
  · obtain ⟨n, m', h1, h2⟩ := search2_no (mu := mu) h hn
    exact ⟨n, m', by (first | lia | omega), h2⟩
  · obtain ⟨n, m', h1, h2⟩ := search2_end (mu := mu) h
    exact ⟨n, m', by (first | lia | omega), h2⟩
theorem found1 {s t : Nat} {mu : Bool} (hs : s ≤ t) (ht : dot1 text t = true) (hn : ∀ i, s ≤ i → i < t → dot1 text i = false) :
    Ends (3 * text.size + 5) (forSearch c1 text 0 s text.size mu) (fun m' => m'.outcome = some .matched ∧ m'.start = t ∧ m'.handed = t + 1) := by
  have htl : t < text.size := by unfold dot1 at ht; simp only [Bool.and_eq_true, decide_eq_true_eq] at ht; exact ht.2.1
  rw [search1 (by (first | lia | omega))]
  obtain ⟨n, m', h1, h2⟩ := find1_yes ht (t - s) (({} : Seen).add 14) mu true s (by (first | lia | omega)) hn
  exact ⟨n, m', by (first | lia | omega), h2⟩
theorem lost1 {s : Nat} {mu : Bool} (hs : s ≤ text.size) (hn : ∀ i, s ≤ i → dot1 text i = false) :
    Ends (3 * text.size + 5) (forSearch c1 text 0 s text.size mu) (fun m' => m'.outcome = some .failed) := by
  rcases Nat.lt_or_eq_of_le hs with h | h
  · rw [search1 h]
    obtain ⟨n, m', h1, h2⟩ := find1_no (text := text) (text.size - s) (({} : Seen).add 14) mu true s (by (first | lia | omega)) hn
    exact ⟨n, m', by (first | lia | omega), h2⟩
  · obtain ⟨m, h1, h2, h3⟩ := search1_end (mu := mu) h
    rw [h1]
    exact ⟨1, _, by (first | lia | omega), Goes.step h2 rfl (Goes.zero _), h3⟩
end
end Mine
end
section
theorem Mine.forget_MyRw : True := by
  w_top off
  trivial
open PySem PySem.W PyProof.Rows PySem.Calls PySem.Spec PySem.Builtin PySem.Builtin.Re
open PySem.Sre (M)
set_option maxRecDepth 100000
namespace Mine
section
variable {Md : Model} {A : Around} {E : Value → Shared → Prop} {s : Shared}
theorem wp_reDrive {P : M → Prop} (hP : ∀ m', P m' → m'.outcome.isSome = true) {Q : M → Shared → Prop} (hQ : ∀ m', P m' → Q m' s) : ∀ (turns : Nat) (m : M), 0 < turns → Ends (4 * turns) m P → wpAny Md A (reDrive turns m) Q E s := by
  intro turns
  induction turns with
  | zero => intro m h; (first | lia | omega)
  | succ turns ih =>
    rintro m - ⟨n, m', hn, hg, hp⟩
    have hk : ∀ k, M.runFor k m' = m' := run_end (hP m' hp)
    unfold reDrive
    by_cases h4 : n ≤ 4
    · have e : M.runFor reTurnSteps m = m' := by
        have := hg (4 - n)
        rw [show n + (4 - n) = 4 by (first | lia | omega), hk] at this
        exact this
      simp only [e, hP m' hp, if_true]
      wp_walk
      exact hQ _ hp
    · have hr : ∀ k, M.runFor (n - 4 + k) (M.runFor reTurnSteps m) = M.runFor k m' := by
        intro k
        show M.runFor (n - 4 + k) (M.runFor 4 m) = _
        rw [← runFor_add, show 4 + (n - 4 + k) = n + k by (first | lia | omega)]; exact hg k
      by_cases ho : (M.runFor reTurnSteps m).outcome.isSome = true
      · have e : M.runFor reTurnSteps m = m' := by
          have := hr 0
          rw [run_end ho, hk] at this; exact this
        simp only [ho, if_true]
        wp_walk
        rw [e]; exact hQ _ hp
      · simp only [ho, if_false]
        wp_walk
        exact ih _ (by (first | lia | omega)) ⟨n - 4, m', by (first | lia | omega), hr, hp⟩
theorem wp_tell {f : Nat → Bool} {g : Nat → String} {Q : PUnit → Shared → Prop} (h : Q PUnit.unit s) : ∀ l : List Nat, wpAny Md A (forIn l PUnit.unit fun i __s => if f i = true then do rule (g i); pure (ForInStep.yield PUnit.unit) else pure (ForInStep.yield PUnit.unit)) Q E s := by
  intro l
  induction l with
  | nil => rw [List.forIn_nil]; wp_walk; exact h
  | cons i l ih =>
    rw [List.forIn_cons]
    refine wpAny_bind (wpAny_mono (Q := fun r s' => r = ForInStep.yield PUnit.unit ∧ s' = s) (E := fun _ _ => False) ?_ (fun r s' hr => ?_) fun _ _ x => x.elim)
    · by_cases hf : f i = true
      · rw [if_pos hf]; wp_walk; exact ⟨rfl, rfl⟩
      · rw [if_neg hf]; wp_walk; exact ⟨rfl, rfl⟩
    · obtain ⟨rfl, rfl⟩ := hr
      exact ih
theorem wp_reRun {b : Nat} {m : M} {P : M → Prop} (h : Ends b m P) (hb : b ≤ 4 * 2 ^ 64) {Q : Option M → Shared → Prop} (hP : ∀ m', P m' → (m'.outcome = some .matched ∧ Q (some m') s) ∨ (m'.outcome = some .failed ∧ Q none s)) : wpAny Md A (reRunToEnd m) Q E s := by
  unfold reRunToEnd
  refine wpAny_bind (wp_reDrive (P := P) (fun m' hm => ?_) (fun m' hm => ?_) (2 ^ 64) m (by decide) ?_)
  · rcases hP m' hm with h | h <;> rw [h.1] <;> rfl
  · refine wpAny_bind (wp_tell ?_ _)
    rcases hP m' hm with h | h
    · rw [h.1]; wp_walk; exact h.2
    · rw [h.1]; wp_walk; exact h.2
  · obtain ⟨n, m', h1, h2⟩ := h
    exact ⟨n, m', Nat.le_trans h1 hb, h2⟩
end
end Mine
end
section
theorem Mine.forget_MySb : True := by
  w_top off
  trivial
open PySem PySem.W PyProof.Rows PySem.Calls PySem.Spec PySem.Builtin PySem.Builtin.Re
open PySem.Sre (M)
set_option maxRecDepth 100000
namespace Mine
theorem entry_subloop : entryFor table "re.Pattern.sub.loop" = some Builtin.«re.Pattern.sub.loop» := entryFor_of_fast (by kernel_rfl)
theorem plain_subloop : plainId "re.Pattern.sub.loop" = true := by decide +kernel
abbrev patO (pv fl : Value) (T : Addr) : Obj := { cls := .type "re.Pattern", data := .fields #[pv, fl, .int 0 0, .none, .none, .ref T, .int 0 0] }
abbrev codO (its : Array Value) : Obj := { cls := .type "tuple", data := .seq its }
abbrev trg (P : Addr) (x : Str) (t : Tok) (c : Array Nat) : ReTarget := { pattern := .ref P, string := .str x t, code := c, text := x.cps, kind := 0, groups := 0, pos := 0, lim := x.cps.size }
section
variable {prog : Program} {w : World} {A : Around} {E : Value → Shared → Prop} {s : Shared}
theorem wp_whole {P T : Addr} {pv fl : Value} {its : Array Value} {c : Array Nat} {x : Str} {t : Tok} {Q : ReTarget → Shared → Prop} (hp : s.heap.get? P = some (patO pv fl T)) (hc : s.heap.get? T = some (codO its)) (he : (its.map reRawOf).map (·.toNat) = c) (h : Q (trg P x t c) s) :
    wpAny (model prog w) A (reWholeTarget (.ref P) (.str x t)) Q E s := by
  unfold reWholeTarget reTextOf reNoCollectionInside reRawItems
  wp_walk
  subst he; exact h
/-- what the loop finds from a place, and the text that it makes from there -/
def Finds (c : Array Nat) (text : Array Nat) (r : List Nat) (G : Nat → List Nat) (a : Nat) : Prop :=
  (∃ t hd, a ≤ t ∧ t < hd ∧ hd ≤ text.size ∧ G a = (text.extract a t).toList ++ r ++ G hd ∧ Ends (4 * 2 ^ 64) (Sre.forSearch c text 0 a text.size false) (fun m => m.outcome = some .matched ∧ m.start = t ∧ m.handed = hd)) ∨
  (G a = (text.extract a text.size).toList ∧ Ends (4 * 2 ^ 64) (Sre.forSearch c text 0 a text.size false) (fun m => m.outcome = some .failed))
def cat (l : List (Str × Tok)) : List Nat := (l.map fun p => lst p.1).flatten
theorem cat_cons (p : Str × Tok) (l : List (Str × Tok)) : cat (p :: l) = lst p.1 ++ cat l := by simp [cat]
theorem cat_snoc (p : Str × Tok) (l : List (Str × Tok)) : cat (l ++ [p]) = cat l ++ lst p.1 := by simp [cat]
theorem glue_fold (l : List (Str × Tok)) : ∀ acc : Array Nat, ((l.map (·.1)).foldl (fun acc p => acc ++ (⟨#[]⟩ : Str).cps ++ p.cps) acc).toList = acc.toList ++ cat l := by
  induction l with
  | nil => intro acc; simp [cat]
  | cons p l ih =>
    intro acc
    rw [List.map_cons, List.foldl_cons, ih, cat_cons]
    simp [lst]
theorem glue_cat (l : List (Str × Tok)) : Builtin.Str.glued ⟨#[]⟩ (l.map (·.1)) = ⟨(cat l).toArray⟩ := by
  cases l with
  | nil => rfl
  | cons p l =>
    apply str_ext
    rw [lst_mk, cat_cons]
    show (((p :: l).map (·.1)).drop 1 |>.foldl (fun acc p => acc ++ (⟨#[]⟩ : Str).cps ++ p.cps) p.1.cps).toList = _
    rw [List.map_cons, List.drop_one, List.tail_cons, glue_fold]
theorem fold_len (l : List (Str × Tok)) : ∀ n, ((l.map (·.1)).toArray.foldl (· + ·.length + (⟨#[]⟩ : Str).length) n) = n + (cat l).length := by
  intro n
  rw [List.foldl_toArray]
  induction l generalizing n with
  | nil => simp [cat]
  | cons p l ih =>
    rw [List.map_cons, List.foldl_cons, ih, cat_cons, List.length_append, ← len_lst]
    show n + p.1.length + 0 + _ = _
    (first | lia | omega)
theorem wp_join {D : Addr} {l : List (Str × Tok)} {t : Tok} {e : Nat} {Q : Value → Shared → Prop} (hD : s.heap.get? D = some { cls := .type "list", data := .seq (strValues l).toArray e }) (hl : (cat l).length ≤ sizeLine)
    (h : ∀ tv k', Q (.str ⟨(cat l).toArray⟩ tv) { s with toks := k' }) : wpAny (model prog w) A (call (.builtin "str.join") [.str ⟨#[]⟩ t, .ref D]) Q E s := by
  refine call_meets PySem.F.slot_str_join (T := "str") rfl PySem.F.entry_str_join (PySem.F.args_str_join_2 _ _) (meets_str_join_list ⟨#[]⟩ t D l ?_) ⟨⟨_, hD, rfl, e, rfl⟩, ?_⟩
  · rw [fold_len, Nat.zero_add]
    unfold Builtin.Str.tooLong
    simpa using hl
  · cases l with
    | nil => exact ⟨hl, h _ _⟩
    | cons p r => cases r with
      | nil =>
        have e : (⟨(cat [p]).toArray⟩ : Str) = p.1 := by apply str_ext; rw [lst_mk, cat_cons]; simp [cat]
        have := h p.2 s.toks
        rw [e] at this
        exact this
      | cons q r' =>
        refine ⟨?_, ?_⟩
        · rw [glue_cat, len_lst, lst_mk]; exact hl
        · rw [glue_cat]; exact h _ _
theorem wp_slice {x : Array Nat} {a b : Nat} {Q : Value → Shared → Prop} (hb : (x.extract a b).size ≤ sizeLine) (h : Q (.str ⟨x.extract a b⟩ s.toks) { s with toks := s.toks + 1 }) : wpAny (model prog w) A (reSlice x 0 a b) Q E s :=
  wpAny_mkStr (x := ⟨x.extract a b⟩) h hb
theorem wp_push {D : Addr} {l : List (Str × Tok)} {x : Str} {tx : Tok} {e : Nat} {Q : Unit → Shared → Prop} (hD : s.heap.get? D = some { cls := .type "list", data := .seq (strValues l).toArray e }) (hl : l.length ≤ sizeLine)
    (h : ∀ h', Heap.SameBut D s.heap h' → h'.get? D = some { cls := .type "list", data := .seq (strValues (l ++ [(x, tx)])).toArray (e + 1) } → Q () { s with heap := h' }) :
    wpAny (model prog w) A (updateSeq D fun v => v.push (.str x tx)) Q E s := by
  have hz : (strValues l).toArray.size ≤ sizeLine := by simpa [strValues] using hl
  refine wpAny_updateSeq hD rfl (h _ (Heap.SameBut.update ..) ?_) hz (by rw [Array.size_push]; (first | lia | omega))
  rw [Heap.get?_update_self _ hD (by rw [mapSeq_push]; rfl), mapSeq_push]
  simp [strValues]
theorem sub_loop {R : Result → Shared → Prop} {P T D : Addr} {pv fl : Value} {its : Array Value} {c : Array Nat} {x r : Str} {t tr : Tok} {G : Nat → List Nat} (he : (its.map reRawOf).map (·.toNat) = c) (hPD : P ≠ D) (hTD : T ≠ D)
    (hF : ∀ a, a ≤ x.cps.size → Finds c x.cps (lst r) G a) (hx : x.length ≤ 100000) (hr : r.length ≤ 100) :
    ∀ (k : Nat) (n : Int) (a : Nat) (l : List (Str × Tok)) (e : Nat) (s : Shared), x.cps.size - a = k → a ≤ x.cps.size → l.length ≤ 2 * a → (cat l).length ≤ 101 * a → s.heap.get? P = some (patO pv fl T) → s.heap.get? T = some (codO its) →
      s.heap.get? D = some { cls := .type "list", data := .seq (strValues l).toArray e } →
      (∀ h' tv k', (∀ b o, b ≠ D → s.heap.get? b = some o → h'.get? b = some o) → R (.ok (.ret (.str ⟨(cat l ++ G a).toArray⟩ tv))) { s with heap := h', toks := k' }) →
      codeAny (model prog w) A (.builtin "re.Pattern.sub.loop" ⟨[.ref P, .str x t, .str r tr, rawInt 0, rawInt 0, rawInt n, rawInt a, rawInt a, .bool false, .ref D, .bool false], []⟩) R s := by
  intro k
  induction k using Nat.strongRecOn with
  | ind k ih =>
    intro n a l e s hk ha hl2 hl3 hp hT hD hR
    refine codeAny_builtin entry_subloop ?_
    rw [Around.under_plainId plain_subloop _]
    unfold Builtin.«re.Pattern.sub.loop»
    dsimp only [rawInt]
    refine wpAny_bind (wp_whole hp hT he ?_)
    unfold reLiteralCannotBeTurned
    generalize hN : reNextFound = nf
    wp_walk
    subst hN
    unfold reNextFound
    rcases hF a ha with ⟨t', hd, h1, h2, h3, h4, h5⟩ | ⟨h4, h5⟩
    · refine wp_reRun h5 (Nat.le_refl _) fun m' hm => .inl ⟨hm.1, ?_⟩
      obtain ⟨-, hst, hha⟩ := hm
      have hxl : x.cps.size ≤ 100000 := hx
      have hzl : sizeLine = 16777216 := rfl
      have hne : (m'.handed == m'.start) = false := by rw [hst, hha]; simp; (first | lia | omega)
      have tail : ∀ (l' : List (Str × Tok)) (e' : Nat) (s' : Shared), cat l' = cat l ++ (x.cps.extract a t').toList → l'.length ≤ 2 * a + 1 → s'.gens = s.gens → s'.drawn = s.drawn → s'.os = s.os → (∀ b o, b ≠ D → s.heap.get? b = some o → s'.heap.get? b = some o) →
          s'.heap.get? D = some { cls := .type "list", data := .seq (strValues l').toArray e' } →
          wpAny (model prog w) A.in1 (updateSeq D fun v => v.push (.str r tr)) (fun _ s'' => codeAny (model prog w) A (.builtin "re.Pattern.sub.loop" ⟨[.ref P, .str x t, .str r tr, rawInt 0, rawInt 0, rawInt (n + 1), rawInt hd, rawInt hd, .bool false, .ref D, .bool false], []⟩) R s'') (fun e s' => R (.error e) s') s' := by
        intro l' e' s' hc' hl' hg hdr hos hkeep hD'
        refine wp_push hD' (by (first | lia | omega)) fun h' hs hD2 => ?_
        have hex : (x.cps.extract a t').size = t' - a := by rw [Array.size_extract]; (first | lia | omega)
        refine ih (x.cps.size - hd) (by (first | lia | omega)) (n + 1) hd (l' ++ [(r, tr)]) (e' + 1) { s' with heap := h' } rfl h3 (by rw [List.length_append, List.length_singleton]; (first | lia | omega)) ?_ ((hs.2 P hPD).trans (hkeep _ _ hPD hp)) ((hs.2 T hTD).trans (hkeep _ _ hTD hT)) hD2 ?_
        · rw [cat_snoc, hc', List.length_append, List.length_append, show (x.cps.extract a t').toList.length = t' - a from hex]
          have : (lst r).length = r.length := (len_lst r).symm
          dsimp only
          (first | lia | omega)
        · intro h2 tv k' hk2
          have := hR h2 tv k' fun b o hb ho => hk2 b o hb ((hs.2 b hb).trans (hkeep b o hb ho))
          rw [h4] at this
          rw [cat_snoc, hc', show ({ s' with heap := h2, toks := k' } : Shared) = { s with heap := h2, toks := k' } from by rw [hg, hdr, hos]]
          simpa only [List.append_assoc] using this
      dsimp only [rawInt] at tail
      have hcast : ((a : Int)).toNat = a := Int.toNat_natCast a
      dsimp only
      rw [hcast, hst, hha]
      rw [hst, hha] at hne
      have eq0 : ((0 : Int) == 0) = true := rfl
      by_cases hlt : a < t'
      · rw [if_pos hlt]
        refine wpAny_bind (wp_slice (by rw [Array.size_extract]; (first | lia | omega)) ?_)
        refine wpAny_bind (wp_push hD (by (first | lia | omega)) fun h' hs hD2 => ?_)
        rw [if_pos eq0]
        refine wpAny_bind (wpAny_pure ?_)
        rw [if_pos (show (Value.str r tr != Value.none) = true from rfl)]
        refine wpAny_bind (wpAny_mono (tail (l ++ [(⟨x.cps.extract a t'⟩, s.toks)]) (e + 1) { s with heap := h', toks := s.toks + 1 } (by rw [cat_snoc]) (by rw [List.length_append, List.length_singleton]; (first | lia | omega)) rfl rfl rfl (fun b o hb ho => (hs.2 b hb).trans ho) hD2) (fun _ s2 hq => ?_) fun _ _ x => x)
        rw [hne]
        exact wpAny_pure ⟨plainId_quiet plain_subloop _, hq⟩
      · rw [if_neg hlt]
        rw [if_pos eq0]
        refine wpAny_bind (wpAny_pure ?_)
        rw [if_pos (show (Value.str r tr != Value.none) = true from rfl)]
        have hz : (x.cps.extract a t').toList = [] := by
          rw [← List.length_eq_zero_iff, Array.length_toList, Array.size_extract]; (first | lia | omega)
        refine wpAny_bind (wpAny_mono (tail l e s (by rw [hz, List.append_nil]) (by (first | lia | omega)) rfl rfl rfl (fun b o hb ho => ho) hD) (fun _ s2 hq => ?_) fun _ _ x => x)
        rw [hne]
        exact wpAny_pure ⟨plainId_quiet plain_subloop _, hq⟩
    · refine wp_reRun h5 (Nat.le_refl _) fun m' hm => .inr ⟨hm, ?_⟩
      have hxl : x.cps.size ≤ 100000 := hx
      have hzl : sizeLine = 16777216 := rfl
      have hcast : ((a : Int)).toNat = a := Int.toNat_natCast a
      have e0 : x.cps.extract 0 0 = #[] := by simp
      dsimp only
      rw [hcast]
      by_cases hlt : a < x.cps.size
      · rw [if_pos hlt]
        refine wpAny_bind (wp_slice (by rw [Array.size_extract]; (first | lia | omega)) ?_)
        refine wpAny_bind (wp_push hD (by (first | lia | omega)) fun h' hs hD2 => ?_)
        refine wpAny_bind (wp_slice (by rw [e0]; exact Nat.zero_le _) ?_)
        unfold seqItems?
        refine wpAny_bind (wpAny_bind (wpAny_load hD2 (wpAny_pure ?_)))
        rw [if_neg (by simp [strValues]), e0]
        refine wpAny_bind (wp_join hD2 ?_ fun tv k' => ?_)
        · rw [cat_snoc, List.length_append]
          have hex : (x.cps.extract a x.cps.size).toList.length = x.cps.size - a := by
            show (x.cps.extract a x.cps.size).size = _
            rw [Array.size_extract]; (first | lia | omega)
          dsimp only
          rw [show lst ⟨x.cps.extract a x.cps.size⟩ = (x.cps.extract a x.cps.size).toList from rfl, hex]; (first | lia | omega)
        · rw [if_neg (by decide)]
          have := hR h' tv k' fun b o hb ho => (hs.2 b hb).trans ho
          rw [h4] at this
          rw [cat_snoc]
          exact wpAny_pure this
      · rw [if_neg hlt]
        have hz : (x.cps.extract a x.cps.size).toList = [] := by
          rw [← List.length_eq_zero_iff, Array.length_toList, Array.size_extract]; (first | lia | omega)
        rw [h4, hz, List.append_nil] at hR
        refine wpAny_bind (wp_slice (by rw [e0]; exact Nat.zero_le _) ?_)
        unfold seqItems?
        refine wpAny_bind (wpAny_bind (wpAny_load hD (wpAny_pure ?_)))
        rw [e0]
        by_cases hlz : l = []
        · subst hlz
          rw [if_pos (by simp [strValues])]
          refine wpAny_bind (wpAny_pure ?_)
          rw [if_neg (by decide)]
          exact wpAny_pure (hR _ _ _ fun b o hb ho => ho)
        · rw [if_neg (by simpa [strValues] using hlz)]
          refine wpAny_bind (wp_join hD (by (first | lia | omega)) fun tv k' => ?_)
          rw [if_neg (by decide)]
          exact wpAny_pure (hR _ _ _ fun b o hb ho => ho)
end
end Mine
end
section
theorem Mine.forget_MyQ : True := by
  w_top off
  trivial
open PySem PySem.W PyProof.Rows PySem.Calls PySem.Spec PySem.Builtin PySem.Builtin.Re
open PySem.Sre (M)
set_option maxRecDepth 100000
namespace Mine
theorem plain_re : PlainAttrs "re.Pattern" :=
  ⟨⟨"object.__getattribute__", by rw [typeLookup_type, builtinLookup_eq_fast]; kernel_rfl, by decide +kernel⟩, by rw [typeLookup_type, builtinLookup_eq_fast]; kernel_rfl⟩
theorem slot_re_sub : Slot "re.Pattern" (Str.ofString "sub") "re.Pattern.sub" :=
  .of (owner := "re.Pattern") (n := "sub") (by rw [typeLookup_type, builtinLookup_eq_fast]; kernel_rfl) (by decide +kernel) (by decide +kernel) (by decide +kernel)
    (by first | exact .inl (by decide +kernel) | exact .inr (by decide +kernel)) (by rw [isSubtype_type]; kernel_rfl)
theorem type_re_sub : typeOf (.builtin "re.Pattern.sub") = pure (.type "method_descriptor") := by show builtinType _ = _; rw [builtinType_eq_fast]; kernel_rfl
theorem entry_re_sub : entryFor table "re.Pattern.sub" = some Builtin.«re.Pattern.sub» := entryFor_of_fast (by kernel_rfl)
theorem args_re_sub (a b c : Value) : argsOk "re.Pattern.sub" ⟨[a, b, c], []⟩ := by kernel_rfl
theorem str_call : typeLookup (.type "str") (Str.ofString "__call__") = pure none := by rw [typeLookup_type, builtinLookup_eq_fast]; kernel_rfl
theorem named_re (a b : Value) : reNamed "re.Pattern.sub" "sub" ["repl", "string", "count"] 2 [a, b] [] = pure [some a, some b, none] := by kernel_rfl
section
variable {prog : Program} {w : World} {A : Around} {E : Value → Shared → Prop} {s : Shared}
theorem getMethod_re {P T : Addr} {pv fl : Value} {pl : Sem Bool} {Q : Value × List Value → Shared → Prop} (hp : s.heap.get? P = some (patO pv fl T)) (h : Q (.builtin "re.Pattern.sub", [.ref P]) s) :
    wpAny (model prog w) A (getMethod (.ref P) (Str.ofString "sub") pl) Q E s :=
  getMethod_builtin ⟨_, hp, rfl⟩ plain_re slot_re_sub type_re_sub (fun a e => by cases e; exact ⟨_, hp, rfl⟩) h
theorem call_sub {P T : Addr} {pv fl : Value} {its : Array Value} {c : Array Nat} {x r : Str} {t tr : Tok} {G : Nat → List Nat} {Q : Value → Shared → Prop} (hp : s.heap.get? P = some (patO pv fl T)) (hT : s.heap.get? T = some (codO its))
    (he : (its.map reRawOf).map (·.toNat) = c) (hF : ∀ a, a ≤ x.cps.size → Finds c x.cps (lst r) G a) (hx : x.length ≤ 100000) (hr : r.length ≤ 100) (hb : r.cps.contains 92 = false)
    (h : ∀ h' tv k', (∀ b o, s.heap.get? b = some o → h'.get? b = some o) → Q (.str ⟨(G 0).toArray⟩ tv) { s with heap := h', toks := k' }) :
    wpAny (model prog w) A (call (.builtin "re.Pattern.sub") [.ref P, .str r tr, .str x t]) Q E s := by
  have hTy : s.TypeIs (.ref P) "re.Pattern" := ⟨_, hp, rfl⟩
  refine wpAny_call (codeAny_call_builtin slot_re_sub.plain entry_re_sub (slot_re_sub.check _ _ _ _ _ _ _ _ hTy (args_re_sub _ _ _) ?_))
  unfold Builtin.«re.Pattern.sub» reSubstitute
  dsimp only
  refine wpAny_bind (wpAny_of_eq (named_re _ _) ?_)
  dsimp only
  refine wpAny_bind (wpAny_pure ?_)
  refine wpAny_bind (wpAny_specialOf (T := "str") (show s.TypeIs (.str r tr) "str" from rfl) str_call ?_)
  rw [if_neg (by decide)]
  refine wpAny_bind (wpAny_of_eq (show asStr? (.str r tr) = pure (some r) from rfl) ?_)
  dsimp only
  refine wpAny_bind (wpAny_pure ?_)
  rw [if_neg (by decide), hb, if_pos (by decide)]
  refine wpAny_bind (wpAny_pure ?_)
  refine wpAny_bind (wpAny_holding (wp_whole hp hT he ?_))
  dsimp only
  rw [if_neg (by decide)]
  refine wpAny_bind (wpAny_newList ?_ (Nat.zero_le _))
  refine wpAny_pure ⟨plainId_quiet plain_subloop _, ?_⟩
  have hPs := Heap.lt_size hp
  have hTs := Heap.lt_size hT
  refine sub_loop (c := c) (G := G) he (Nat.ne_of_lt hPs) (Nat.ne_of_lt hTs) hF hx hr (x.cps.size - 0) 0 0 [] 0 _ rfl (Nat.zero_le _) (Nat.le_refl _) (Nat.le_refl _) (Heap.get?_push_of_some _ hp) (Heap.get?_push_of_some _ hT) (Heap.get?_push_size _ rfl) fun h' tv k' hk => ?_
  exact h h' tv k' fun b o ho => hk b o (Nat.ne_of_lt (Heap.lt_size ho)) (Heap.get?_push_of_some _ ho)
end
/-- line ends -/
def crlf : List Nat → List Nat
  | [] => []
  | [c] => if c = 13 ∨ c = 10 then [13, 10] else [c]
  | c :: d :: r => if c = 13 ∧ d = 10 then 13 :: 10 :: crlf r else if c = 13 ∨ c = 10 then 13 :: 10 :: crlf (d :: r) else c :: crlf (d :: r)
/-- dots at the lines' starts -/
def dots : Bool → List Nat → List Nat
  | _, [] => []
  | b, c :: r => (if b = true ∧ c = 46 then [46, 46] else [c]) ++ dots (c == 10) r
end Mine
end
section
theorem Mine.forget_MyQ2 : True := by
  w_top off
  trivial
open PySem PySem.Sre
set_option maxRecDepth 100000
namespace Mine
theorem first_or (p : Nat → Bool) (n : Nat) : ∀ d a, a + d = n → (∃ t, a ≤ t ∧ t < n ∧ p t = true ∧ ∀ i, a ≤ i → i < t → p i = false) ∨ (∀ i, a ≤ i → i < n → p i = false) := by
  intro d
  induction d with
  | zero => intro a h; exact .inr fun i h1 h2 => by (first | lia | omega)
  | succ d ih =>
    intro a h
    cases hp : p a with
    | true => exact .inl ⟨a, Nat.le_refl _, by (first | lia | omega), hp, fun i h1 h2 => by (first | lia | omega)⟩
    | false =>
      rcases ih (a + 1) (by (first | lia | omega)) with ⟨t, h1, h2, h3, h4⟩ | h4
      · refine .inl ⟨t, by (first | lia | omega), h2, h3, fun i h5 h6 => ?_⟩
        rcases Nat.eq_or_lt_of_le h5 with e | e
        · rw [← e]; exact hp
        · exact h4 i e h6
      · refine .inr fun i h5 h6 => ?_
        rcases Nat.eq_or_lt_of_le h5 with e | e
        · rw [← e]; exact hp
        · exact h4 i e h6
theorem drop_cons {x : Array Nat} {t : Nat} (h : t < x.size) : x.toList.drop t = x.getD t 0 :: x.toList.drop (t + 1) := by
  have hl : t < x.toList.length := h
  rw [List.drop_eq_getElem_cons hl]
  congr 1
  simp [Array.getD, h]
theorem ext_list (x : Array Nat) (a b : Nat) : (x.extract a b).toList = (x.toList.drop a).take (b - a) := by simp [List.extract]
theorem crlf_plain {c : Nat} (h : eol c = false) (r : List Nat) : crlf (c :: r) = c :: crlf r := by
  simp only [eol, Bool.or_eq_false_iff, beq_eq_false_iff_ne] at h
  cases r with
  | nil => simp [crlf, h.1, h.2]
  | cons d r => simp [crlf, h.1, h.2]
theorem crlf_nl (r : List Nat) : crlf (10 :: r) = 13 :: 10 :: crlf r := by cases r <;> simp [crlf]
theorem crlf_crlf (r : List Nat) : crlf (13 :: 10 :: r) = 13 :: 10 :: crlf r := by simp [crlf]
theorem crlf_cr {r : List Nat} (h : ∀ r', r ≠ 10 :: r') : crlf (13 :: r) = 13 :: 10 :: crlf r := by
  cases r with
  | nil => simp [crlf]
  | cons d r =>
    have : d ≠ 10 := fun e => h r (by rw [e])
    simp [crlf, this]
section
variable {x : Array Nat}
theorem crlf_pre : ∀ (d a : Nat), a + d ≤ x.size → (∀ i, a ≤ i → i < a + d → eol (x.getD i 0) = false) → crlf (x.toList.drop a) = (x.toList.drop a).take d ++ crlf (x.toList.drop (a + d)) := by
  intro d
  induction d with
  | zero => intro a _ _; simp
  | succ d ih =>
    intro a h hn
    rw [drop_cons (by (first | lia | omega)), crlf_plain (hn a (Nat.le_refl _) (by (first | lia | omega))), ih (a + 1) (by (first | lia | omega)) (fun i h1 h2 => hn i (by (first | lia | omega)) (by (first | lia | omega)))]
    rw [show a + 1 + d = a + (d + 1) by (first | lia | omega)]
    simp
theorem crlf_at {t : Nat} (h : t < x.size) (he : eol (x.getD t 0) = true) : crlf (x.toList.drop t) = [13, 10] ++ crlf (x.toList.drop (t + eolW x t)) := by
  simp only [eol, Bool.or_eq_true, beq_iff_eq] at he
  unfold eolW
  rw [drop_cons h]
  rcases he with he | he
  · rw [if_neg (by (first | lia | omega)), he, crlf_nl]; rfl
  · by_cases h2 : t + 1 < x.size ∧ x.getD (t + 1) 0 = 10
    · rw [if_pos ⟨he, h2⟩, he, drop_cons h2.1, h2.2, crlf_crlf]; rfl
    · rw [if_neg (fun z => h2 z.2), he, crlf_cr]; rfl
      intro r' e
      by_cases h3 : t + 1 < x.size
      · rw [drop_cons h3] at e
        injection e with e1 e2
        exact h2 ⟨h3, e1⟩
      · rw [List.drop_eq_nil_of_le (by simpa using h3)] at e; cases e
theorem eolW_le {t : Nat} (h : t < x.size) : t < t + eolW x t ∧ t + eolW x t ≤ x.size := by
  unfold eolW
  by_cases h' : x.getD t 0 = 13 ∧ t + 1 < x.size ∧ x.getD (t + 1) 0 = 10
  · rw [if_pos h']; (first | lia | omega)
  · rw [if_neg h']; (first | lia | omega)
theorem finds2 {a : Nat} (ha : a ≤ x.size) : Finds c2 x [13, 10] (fun a => crlf (x.toList.drop a)) a := by
  rcases first_or (fun i => eol (x.getD i 0)) x.size (x.size - a) a (by (first | lia | omega)) with ⟨t, h1, h2, h3, h4⟩ | h4
  · refine .inl ⟨t, t + eolW x t, h1, (eolW_le h2).1, (eolW_le h2).2, ?_, ?_⟩
    · have := crlf_pre (x := x) (t - a) a (by (first | lia | omega)) (fun i h5 h6 => h4 i h5 (by (first | lia | omega)))
      dsimp only
      rw [this, ext_list, show a + (t - a) = t by (first | lia | omega), crlf_at h2 h3, List.append_assoc]
    · obtain ⟨n, m', h5, h6⟩ := found2 (mu := false) h1 h2 h3 h4
      exact ⟨n, m', by (first | lia | omega), h6⟩
  · refine .inr ⟨?_, ?_⟩
    · have := crlf_pre (x := x) (x.size - a) a (by (first | lia | omega)) (fun i h5 h6 => h4 i h5 (by (first | lia | omega)))
      dsimp only
      rw [this, ext_list, show a + (x.size - a) = x.size by (first | lia | omega)]
      rw [List.drop_eq_nil_of_le (i := x.size) (by simp)]
      simp [crlf]
    · obtain ⟨n, m', h5, h6⟩ := lost2 (mu := false) ha h4
      exact ⟨n, m', by (first | lia | omega), h6⟩
abbrev bol (x : Array Nat) (a : Nat) : Bool := a == 0 || x.getD (a - 1) 0 == 10
theorem dots_pre : ∀ (d a : Nat), a + d ≤ x.size → (∀ i, a ≤ i → i < a + d → dot1 x i = false) → dots (bol x a) (x.toList.drop a) = (x.toList.drop a).take d ++ dots (bol x (a + d)) (x.toList.drop (a + d)) := by
  intro d
  induction d with
  | zero => intro a _ _; simp
  | succ d ih =>
    intro a h hn
    have h0 := hn a (Nat.le_refl _) (by (first | lia | omega))
    unfold dot1 at h0
    have hb : (bol x (a + 1)) = (x.getD a 0 == 10) := by simp [bol]
    rw [drop_cons (by (first | lia | omega)), dots, ← hb, ih (a + 1) (by (first | lia | omega)) (fun i h1 h2 => hn i (by (first | lia | omega)) (by (first | lia | omega)))]
    rw [show a + 1 + d = a + (d + 1) by (first | lia | omega)]
    rw [if_neg]
    · simp
    · rintro ⟨h1, h2⟩
      have h1' : (a == 0 || x.getD (a - 1) 0 == 10) = true := h1
      rw [h1', h2] at h0
      simp at h0; (first | lia | omega)
theorem finds1 {a : Nat} (ha : a ≤ x.size) (hz : x.size ≤ 100000) : Finds c1 x [46, 46] (fun a => dots (bol x a) (x.toList.drop a)) a := by
  rcases first_or (fun i => dot1 x i) x.size (x.size - a) a (by (first | lia | omega)) with ⟨t, h1, h2, h3, h4⟩ | h4
  · refine .inl ⟨t, t + 1, h1, by (first | lia | omega), by (first | lia | omega), ?_, ?_⟩
    · have := dots_pre (x := x) (t - a) a (by (first | lia | omega)) (fun i h5 h6 => h4 i h5 (by (first | lia | omega)))
      dsimp only
      rw [this, ext_list, show a + (t - a) = t by (first | lia | omega), List.append_assoc]
      congr 1
      have h3' := h3
      unfold dot1 at h3'
      simp only [Bool.and_eq_true, decide_eq_true_eq, beq_iff_eq] at h3'
      have hb : (bol x (t + 1)) = (x.getD t 0 == 10) := by simp [bol]
      rw [drop_cons h2, dots, if_pos ⟨h3'.1, h3'.2.2⟩, hb]
    · obtain ⟨n, m', h5, h6⟩ := found1 (mu := false) h1 h3 h4
      exact ⟨n, m', by (first | lia | omega), h6⟩
  · have h4' : ∀ i, a ≤ i → dot1 x i = false := by
      intro i hi
      by_cases h : i < x.size
      · exact h4 i hi h
      · unfold dot1; simp [h]
    refine .inr ⟨?_, ?_⟩
    · have := dots_pre (x := x) (x.size - a) a (by (first | lia | omega)) (fun i h5 h6 => h4 i h5 (by (first | lia | omega)))
      dsimp only
      rw [this, ext_list, show a + (x.size - a) = x.size by (first | lia | omega)]
      rw [List.drop_eq_nil_of_le (i := x.size) (by simp)]
      simp [dots]
    · obtain ⟨n, m', h5, h6⟩ := lost1 (mu := false) ha h4'
      exact ⟨n, m', by (first | lia | omega), h6⟩
end
end Mine
end
section
theorem Mine.forget_MyC : True := by
  w_top off
  trivial
open PySem PySem.W PyProof.Rows PySem.Calls PySem.Spec
set_option maxRecDepth 100000
namespace Mine
theorem allLt_ne {d D : Nat} : ∀ {l : List (Addr × Obj)}, AllLt d l → d ≤ D → ∀ p ∈ l, p.1 ≠ D
  | [], _, _ => fun _ h => nomatch h
  | q :: r, h, hd => fun p hp => by
    rcases List.mem_cons.mp hp with rfl | hp
    · have := h.1; exact Nat.ne_of_lt (Nat.lt_of_lt_of_le this hd)
    · exact allLt_ne h.2 hd p hp
/-- the same, its grounds sought where it is used -/
theorem allLt_ne0 {d D : Nat} {l : List (Addr × Obj)} (h : AllLt d l := by assumption) (e : d ≤ D := by (first | lia | omega)) : ∀ p ∈ l, p.1 ≠ D := allLt_ne h e
theorem allLt_mem {d : Nat} : ∀ {l : List (Addr × Obj)}, AllLt d l → ∀ {p : Addr × Obj}, p ∈ l → p.1 < d
  | [], _, _, h => nomatch h
  | q :: r, h, p, hp => by
    rcases List.mem_cons.mp hp with rfl | hp
    · exact h.1
    · exact allLt_mem h.2 hp
/-- a turn's end, the ledger free -/
def EndG {σ : Type} (h₀ : Heap) (L : Addr) (s : Shared) (I : Addr) (it : Obj) (Led : σ → List (Addr × Obj)) (ps : σ → List (Str × Value)) (P : σ → Prop) (Q : Flow → Shared → Prop) (f : Flow) (s₂ : Shared) : Prop :=
  match f with
  | .ret v => Q (.ret v) s₂
  | .brk => Q .next s₂
  | _ => JoinA h₀ L s (fun c => (I, it) :: Led c) ps (fun c => (∀ p ∈ Led c, p.1 ≠ I) ∧ P c) s₂
section
variable {prog : Program} {w : World} {A : Around} {E : Value → Shared → Prop} {Q : Flow → Shared → Prop} {s : Shared} {env : Env} {h₀ : Heap} {x : Str} {body : List Stmt}
theorem endG_up {σ : Type} {L I : Addr} {it : Obj} {Led : σ → List (Addr × Obj)} {ps : σ → List (Str × Value)} {P : σ → Prop} {f : Flow} {s₂ : Shared} {rest : (Str → Option Value) → List (Addr × Obj) → Prop}
    (hJ : ∀ c m, (∀ p ∈ ps c, m p.1 = some p.2) → (∀ p ∈ Led c, p.1 ≠ I) → P c → rest m (Led c)) (p : EndG h₀ L s I it Led ps P Q f s₂) : UnrPost h₀ L s I it rest Q f s₂ := by
  cases f with
  | ret v => exact p
  | brk => exact p
  | next =>
    obtain ⟨c', h', tk, m', news', rfl, F', N', hn, hk, ho, hp⟩ := p
    exact ⟨h', tk, m', Led c', rfl, F', fun q hq => N' q (hn q hq), ho, hJ c' m' hk ho hp⟩
  | cont =>
    obtain ⟨c', h', tk, m', news', rfl, F', N', hn, hk, ho, hp⟩ := p
    exact ⟨h', tk, m', Led c', rfl, F', fun q hq => N' q (hn q hq), ho, hJ c' m' hk ho hp⟩
end
section
variable {prog : Program} {w : World} {A : Around} {h₀ : Heap} {L : Addr} {m : Str → Option Value} {env : Env} {elt : Expr} {x : Str} {scope : Scope} {cl : List (Str × Addr)} {s : Shared} {S : List (Addr × Obj) → Prop} {Pv : Nat → Value → Prop} {Fin : List Value → List (Addr × Obj) → Prop}
theorem comp_all {σ : Type} (Led : σ → List (Addr × Obj)) (P : Nat → σ → List Value → Prop) {n : Nat} (c₀ : σ) (hp : P 0 c₀ [])
    (turn : ∀ i c ys v I oI C oC D m₂ h tk (E' : Value → Shared → Prop), i < n → P i c ys → Pv i v → LCg.NsObj oC m₂ → m₂ x = some v → Fr h₀ L h m → News h₀ L h ((I, oI) :: (C, oC) :: (D, LCg.lst ys) :: Led c) → LCg.Off3 I C D (Led c) → ((@Ne Nat I C) ∧ (@Ne Nat I D) ∧ (@Ne Nat C D)) →
      wpAny (model prog w) A (eval elt (compEnvC scope cl C env)) (LCg.CompEnd h₀ L m { s with heap := h, toks := tk } I oI C oC D (LCg.lst ys) S (fun y news' => ∃ c', news' = Led c' ∧ P (i + 1) c' (ys ++ [y]))) E' { s with heap := h, toks := tk })
    (fin : ∀ c ys, P n c ys → Fin ys (Led c)) : LCg.CompRest prog w A h₀ L m env elt x scope cl s S Pv Fin n 0 [] (Led c₀) := by
  have key : ∀ (k i : Nat) (c : σ) (ys : List Value), i + k = n → P i c ys → LCg.CompRest prog w A h₀ L m env elt x scope cl s S Pv Fin k i ys (Led c) := by
    intro k
    induction k with
    | zero =>
      intro i c ys hi hp
      have : i = n := by (first | lia | omega)
      subst this
      exact LCg.CompRest.zero (fin c ys hp)
    | succ k ih =>
      intro i c ys hi hp
      refine LCg.CompRest.succ ?_
      intro v I oI C oC D m₂ h tk E' hv hC hx F N off ne
      refine wpAny_mono (turn i c ys v I oI C oC D m₂ h tk E' (by (first | lia | omega)) hp hv hC hx F N off ne) (fun y s₂ hq => ?_) fun _ _ e => e
      obtain ⟨h', tk', nw, e, F', N', off', hS, c', rfl, hp'⟩ := hq
      exact ⟨h', tk', _, e, F', N', off', hS, ih (i + 1) c' _ (by (first | lia | omega)) hp'⟩
  exact key n 0 c₀ [] (by (first | lia | omega)) hp
end
end Mine
end
section
theorem Mine.forget_Sub1 : True := by
  w_top off
  trivial
open PySem PySem.W PyProof.Rows PySem.Calls PySem.Spec
set_option maxRecDepth 100000
set_option maxHeartbeats 8000000
namespace Mine
theorem sub_ctr (w : World) (p : Program) (loose : List Str) (mean : ExcName → Option Value) (mg mb : Str → Option Value) (Xt : Heap → Prop) (news : List (Addr × Obj)) (a b : Str) (t1 t2 : Tok) :
   Ctr (PySem.Challenge.rw_pe0114_01).row.prog w (hd.heap_39 w.params) p loose mean mg mb Xt 104 1 news (a.length ≤ 1000 ∧ b.length ≤ 1000) [.str a t1, .str b t2] (fun v nw => (∃ t, v = .int (substF a b) t) ∧ nw = news) := by
  k_fill
  dsimp only [Ctr]
  intros; rename_i hpre _ _ hret
  obtain ⟨hla, hlb⟩ := hpre
  k_dflt cell_enter
  k_steps
  all_goals (refine hret _ _ _ _ ⟨ret_int ?_, rfl⟩ (by k_asm) (by k_asm); simp_all [substF])
end Mine
end
section
theorem Mine.forget_Lev1 : True := by
  w_top off
  trivial
open PySem PySem.W PyProof.Rows PySem.Calls PySem.Spec
set_option maxRecDepth 100000
set_option maxHeartbeats 8000000
namespace Mine
theorem slice_len (x : Str) (l u : Option Int) : (Txt.slice x l u).length ≤ x.length := PySem.Txt.slice_le x l u
theorem P1_start (a b : Str) : P1 a b 0 := ⟨Int.le_refl _, by (first | lia | omega), by (first | lia | omega), by simp⟩
theorem P1_next {a b : Str} {pre : Int} (h : P1 a b pre) (ha : pre < a.length) (hb : pre < b.length) (e : (Txt.item a pre == Txt.item b pre) = true) : P1 a b (pre + 1) := by
  obtain ⟨h0, h1, h2, h3⟩ := h
  rw [item_at h0 ha, item_at h0 hb, one_beq] at e
  have e := eq_of_beq e
  refine ⟨by (first | lia | omega), by (first | lia | omega), by (first | lia | omega), ?_⟩
  have : (pre + 1).toNat = pre.toNat + 1 := by (first | lia | omega)
  rw [this, List.take_add_one, List.take_add_one, h3]
  have ha' : pre.toNat < (lst a).length := by rw [← len_lst]; (first | lia | omega)
  have hb' : pre.toNat < (lst b).length := by rw [← len_lst]; (first | lia | omega)
  rw [List.getElem?_eq_getElem ha', List.getElem?_eq_getElem hb'] at e ⊢
  simp at e
  simp [e]
theorem P2_start (a b : Str) : P2 a b 0 := ⟨by (first | lia | omega), by (first | lia | omega), by (first | lia | omega), by rw [List.drop_of_length_le, List.drop_of_length_le] <;> rw [← len_lst] <;> (first | lia | omega)⟩
theorem P2_next {a b : Str} {post : Int} (h : P2 a b post) (ha : -post < a.length) (hb : -post < b.length) (e : (Txt.item a (post - 1) == Txt.item b (post - 1)) = true) : P2 a b (post - 1) := by
  obtain ⟨h0, h1, h2, h3⟩ := h
  rw [item_neg (by (first | lia | omega)) (by (first | lia | omega)), item_neg (by (first | lia | omega)) (by (first | lia | omega)), one_beq] at e
  have e := eq_of_beq e
  refine ⟨by (first | lia | omega), by (first | lia | omega), by (first | lia | omega), ?_⟩
  have ha' : (a.length + (post - 1)).toNat < (lst a).length := by rw [← len_lst]; (first | lia | omega)
  have hb' : (b.length + (post - 1)).toNat < (lst b).length := by rw [← len_lst]; (first | lia | omega)
  rw [List.drop_eq_getElem_cons ha', List.drop_eq_getElem_cons hb']
  rw [List.getElem?_eq_getElem ha', List.getElem?_eq_getElem hb'] at e
  have ea : (a.length + (post - 1)).toNat + 1 = (a.length + post).toNat := by (first | lia | omega)
  have eb : (b.length + (post - 1)).toNat + 1 = (b.length + post).toNat := by (first | lia | omega)
  simp only [Option.getD_some] at e
  rw [ea, eb, h3, e]
section
variable {prog : Program} {w : World} {A : Around} {E : Value → Shared → Prop} {s : Shared} {env : Env}
theorem outSl {value : Expr} {o : BoolOp} {es : List Expr} {p1 p2 : Pos} {x : Str} {t : Tok} {a : Addr} {h : Heap} {g d k os} {Q : Value → Shared → Prop} (hh : Held (wpAny (model prog w) A (subscriptTail value (Expr.Slice none (some (Expr.BoolOp o es p1)) none p2) (.str x t) (.ref a)) Q E ⟨h.push { cls := .type "slice", data := .fields #[.none, .none, .none] }, g, d, k, os⟩)) :
    wpAny (model prog w) A (subscriptTail value (Expr.Slice none (some (Expr.BoolOp o es p1)) none p2) (.str x t) (.ref a)) Q E ⟨h.push { cls := .type "slice", data := .fields #[.none, .none, .none] }, g, d, k, os⟩ := hh
theorem outAs {tg : List Expr} {v : Expr} {o : BoolOp} {es : List Expr} {p1 p2 p3 p4 : Pos} {Q : Flow → Shared → Prop} (h : Held (wpAny (model prog w) A (exec (Stmt.Assign tg (Expr.Subscript v (Expr.Slice none (some (Expr.BoolOp o es p1)) none p2) p3) p4) env) Q E s)) (_m : True := by ((fail_if_success (rename HoldOff => hx)); trivial)) :
    wpAny (model prog w) A (exec (Stmt.Assign tg (Expr.Subscript v (Expr.Slice none (some (Expr.BoolOp o es p1)) none p2) p3) p4) env) Q E s := h
theorem outIf {test v : Expr} {a : List Expr} {b} {c p1 p2 : Pos} {orelse : List Stmt} {Q : Flow → Shared → Prop} (h : Held (wpAny (model prog w) A (exec (Stmt.If test [Stmt.Assign [Expr.Tuple a b c] v p1] orelse p2) env) Q E s)) (_m : True := by ((fail_if_success (rename HoldOff => hx)); trivial)) :
    wpAny (model prog w) A (exec (Stmt.If test [Stmt.Assign [Expr.Tuple a b c] v p1] orelse p2) env) Q E s := h
end
local macro_rules | `(tactic| walk_at "subscriptTail Name Slice str ref") => `(tactic| (refine outSl ?_))
local macro_rules | `(tactic| walk_at "exec While") => `(tactic| (refine Held.out ?_))
local macro_rules | `(tactic| walk_at "EndA") => `(tactic| (dsimp only [EndA]))
local macro_rules | `(tactic| walk_at "JoinA") => `(tactic| (refine Held.out ?_))
local macro_rules | `(tactic| walk_at "exec Assign") => `(tactic| (refine outAs ?_))
local macro_rules | `(tactic| walk_at "exec If") => `(tactic| (refine outIf ?_))
local macro_rules | `(tactic| walk_at "call type:list") => `(tactic| (refine Held.out ?_))
local macro_rules | `(tactic| walk_at "pyIter ref") => `(tactic| (refine Held.out ?_))
local macro_rules | `(tactic| walk_at "call ref") => `(tactic| (refine Held.out ?_))
theorem lev_ctr (w : World) (p : Program) (loose : List Str) (mean : ExcName → Option Value) (mg mb : Str → Option Value) (Xt : Heap → Prop) (news : List (Addr × Obj)) (a b : Str) (mc : Int) (t1 t2 t3 : Tok) :
   Ctr (PySem.Challenge.rw_pe0114_01).row.prog w (hd.heap_39 w.params) p loose mean mg mb Xt 111 2 news (a.length ≤ 40 ∧ b.length ≤ 40 ∧ 0 ≤ mc ∧ mc ≤ 1000) [.str a t1, .str b t2, .int mc t3] (fun v nw => (∃ r t, v = .int r t ∧ LevOk a b mc r) ∧ nw = news) := by
  k_fill
  dsimp only [Ctr]
  intros; rename_i hpre _ _ hret
  obtain ⟨hla, hlb, hm0, hm1⟩ := hpre
  k_dflt cell_enter
  k_steps
  · exact hret _ _ _ _ ⟨⟨_, _, rfl, ok_same (by assumption)⟩, rfl⟩ (by k_asm) (by k_asm)
  refine Held.put ?_
  refine' while_all (σ := Int × Tok) (fun _ => news) (fun c => [(Str.ofString "pre", .int c.1 c.2), (Str.ofString "a", .str a t1), (Str.ofString "b", .str b t2), (Str.ofString "max_cost", .int mc t3)]) (fun c => P1 a b c.1) (fun c => a.length - c.1.toNat) (fun c => P1 a b c.1) (0, _) ?F ?N ?hk ?hp ?turn ?next
  case F => k_asm
  case N => k_asm
  case hk => kst_all
  case hp => exact P1_start a b
  case turn =>
    (rename Fr _ _ _ _ => oF; clear oF); (rename News _ _ _ _ => oN; clear oN)
    intro c u h tk hP F' N'
    obtain ⟨pre, tp⟩ := c
    have hP9 := hP
    obtain ⟨hP0, hP1, hP2, hP3⟩ := hP
    dsimp only [kstB] at F' hP9 hP0 hP1 hP2
    clear hP3
    try k_fold
    k_steps
    all_goals (refine Held.put ?_; first | (exfalso; (first | lia | omega)) | (first | refine joinA_end (_, _) (by assumption) (by assumption) (by kst_in) (by kst_all) ?_ | refine joinA_end (_, _, _) (by assumption) (by assumption) (by kst_in) (by kst_all) ?_ | refine joinA_end (_, _, _, _) (by assumption) (by assumption) (by kst_in) (by kst_all) ?_))
    all_goals first | exact hP9 | exact ⟨P1_next hP9 (by (first | lia | omega)) (by (first | lia | omega)) (by assumption), by dsimp only; (first | lia | omega)⟩
  case next =>
    (rename Fr _ _ _ _ => oF; clear oF); (rename News _ _ _ _ => oN; clear oN)
    intro c u h tk hQ F' N'
    obtain ⟨pre, tp⟩ := c
    dsimp only [kstB] at F' hQ
    have hQ9 := hQ
    obtain ⟨hP0, hP1, hP2, hP3⟩ := hQ
    clear hP3
    try k_fold
    k_steps
    refine Held.put ?_
    obtain ⟨a1, hA⟩ : ∃ x, Txt.slice a (some pre) none = x := ⟨_, rfl⟩
    obtain ⟨b1, hB⟩ : ∃ x, Txt.slice b (some pre) none = x := ⟨_, rfl⟩
    have hla1 : a1.length ≤ 40 := by have := slice_len a (some pre) none; rw [hA] at this; (first | lia | omega)
    have hlb1 : b1.length ≤ 40 := by have := slice_len b (some pre) none; rw [hB] at this; (first | lia | omega)
    refine' while_all (σ := Int × Tok) (fun _ => news) (fun c => [(Str.ofString "post", .int c.1 c.2), (Str.ofString "a", .str a1 _), (Str.ofString "b", .str b1 _), (Str.ofString "max_cost", .int mc t3)]) (fun c => P2 a1 b1 c.1) (fun c => (a1.length + c.1).toNat) (fun c => P2 a1 b1 c.1) (0, _) ?F ?N ?hk ?hp ?turn ?next
    case F => k_asm
    case N => k_asm
    case hk => rw [← hA, ← hB]; kst_all
    case hp => exact P2_start a1 b1
    case turn =>
      (rename Fr _ _ _ _ => oF; clear oF); (rename News _ _ _ _ => oN; clear oN)
      intro c u h tk hP F' N'
      obtain ⟨post, tp⟩ := c
      have hP9 := hP
      obtain ⟨hP0, hP1, hP2, hP3⟩ := hP
      dsimp only [kstB] at F' hP9 hP0 hP1 hP2 hP3
      clear hP3
      try k_fold
      by_cases hz : post = 0
      · subst hz
        k_steps
        all_goals try ((refine Held.put ?_; (rename Fr _ _ _ _ => F'); (rename News _ _ _ _ => N'); refine slice_strN_nn_len (s := ⟨_, _, _, _, _⟩) F' N' ?_; intro _ _ _ _ _ _; simp only [slice_all]); k_steps)
        all_goals try ((refine Held.put ?_; (rename Fr _ _ _ _ => F'); (rename News _ _ _ _ => N'); refine slice_strN_nn_len (s := ⟨_, _, _, _, _⟩) F' N' ?_; intro _ _ _ _ _ _; simp only [slice_all]); k_steps)
        all_goals (refine Held.put ?_; first | (exfalso; (first | lia | omega)) | (first | refine joinA_end (_, _) (by assumption) (by assumption) (by kst_in) (by kst_all) ?_ | refine joinA_end (_, _, _) (by assumption) (by assumption) (by kst_in) (by kst_all) ?_ | refine joinA_end (_, _, _, _) (by assumption) (by assumption) (by kst_in) (by kst_all) ?_))
        all_goals first | exact hP9 | exact ⟨P2_next hP9 (by (first | lia | omega)) (by (first | lia | omega)) (by assumption), by dsimp only; (first | lia | omega)⟩
      · have hz1 : post < 0 := by (first | lia | omega)
        have hs1 : ((Txt.slice a1 none (some post)).length : Int) = a1.length + post := by rw [len_lst, lst_to_neg hz1 (by (first | lia | omega)), List.length_take, ← len_lst]; (first | lia | omega)
        have hs2 : ((Txt.slice b1 none (some post)).length : Int) = b1.length + post := by rw [len_lst, lst_to_neg hz1 (by (first | lia | omega)), List.length_take, ← len_lst]; (first | lia | omega)
        clear hz
        k_steps
        all_goals (refine Held.put ?_; first | (exfalso; (first | lia | omega)) | (first | refine joinA_end (_, _) (by assumption) (by assumption) (by kst_in) (by kst_all) ?_ | refine joinA_end (_, _, _) (by assumption) (by assumption) (by kst_in) (by kst_all) ?_ | refine joinA_end (_, _, _, _) (by assumption) (by assumption) (by kst_in) (by kst_all) ?_))
        all_goals first | exact hP9 | exact ⟨P2_next hP9 (by (first | lia | omega)) (by (first | lia | omega)) (by assumption), by dsimp only; (first | lia | omega)⟩
    case next =>
      (rename Fr _ _ _ _ => oF; clear oF); (rename News _ _ _ _ => oN; clear oN)
      intro c u h tk hQ F' N'
      obtain ⟨post, tp⟩ := c
      dsimp only [kstB] at F' hQ
      have hQ99 := hQ
      obtain ⟨hR0, hR1, hR2, hR3⟩ := hQ
      clear hR3
      try k_fold
      k_steps
      refine Held.put ?_
      refine cut_all (σ := Str × Tok × Tok) F' (fun _ => news) (fun c => [(Str.ofString "a", .str c.1 c.2.1), (Str.ofString "b", .str b1 c.2.2), (Str.ofString "max_cost", .int mc t3), (Str.ofString "post", .int post tp)]) (fun c => lst c.1 = (lst a1).take (a1.length + post).toNat) ?_ ?_
      · have ho : HoldOff := ⟨⟩
        by_cases hz : post = 0
        · subst hz
          k_steps
          all_goals (refine Held.put ?_; (rename Fr _ _ _ _ => F'); (rename News _ _ _ _ => N'); refine slice_strN_nn_len (s := ⟨_, _, _, _, _⟩) F' N' ?_; intro _ _ _ _ _ _; simp only [slice_all])
          k_steps
          all_goals (refine Held.put ?_; first | (exfalso; (first | lia | omega)) | ((first | refine joinA_end (_, _) (by assumption) (by assumption) (by kst_in) (by kst_all) ?_ | refine joinA_end (_, _, _) (by assumption) (by assumption) (by kst_in) (by kst_all) ?_ | refine joinA_end (_, _, _, _) (by assumption) (by assumption) (by kst_in) (by kst_all) ?_); dsimp only; rw [List.take_of_length_le]; rw [← len_lst]; (first | lia | omega)))
        · have hz1 : post < 0 := by (first | lia | omega)
          clear hz
          k_steps
          all_goals (refine Held.put ?_; first | (exfalso; (first | lia | omega)) | ((first | refine joinA_end (_, _) (by assumption) (by assumption) (by kst_in) (by kst_all) ?_ | refine joinA_end (_, _, _) (by assumption) (by assumption) (by kst_in) (by kst_all) ?_ | refine joinA_end (_, _, _, _) (by assumption) (by assumption) (by kst_in) (by kst_all) ?_); exact lst_to_neg hz1 (by (first | lia | omega))))
      (rename Fr _ _ _ _ => oF; clear oF); (rename News _ _ _ _ => oN; clear oN)
      intro c u h tk hc F' N'
      obtain ⟨a2, ta, tb⟩ := c
      dsimp only [kstB] at F' hc
      k_steps
      refine Held.put ?_
      refine cut_all (σ := Str × Tok × Tok) F' (fun _ => news) (fun c => [(Str.ofString "a", .str a2 c.2.1), (Str.ofString "b", .str c.1 c.2.2), (Str.ofString "max_cost", .int mc t3)]) (fun c => lst c.1 = (lst b1).take (b1.length + post).toNat) ?_ ?_
      · have ho : HoldOff := ⟨⟩
        by_cases hz : post = 0
        · subst hz
          k_steps
          all_goals (refine Held.put ?_; (rename Fr _ _ _ _ => F'); (rename News _ _ _ _ => N'); refine slice_strN_nn_len (s := ⟨_, _, _, _, _⟩) F' N' ?_; intro _ _ _ _ _ _; simp only [slice_all])
          k_steps
          all_goals (refine Held.put ?_; first | (exfalso; (first | lia | omega)) | ((first | refine joinA_end (_, _) (by assumption) (by assumption) (by kst_in) (by kst_all) ?_ | refine joinA_end (_, _, _) (by assumption) (by assumption) (by kst_in) (by kst_all) ?_ | refine joinA_end (_, _, _, _) (by assumption) (by assumption) (by kst_in) (by kst_all) ?_); dsimp only; rw [List.take_of_length_le]; rw [← len_lst]; (first | lia | omega)))
        · have hz1 : post < 0 := by (first | lia | omega)
          clear hz
          k_steps
          all_goals (refine Held.put ?_; first | (exfalso; (first | lia | omega)) | ((first | refine joinA_end (_, _) (by assumption) (by assumption) (by kst_in) (by kst_all) ?_ | refine joinA_end (_, _, _) (by assumption) (by assumption) (by kst_in) (by kst_all) ?_ | refine joinA_end (_, _, _, _) (by assumption) (by assumption) (by kst_in) (by kst_all) ?_); exact lst_to_neg hz1 (by (first | lia | omega))))
      (rename Fr _ _ _ _ => oF; clear oF); (rename News _ _ _ _ => oN; clear oN)
      intro c u h tk hd F' N'
      obtain ⟨b2, ta, tb⟩ := c
      dsimp only [kstB] at F' hd
      have hL := lev_strip hQ9 hA hB hQ99 hc hd
      have hla2 : a2.length ≤ 40 := by rw [len_lst, hc, List.length_take, ← len_lst]; (first | lia | omega)
      have hlb2 : b2.length ≤ 40 := by rw [len_lst, hd, List.length_take, ← len_lst]; (first | lia | omega)
      k_steps
      rotate_left
      · exact hret _ _ _ _ ⟨⟨_, _, rfl, ok_one hL (by (first | lia | omega))⟩, rfl⟩ (by k_asm) (by k_asm)
      · exact hret _ _ _ _ ⟨⟨_, _, rfl, ok_one hL (by (first | lia | omega))⟩, rfl⟩ (by k_asm) (by k_asm)
      have hne1 : 0 < a2.length := by (first | lia | omega)
      have hne2 : 0 < b2.length := by (first | lia | omega)
      refine Held.put ?_
      refine cut_all (σ := Str × Str × Tok × Tok) F' (fun _ => news) (fun c => [(Str.ofString "a", .str c.1 c.2.2.1), (Str.ofString "b", .str c.2.1 c.2.2.2), (Str.ofString "max_cost", .int mc t3)]) (fun c => ((c.1 = a2 ∧ c.2.1 = b2) ∨ (c.1 = b2 ∧ c.2.1 = a2)) ∧ c.1.length ≤ c.2.1.length) ?_ ?_
      · have ho : HoldOff := ⟨⟩
        k_steps
        · refine Held.put ?_
          (first | refine joinA_end (_, _) (by assumption) (by assumption) (by kst_in) (by kst_all) ?_ | refine joinA_end (_, _, _) (by assumption) (by assumption) (by kst_in) (by kst_all) ?_ | refine joinA_end (_, _, _, _) (by assumption) (by assumption) (by kst_in) (by kst_all) ?_)
          refine ⟨.inr ⟨rfl, rfl⟩, ?_⟩
          dsimp only; (first | lia | omega)
        · refine Held.put ?_
          (first | refine joinA_end (_, _) (by assumption) (by assumption) (by kst_in) (by kst_all) ?_ | refine joinA_end (_, _, _) (by assumption) (by assumption) (by kst_in) (by kst_all) ?_ | refine joinA_end (_, _, _, _) (by assumption) (by assumption) (by kst_in) (by kst_all) ?_)
          refine ⟨.inl ⟨rfl, rfl⟩, ?_⟩
          dsimp only; (first | lia | omega)
      (rename Fr _ _ _ _ => oF; clear oF); (rename News _ _ _ _ => oN; clear oN)
      intro c u h tk hsw F' N'
      obtain ⟨x, y, tx, ty⟩ := c
      dsimp only [kstB] at F' hsw
      obtain ⟨hsw, hxy⟩ := hsw
      have hL2 := hL.trans (lev_swap hsw)
      have hx1 : 0 < x.length := by rcases hsw with ⟨rfl, rfl⟩ | ⟨rfl, rfl⟩ <;> assumption
      have hy1 : 0 < y.length := by rcases hsw with ⟨rfl, rfl⟩ | ⟨rfl, rfl⟩ <;> assumption
      have hx2 : x.length ≤ 40 := by rcases hsw with ⟨rfl, rfl⟩ | ⟨rfl, rfl⟩ <;> assumption
      have hy2 : y.length ≤ 40 := by rcases hsw with ⟨rfl, rfl⟩ | ⟨rfl, rfl⟩ <;> assumption
      k_steps
      · exact hret _ _ _ _ ⟨⟨_, _, rfl, ok_far hL2 (by assumption)⟩, rfl⟩ (by k_asm) (by k_asm)
      refine Held.put ?_
      (rename IsRange _ _ _ _ _ _ _ _ => rgX); refine list_range_step rfl (by k_asm) (by k_asm) rgX (range2_small _ (by (first | lia | omega))) (range2_size _) (by (first | lia | omega)) ?_
      intro rD rus rk hh9 tkk9 FF9 NN9 hlt hI
      (try k_lt hlt)
      (try k_sweep)
      k_steps
      refine Held.put ?_
      refine range_all (σ := List Value × List Int × Nat × Int × Tok) (n := y.length) (fun c => (rD, listOf c.1.toArray c.2.2.1) :: news)
        (fun c => [(Str.ofString "a", .str x tx), (Str.ofString "b", .str y ty), (Str.ofString "max_cost", .int mc t3), (Str.ofString "row", .ref rD), (Str.ofString "result", .int c.2.2.2.1 c.2.2.2.2)])
        (fun j c => IntsAre c.1 c.2.1 ∧ c.2.1 = rowAt (lst y) (lst x) j ∧ (0 < j → c.2.2.2.1 = Dd (lst y) (lst x) j x.length)) (rus, stepInts 2 2 x.length, rk, 0, _) rfl (by assumption) (small_one (by (first | lia | omega)) (by (first | lia | omega)) (by (first | lia | omega)) (by (first | lia | omega))) ?hn (by k_asm) (by k_asm) (by kst_all) ?hp ?turn ?done
      case hn => exact rangeSize_nat _ _
      case hp => exact ⟨hI, by rw [len_lst, row_start], fun h => absurd h (by (first | lia | omega))⟩
      case turn =>
        (rename Fr _ _ _ _ => oF; clear oF); (rename Fr _ _ _ _ => oF; clear oF); (rename News _ _ _ _ => oN; clear oN); (rename News _ _ _ _ => oN; clear oN)
        intro c j tj u h tk own hj hoff hP F' N'
        obtain ⟨vs, ns, ep, res, tr⟩ := c
        dsimp only [kstB] at F' hP N' hoff
        obtain ⟨hIs, hns, hres⟩ := hP
        k_steps
        refine Held.put ?_
        refine range_all (σ := List Value × List Int × Nat × Int × Tok × Int × Tok × Int × Tok) (n := x.length) (fun c => ((rD, listOf c.1.toArray c.2.2.1) :: news) ++ own)
          (fun c => [(Str.ofString "a", .str x tx), (Str.ofString "b", .str y ty), (Str.ofString "max_cost", .int mc t3), (Str.ofString "row", .ref rD), (Str.ofString "bchar", .str (Txt.item y (0 + j)) _), (Str.ofString "distance", .int c.2.2.2.1 c.2.2.2.2.1), (Str.ofString "result", .int c.2.2.2.2.2.1 c.2.2.2.2.2.2.1), (Str.ofString "minimum", .int c.2.2.2.2.2.2.2.1 c.2.2.2.2.2.2.2.2)])
          (fun i c => IntsAre c.1 c.2.1 ∧ c.2.1 = mixAt (lst y) (lst x) j i ∧ c.2.2.2.1 = Dd (lst y) (lst x) j i ∧ c.2.2.2.2.2.1 = resAt (lst y) (lst x) j i ∧ ∀ k, k < i → c.2.2.2.2.2.2.2.1 ≤ Dd (lst y) (lst x) (j + 1) (k + 1)) (vs, ns, ep, _, _, _, _, _, _) rfl (by assumption) (small_one (by (first | lia | omega)) (by (first | lia | omega)) (by (first | lia | omega)) (by (first | lia | omega))) ?hn2 (by k_asm) (by k_asm) (by kst_all) ?hp2 ?turn2 ?done2
        case hn2 => exact rangeSize_nat _ _
        case hp2 => exact ⟨hIs, by rw [hns, mix_start], by dsimp only; rw [D_zero _ _ _ (by rw [← len_lst]; (first | lia | omega))]; (first | lia | omega), by dsimp only [resAt]; rw [if_pos rfl]; (first | lia | omega), fun k hk => absurd hk (by (first | lia | omega))⟩
        case turn2 =>
          (rename Fr _ _ _ _ => oF; clear oF); (rename Fr _ _ _ _ => oF; clear oF); (rename News _ _ _ _ => oN; clear oN); (rename News _ _ _ _ => oN; clear oN)
          intro c i ti u h tk own2 hi hoff2 hP F' N'
          obtain ⟨vs, ns, ep, dist, td, res, tr, mn, tm⟩ := c
          dsimp only [kstB] at F' hP N' hoff2
          have hne := off_more (off_all hlt hoff (.head _)) hoff2 (.head _)
          simp only [List.cons_append] at N'
          obtain ⟨hIs, hns, hdist, hres, hmin⟩ := hP
          have hlen : ns.length = x.length := by rw [hns, mix_len, len_lst]
          clear hQ9 hQ99 hA hB hc hd hsw hlt hoff hoff2
          k_steps
          refine Held.put ?_
          k_dflt (refine' ctr_use (sub_ctr _ _ _ _ _ _ (fun _ => True) _ _ _ _ _) trivial ?k1 ?k2 ?k3 ?k4 ?k5 ?kK ?kp ?kd ?ku ?_; (case k1 => k_asm); (case k2 => k_asm); (case k3 => k_asm); (case k4 => k_asm); (case k5 => k_asm); (case kK => first | exact rfl | assumption); (case kp => exact ⟨by (first | lia | omega), by (first | lia | omega)⟩); (case kd => ktr_room); (case ku => ktr_units))
          intro v' nw' h' tk' hr' F' N'
          obtain ⟨⟨t', hv'⟩, hw'⟩ := hr'
          subst hv' hw'
          k_steps
          · have hV := dp_val y x j i hj hi dist res ns hns hdist hres
            dsimp only [EndR]
            rename IntsAre _ _ => hI9; rename News _ _ _ _ => hN9; rename Fr _ _ _ _ => hF9; rename (_ : Int) < mn => hl9
            rw [hV] at hI9 hN9 hF9 hl9
            refine joinA_end (_, ns.set (0 + (i : Int)).toNat (Dd (lst y) (lst x) (j + 1) (i + 1)), _, _, _, _, _, _, _) hF9 hN9 (fun _ h => h) (by kst_all) ?_
            exact ⟨rfl, hI9, dp_set y x j i hi ns hns, dp_get y x j i hi ns hns, dp_res y x j i, dp_min1 (d := fun k => Dd (lst y) (lst x) (j + 1) (k + 1)) hmin hl9⟩
          · have hV := dp_val y x j i hj hi dist res ns hns hdist hres
            dsimp only [EndR]
            rename IntsAre _ _ => hI9; rename News _ _ _ _ => hN9; rename Fr _ _ _ _ => hF9; rename ¬ (_ : Int) < mn => hl9
            rw [hV] at hI9 hN9 hF9 hl9
            refine joinA_end (_, ns.set (0 + (i : Int)).toNat (Dd (lst y) (lst x) (j + 1) (i + 1)), _, _, _, _, _, _, _) hF9 hN9 (fun _ h => h) (by kst_all) ?_
            exact ⟨rfl, hI9, dp_set y x j i hi ns hns, dp_get y x j i hi ns hns, dp_res y x j i, dp_min2 (d := fun k => Dd (lst y) (lst x) (j + 1) (k + 1)) hmin hl9⟩
        case done2 =>
          (rename Fr _ _ _ _ => oF; clear oF); (rename Fr _ _ _ _ => oF; clear oF); (rename News _ _ _ _ => oN; clear oN); (rename News _ _ _ _ => oN; clear oN)
          intro c u h tk hP F' N'
          obtain ⟨vs, ns, ep, dist, td, res, tr, mn, tm⟩ := c
          dsimp only [kstB] at F' hP N'
          obtain ⟨hIs, hns, hdist, hres, hmin⟩ := hP
          clear hlt hQ9 hQ99 hA hB hc hd hsw
          have hoff9 := hoff
          clear hoff
          k_steps
          · dsimp only [EndR]
            k_steps
            exact hret _ _ _ _ ⟨⟨_, _, rfl, ok_row hL2 hx1 hj hmin (by assumption)⟩, rfl⟩ (by k_asm) (by first | k_asm | (rename News _ _ _ _ => nX; exact fun p hp => nX p (List.mem_cons_of_mem _ (by first | exact hp | exact List.mem_append_left _ hp))))
          · dsimp only [EndR]
            refine joinA_end (_, ns, _, _, _) F' N' (fun _ h => h) (by kst_all) ?_
            exact ⟨rfl, hIs, by dsimp only; rw [hns, len_lst, mix_end], fun _ => by dsimp only; rw [hres, resAt, if_neg (by (first | lia | omega))]⟩
      case done =>
        (rename Fr _ _ _ _ => oF; clear oF); (rename Fr _ _ _ _ => oF; clear oF); (rename News _ _ _ _ => oN; clear oN); (rename News _ _ _ _ => oN; clear oN)
        intro c u h tk hP F' N'
        obtain ⟨vs, ns, ep, res, tr⟩ := c
        dsimp only [kstB] at F' hP N'
        obtain ⟨hIs, hns, hres⟩ := hP
        k_steps
        exact hret _ _ _ _ ⟨⟨_, _, rfl, ok_done hL2 (hres hy1)⟩, rfl⟩ (by k_asm) (by first | k_asm | (rename News _ _ _ _ => nX; exact fun p hp => nX p (List.mem_cons_of_mem _ (by first | exact hp | exact List.mem_append_left _ hp))))
end Mine
end
section
theorem Mine.forget_Rd1 : True := by
  w_top off
  trivial
open PySem PySem.W PyProof.Rows PySem.Calls PySem.Spec
set_option maxRecDepth 100000
set_option maxHeartbeats 8000000
namespace Mine
theorem outSet {prog : Program} {w : World} {A : Around} {E : Value → Shared → Prop} {s : Shared} {o v : Value} {Q : Unit → Shared → Prop} (h : Held (wpAny (model prog w) A (setAttr o (Str.ofString "read") v) Q E s)) : wpAny (model prog w) A (setAttr o (Str.ofString "read") v) Q E s := h
local macro_rules | `(tactic| k_all) => `(tactic| first | assumption | exact allLt_ne0)
local macro_rules | `(tactic| walk_at "setAttr ref") => `(tactic| (refine outSet ?_))
abbrev tabFull (la lb : Nat) (c1 c2 : Addr) : Array Value := #[rawInt (la : Nat), rawInt (4 : Nat), .ref c1, rawInt (lb : Nat), rawInt (13 : Nat), .ref c2]
abbrev rdQual : Str := Str.ofString "_law_lexer.<locals>._law_read_on"
abbrev LexRet (prog : Program) (w : World) (K : Frag) (p : Program) (loose : List Str) (mean : ExcName → Option Value) (mg mb : Str → Option Value) (Xt : Heap → Prop) (la lb : Nat) (C P : Addr) (text : Str) (own : List (Addr × Obj)) (news : List (Addr × Obj)) (v : Value) (nw : List (Addr × Obj)) : Prop :=
  ∃ (x : Lx) (tp tl : Tok) (ea ep : Nat) (vs : Array Value) (t : Tok), v = .ref x.lx ∧ x.Ord ∧ ReadOk prog w K p loose mean mg mb Xt x text ∧ (∀ q ∈ (P, tabObj (tabFull la lb x.c1 x.c2)) :: (own ++ news), q.1 < x.cTx) ∧ x.oc1.data = .fields vs ∧ vs[1]? = some (.str rdQual t) ∧ (own = [] → @LT.lt Nat _ x.cTx x.c1 ∧ @LT.lt Nat _ x.cTx x.c2) ∧
    (own = [] ∨ own = [(x.c1, x.oc1), (x.c2, x.oc2)]) ∧ nw = x.led C ⟨0, 1, #[], tp, ea, tl, ep⟩ ++ (P, tabObj (tabFull la lb x.c1 x.c2)) :: news
theorem lexer_ctr (w : World) (p : Program) (loose : List Str) (mean : ExcName → Option Value) (mg mb : Str → Option Value) (news : List (Addr × Obj)) (a : Str) (t1 : Tok) :
   Ctr (PySem.Challenge.rw_pe0114_01).row.prog w (hd.heap_39 w.params) p loose mean mg mb (fun h => CodeHd h 117 113) 118 3 ((113, tabObj #[]) :: news) (a.length ≤ 1000 ∧ ∀ p ∈ news, p.1 ≠ 113) [.str a t1]
     (LexRet (PySem.Challenge.rw_pe0114_01).row.prog w (hd.heap_39 w.params) p loose mean mg mb (fun h => CodeHd h 117 113) 0x6b 0x6f 76 113 a [] news) := by
  k_fill
  dsimp only [Ctr]
  intros; rename_i hla _ _ hret; obtain ⟨hla, hn106⟩ := hla
  k_dflt (refine' code_defC ?k1 ?k2 ?k3 ?k4 ?k5 ?kA ?kF ?kK ?k6 ?k7 ?k8 ?k9 ?kB ?kD ?_ ?c2 ?c3 ?c4; (case kA => exact rfl); (case kF => exact rfl); (case kK => assumption); (case k1 => k_asm); (case k2 => k_asm); (case k3 => k_asm); (case k4 => k_asm); (case k5 => k_asm); (case k6 => k_is); (case k7 => k_is); (case k8 => ktr_room); (case k9 => exact BindsTo.of_eq rfl); (case kB => exact rfl); (case kD => decide +kernel); (case c2 => exact rfl); (case c3 => exact rfl); (case c4 => exact rfl); k_whole; intro g' L' h' tk' cells' FG' F' N' Y' B' X' T' l1; (try k_lt l1); k_cells Y'; (try simp only [List.cons_append, List.nil_append] at N'); (try dsimp only); (try k_lift B'); (try k_fold))
  rename CodeHd _ _ _ => codeHd
  k_steps
  refine Held.put ?_
  k_dflt (refine' setAttr_fnN ?F ?N ?U ?_; (case F => k_asm); (case N => k_asm); (case U => k_updF))
  intro d' hs' tk' kt' h' F' N' l1
  (try dsimp only at N')
  (try k_lt l1)
  k_steps
  rename News _ _ _ _ => nX
  refine hret _ _ _ _ ?r (by k_asm) (fun p hp => nX p (lex_perm p hp))
  refine ⟨{ pbL := _, lx := _, dx := _, sd := _, st := _, c2 := _, rd := _, c1 := _, atL := _, cAt := _, cTx := _, oc2 := _, oc1 := _, oAt := _, oTx := _, fst := _, frd := _, h1 := _, h2 := _, h3 := _, h4 := _, h5 := _, k1 := _, k2 := _, k3 := _, k4 := _, k5 := _, tw := _ }, _, _, _, _, _, _, rfl, ?_, ?_, ?_, by assumption, by assumption, fun _ => ⟨by (refine ltN ?_; dsimp only; omega), by (refine ltN ?_; dsimp only; omega)⟩, .inl rfl, rfl⟩
  · constructor <;> dsimp only
    all_goals first | (refine ltN ?_; omega) | (right; constructor <;> (refine ltN ?_; omega))
  · (repeat (rename Fr _ _ _ _ => oF; clear oF)); (repeat (rename News _ _ _ _ => oN; clear oN)); (repeat (rename Below _ _ _ _ => oB; clear oB)); (repeat (rename Top _ _ _ _ _ _ => oT; clear oT)); (repeat (rename Frag.In _ _ => oX; clear oX)); clear codeHd hret
    intro pos tp ea t rest
    dsimp only [Ctr]
    intros
    rename_i codeHd _ _ _ _ _ _ hpre _ _ hret
    obtain ⟨hp0, hp1, hrest⟩ := hpre
    simp only [List.cons_append, List.nil_append] at *
    k_dflt (refine' code_nest ?k1 ?k2 ?k3 ?k4 ?k5 ?kA ?kF ?kK ?k6 ?k7 ?k8 ?k9 ?kB ?_ ?c2 ?c3 ?c4 ?c5; (case kA => exact rfl); (case kF => exact rfl); (case kK => assumption); (case k1 => k_asm); (case k2 => k_asm); (case k3 => k_asm); (case k4 => k_asm); (case k5 => k_asm); (case k6 => k_mem); (case k7 => exact codeRec_news (by k_asm) (by k_mem) (by assumption) (by assumption)); (case k8 => ktr_room); (case k9 => exact BindsTo.of_eq rfl); (case c5 => decide); (case kB => exact locs rfl); (case c2 => exact rfl); (case c3 => exact rfl); (case c4 => exact rfl); k_whole; intro g' L' h' FG' F' N' B' X' T'; (try dsimp only); (try k_lift B'); (try k_fold))
    k_steps
    exact hret _ _ _ _ ⟨_, _, rfl, rfl⟩ (by k_asm) (by k_asm)
  · intro q hq
    dsimp only
    rcases List.mem_cons.mp hq with rfl | hq
    · refine ltN ?_; dsimp only; omega
    · refine Nat.lt_of_lt_of_le ?_ (Nat.le_succ _)
      first | exact allLt_mem (And.right (by assumption)) hq | exact allLt_mem (by assumption) hq
end Mine
end
section
theorem Mine.forget_Rc1 : True := by
  w_top off
  trivial
open PySem PySem.W PyProof.Rows PySem.Calls PySem.Spec
set_option maxRecDepth 100000
set_option maxHeartbeats 8000000
namespace Mine
local macro_rules | `(tactic| walk_at "getMethod ref") => `(tactic| (refine Held.out ?_))
local macro_rules | `(tactic| walk_at "callWith ref") => `(tactic| (refine Held.out ?_))
local macro_rules | `(tactic| walk_at "call ref") => `(tactic| (refine Held.out ?_))
theorem read_char_ctr (w : World) (p : Program) (loose : List Str) (mean : ExcName → Option Value) (mg mb : Str → Option Value) (Xt : Heap → Prop) (x : Lx) (y : Ls) (text : Str) (rest : List (Addr × Obj)) :
   Ctr (PySem.Challenge.rw_pe0114_01).row.prog w (hd.heap_39 w.params) p loose mean mg mb Xt 59 2 (x.led 76 y ++ rest)
     (x.Ord ∧ ReadOk (PySem.Challenge.rw_pe0114_01).row.prog w (hd.heap_39 w.params) p loose mean mg mb Xt x text ∧ text.length ≤ 1000 ∧ 0 ≤ y.pos ∧ y.pos ≤ text.length ∧ 0 ≤ y.ln ∧ y.ln ≤ 100000 ∧ (∀ q ∈ rest, q.1 ≠ x.atL) ∧ ∀ q ∈ rest, q.1 ≠ x.dx) [.ref x.lx]
     (fun v nw => ∃ tv tp tl, v = .str (chAt text y.pos) tv ∧ nw = x.led 76 { y with pos := y.pos + (chAt text y.pos).length, ln := y.ln + (if chAt text y.pos = Str.ofString "\n" then 1 else 0), tp := tp, tl := tl } ++ rest) := by
  k_fill
  dsimp only [Ctr]
  intros
  rename_i hXt _ _ _ _ _ _ hpre _ _ hret
  obtain ⟨⟨a1, a2, a3, a4, a5, a6, a7, a8, a9, a10⟩, hrd, htl, hp0, hp1, hl0, hl1, hra, hrb⟩ := hpre
  rename News _ _ _ _ => hN0
  simp only [List.cons_append, List.nil_append] at hN0
  k_dflt cell_enter
  k_steps
  refine Held.put ?_
  (rename News _ _ _ _ => nX); k_dflt (refine getMethod_fn (nX.get (by k_mem)) (nX.get (by k_mem)) ?_)
  intro tkm
  k_steps
  refine Held.put ?_
  k_dflt (refine' callWith_F ?k1 ?_; (case k1 => exact FnAt.of (by k_asm) (by k_mem)); k_whole)
  k_steps
  refine Held.put ?_
  k_dflt (refine' ctr_use (hrd y.pos y.tp y.ea _ (x.more 76 y ++ rest)) hXt ?k1 ?k2 ?k3 ?k4 ?k5 ?kK ?kp ?kd ?ku ?_; (case k1 => k_asm); (case k2 => k_asm); (case k3 => k_asm); (case k4 => k_asm); (case k5 => k_asm); (case kK => first | exact rfl | assumption); (case kd => ktr_room); (case ku => ktr_units))
  case kp =>
    refine ⟨hp0, hp1, ?_⟩
    simp only [List.cons_append, List.nil_append]
    intro q hq
    simp only [List.mem_cons] at hq
    rcases hq with h | h | h | h | h | h | h
    all_goals first | exact hra q h | (rw [h]; refine neN ?_; dsimp only; omega)
  intro v' nw' h' tk' hr' F' N'
  obtain ⟨tv, tp', rfl, rfl⟩ := hr'
  simp only [List.cons_append, List.nil_append] at N'
  k_steps
  · exact hret _ _ _ _ ⟨_, _, _, rfl, by rw [if_pos (eq_of_beq (by assumption))]⟩ (by k_asm) (by k_asm)
  · exact hret _ _ _ _ ⟨_, _, y.tl, rfl, by rw [if_neg (ne_of_beq_false (by assumption)), Int.add_zero]⟩ (by k_asm) (by k_asm)
end Mine
end
section
theorem Mine.forget_Gt1 : True := by
  w_top off
  trivial
open PySem PySem.W PyProof.Rows PySem.Calls PySem.Spec
set_option maxRecDepth 100000
set_option maxHeartbeats 8000000
namespace Mine
section
variable {prog : Program} {w : World} {A : Around} {E : Value → Shared → Prop} {s : Shared} {env : Env}
theorem outIfA {test v : Expr} {a : List Expr} {p1 p2 : Pos} {orelse : List Stmt} {Q : Flow → Shared → Prop} (h : Held (wpAny (model prog w) A (exec (Stmt.If test [Stmt.Assign a v p1] orelse p2) env) Q E s)) (_m : True := by ((fail_if_success (rename HoldOff => hx)); trivial)) :
    wpAny (model prog w) A (exec (Stmt.If test [Stmt.Assign a v p1] orelse p2) env) Q E s := h
theorem outRead {args : List Value} {Q : Value → Shared → Prop} (h : Held (wpAny (model prog w) A (call (Value.ref 59) args) Q E s)) : wpAny (model prog w) A (call (Value.ref 59) args) Q E s := h
end
local macro_rules | `(tactic| walk_at "truthy ref") => `(tactic| (refine Held.out ?_))
local macro_rules | `(tactic| walk_at "exec For") => `(tactic| (refine Held.out ?_))
local macro_rules | `(tactic| walk_at "exec If") => `(tactic| (refine outIfA ?_))
local macro_rules | `(tactic| walk_at "call ref") => `(tactic| (refine outRead ?_))
local macro_rules | `(tactic| walk_at "call builtin:iter") => `(tactic| (refine Held.out ?_))
theorem ctr_code {prog : Program} {w : World} {K : Frag} {p : Program} {loose : List Str} {mean : ExcName → Option Value} {mg mb : Str → Option Value} {Xt : Heap → Prop} {f : Addr} {rm : Nat} {news : List (Addr × Obj)} {pre : Prop} {vs : List Value} {Ret : Value → List (Addr × Obj) → Prop}
    {dp un : Nat} {gd : Option (List Code)} {cn : Str} {cs : Scope} {a : Addr} {ccd : Value} {cl : List (Str × Addr)} {outer : List Env} {A₀ : Around} {base h₀ : Heap} {L : Addr} {m : Str → Option Value} {s : Shared} {Q E : Value → Shared → Prop}
    (C : Ctr prog w K p loose mean mg mb Xt f rm news pre vs Ret) (X0 : Xt base) (B : Below A₀ base outer h₀) (F : Fr h₀ L s.heap m) (X : K.In h₀) (N : News h₀ L s.heap news) (T : Top p loose mean mg mb h₀) (hk : cs.kind = .function)
    (hp : pre) (hd : dp + rm < recursionLimit) (hu : un + 8 * rm < cLine)
    (ret : ∀ v news' h' tk', Ret v news' → Fr h₀ L h' m → News h₀ L h' news' → Q v { s with heap := h', toks := tk' }) :
      codeAny (model prog w) (ktrTop dp un gd cn cs L a ccd cl outer) (.call (.ref f) ⟨vs, []⟩) (fun r s' => match r with | .ok (.ret v) => Q v s' | .ok _ => False | .error e => E e s') s := C _ _ _ _ _ _ _ _ _ _ _ _ _ _ _ _ _ X0 B F X N T hk hp hd hu ret
theorem it_swap {a b : Addr × Obj} {l rest : List (Addr × Obj)} : ∀ p ∈ l ++ a :: b :: rest, p ∈ a :: b :: (l ++ rest) := by
  intro p hp
  simp only [List.mem_append, List.mem_cons] at hp ⊢
  rcases hp with h | h | h | h <;> simp [h]
theorem it_drop {a b : Addr × Obj} {l rest : List (Addr × Obj)} : ∀ p ∈ l ++ rest, p ∈ l ++ a :: b :: rest := by
  intro p hp
  simp only [List.mem_append, List.mem_cons] at hp ⊢
  rcases hp with h | h <;> simp [h]
theorem it_tok {h₀ h : Heap} {L it : Addr} {v : Value} {e : Str} {t : Tok} {l : List (Addr × Obj)} (N : News h₀ L h ((it, ciO v (.str e t) false) :: l)) : ∃ ts, News h₀ L h ((it, ciO v (.str e ts) false) :: l) := ⟨t, N⟩
theorem fr_but {h₀ h h' : Heap} {L it : Addr} {m : Str → Option Value} {o : Obj} {news : List (Addr × Obj)} (F : Fr h₀ L h m) (N : News h₀ L h news) (hm : (it, o) ∈ news) (hk : ∀ b o, b ≠ it → h.get? b = some o → h'.get? b = some o) : Fr h₀ L h' m :=
  ⟨F.ns.at fun o e => hk _ o (fun z => (N _ hm).2.1 z.symm) e, fun b o e => hk b o (fun z => by have h1 := (N _ hm).2.2; dsimp only at h1; rw [← z, e] at h1; cases h1) (F.keep b o e), F.above⟩
theorem news_but {h₀ h h' : Heap} {L it : Addr} {o o' : Obj} {own rest : List (Addr × Obj)} (N : News h₀ L h (own ++ (it, o) :: rest)) (h1 : ∀ p ∈ own, p.1 ≠ it) (h2 : ∀ p ∈ rest, p.1 ≠ it) (ho : h'.get? it = some o') (hk : ∀ b o, b ≠ it → h.get? b = some o → h'.get? b = some o) : News h₀ L h' (own ++ (it, o') :: rest) := by
  intro p hp
  rcases List.mem_append.mp hp with hp | hp
  · have := N p (List.mem_append_left _ hp)
    exact ⟨hk _ _ (h1 p hp) this.1, this.2⟩
  · rcases List.mem_cons.mp hp with rfl | hp
    · exact ⟨ho, (N (it, o) (List.mem_append_right _ (.head _))).2⟩
    · have := N p (List.mem_append_right _ (.tail _ hp))
      exact ⟨hk _ _ (h2 p hp) this.1, this.2⟩
theorem lst_empty : lst (Str.ofString "") = [] := by rw [ofEmpty]
theorem gtok_nil : gtok [] = ([], []) := by simp [gtok]
structure Es where
  e : Str
  te : Tok
  pos : Int
  ln : Int
  tp : Tok
  tl : Tok
/-- the loop's state -/
structure Gs where
  live : Bool
  pos : Int
  ln : Int
  tok : Str
  tp : Tok
  tl : Tok
  tt : Tok
abbrev Gs.ls (g : Gs) (ea ep : Nat) : Ls := ⟨g.pos, g.ln, #[], g.tp, ea, g.tl, ep⟩
abbrev itO (q : Addr) (ts : Tok) (live : Bool) : Obj := if live then ciO (.ref q) (.str (Str.ofString "") ts) false else ciO .none .none true
def Gs.Inv (text : Str) (T R : List Nat) (Z : Int) (g : Gs) : Prop :=
  0 ≤ g.pos ∧ g.pos ≤ text.length ∧ 0 ≤ g.ln ∧ g.ln + (txR text g.pos).length ≤ 60000 ∧ g.tok.length + (txR text g.pos).length ≤ text.length ∧ g.ln + nls (txR text g.pos) = Z ∧
    (if g.live then g.tok = Str.ofString "" ∧ okTok (txR text g.pos) ∧ gtok (txR text g.pos) = (T, R) else lst g.tok = T ∧ txR text g.pos = R)
def Gs.Inv2 (text : Str) (T R : List Nat) (Z : Int) (g : Gs) : Prop :=
  0 ≤ g.pos ∧ g.pos ≤ text.length ∧ 0 ≤ g.ln ∧ g.ln + (txR text g.pos).length ≤ 60000 ∧ g.tok.length + (txR text g.pos).length ≤ text.length ∧ g.ln + nls (txR text g.pos) = Z ∧
    (if g.live then lst g.tok ++ (unq (txR text g.pos)).1 = T ∧ (unq (txR text g.pos)).2 = R else lst g.tok = T ∧ txR text g.pos = R)
def TokRet (C : Addr) (x : Lx) (text : Str) (pos ln : Int) (ea ep : Nat) (rest : List (Addr × Obj)) (v : Value) (nw : List (Addr × Obj)) : Prop :=
  ∃ (pos' ln' : Int) (tp tl tv : Tok), v = .str ⟨(gtok (txR text pos)).1.toArray⟩ tv ∧ 0 ≤ pos' ∧ pos' ≤ text.length ∧ txR text pos' = (gtok (txR text pos)).2 ∧ ln' + nls (gtok (txR text pos)).2 = ln + nls (txR text pos) ∧ 0 ≤ ln' ∧ nw = x.led C ⟨pos', ln', #[], tp, ea, tl, ep⟩ ++ rest
theorem led_lt {x : Lx} (h : x.Ord) {C : Addr} {y : Ls} {D : Addr} (hD : @LT.lt Nat _ x.pbL D) : ∀ z ∈ x.led C y, @LT.lt Nat _ z.1 D := by
  obtain ⟨a1, a2, a3, a4, a5, a6, a7, a8, a9, a10⟩ := h
  have b9 := Nat.lt_trans a10 hD
  have b8 := Nat.lt_trans a9 b9
  have b7 := Nat.lt_trans a8 b8
  have b6 := Nat.lt_trans a7 b7
  have b5 := Nat.lt_trans a5 b6
  have b3 := Nat.lt_trans a3 b5
  have b2 := Nat.lt_trans a2 b3
  have b1 := Nat.lt_trans a1 b2
  have c1 : @LT.lt Nat _ x.c1 D := a4.elim (fun h => Nat.lt_trans h b1) (fun h => Nat.lt_trans h.2 b5)
  have c2 : @LT.lt Nat _ x.c2 D := a6.elim (fun h => Nat.lt_trans h b1) (fun h => Nat.lt_trans h.2 b6)
  intro z hz
  simp only [Lx.led, Lx.core, Lx.more, List.cons_append, List.nil_append, List.mem_cons, List.not_mem_nil, or_false] at hz
  rcases hz with rfl | rfl | rfl | rfl | rfl | rfl | rfl | rfl | rfl | rfl | rfl <;> assumption
theorem get_token_ctr (w : World) (p : Program) (loose : List Str) (mean : ExcName → Option Value) (mg mb : Str → Option Value) (Xt : Heap → Prop) (x : Lx) (pos ln : Int) (tp : Tok) (ea : Nat) (tl : Tok) (ep : Nat) (text : Str) (rest : List (Addr × Obj)) :
   Ctr (PySem.Challenge.rw_pe0114_01).row.prog w (hd.heap_39 w.params) p loose mean mg mb Xt 66 4 (x.led 76 ⟨pos, ln, #[], tp, ea, tl, ep⟩ ++ rest)
     (x.Ord ∧ ReadOk (PySem.Challenge.rw_pe0114_01).row.prog w (hd.heap_39 w.params) p loose mean mg mb Xt x text ∧ text.length ≤ 1000 ∧ 0 ≤ pos ∧ pos ≤ text.length ∧ 0 ≤ ln ∧ ln ≤ 50000 ∧ (∀ q ∈ rest, q.1 ≠ x.atL) ∧ (∀ q ∈ rest, q.1 ≠ x.dx) ∧ okTok (txR text pos)) [.ref x.lx]
     (TokRet 76 x text pos ln ea ep rest) := by
  k_fill
  dsimp only [Ctr]
  intros
  rename_i hXt _ _ _ _ _ _ hpre _ _ hret
  obtain ⟨hOrd, hrd, htl, hp0, hp1, hl0, hl1, hra, hrb, hok⟩ := hpre
  obtain ⟨a1, a2, a3, a4, a5, a6, a7, a8, a9, a10⟩ := id hOrd
  rename News _ _ _ _ => hN0
  simp only [List.cons_append, List.nil_append] at hN0
  k_dflt cell_enter
  k_steps
  refine Held.put ?_
  (rename News _ _ _ _ => nX); k_dflt (refine wpAny_truthy_list (items := #[]) (nX.isList (by k_mem)) (by decide) ?_)
  k_steps
  refine Held.put ?_
  (rename News _ _ _ _ => nX); (rename Fr _ _ _ _ => fX); k_dflt (refine iter2_N fX nX (by k_mem) ?_)
  intro it hit Fit Nit l2
  (try k_lt l2)
  k_steps
  refine Held.put ?_
  rename_i q _ l1 _ F5 N5
  obtain ⟨ts, N5⟩ := it_tok N5
  have hrc : ∀ z ∈ rest, z.1 ≠ it := by
    obtain ⟨_, _, _, _, _, _, _, _, _, _, _, _, lr⟩ := l2
    exact fun z hz => Nat.ne_of_lt (kst_ltOf lr z hz)
  refine wpAny_For ?_
  k_dflt (refine ld F5 rfl ?_)
  refine iter_ci (N5 _ (.head _)).1 ?_
  refine' for_all (σ := Gs) (fun g => x.led 76 (g.ls ea ep) ++ (it, itO q ts g.live) :: (q, methodObj (.ref 59) (.ref x.lx)) :: rest)
    (fun g => [(Str.ofString "self", .ref x.lx), (Str.ofString "token", .str g.tok g.tt), (Str.ofString "fiter", .ref it)])
    (Gs.Inv text (gtok (txR text pos)).1 (gtok (txR text pos)).2 (ln + nls (txR text pos))) (fun g => if g.live then (txR text g.pos).length + 1 else 0)
    (fun g => g.live = false ∧ Gs.Inv text (gtok (txR text pos)).1 (gtok (txR text pos)).2 (ln + nls (txR text pos)) g) ⟨true, pos, ln, Str.ofString "", tp, tl, _⟩ F5 (fun p hp => N5 p (it_swap p hp)) ?hk ?hp ?turn ?next
  case hk => kst_all
  case hp =>
    refine ⟨hp0, hp1, hl0, ?_, ?_, rfl, ?_⟩
    · dsimp only; rw [tx_len hp0 hp1]; (first | lia | omega)
    · dsimp only; rw [← Int.ofNat_le]; push_cast; rw [tx_len hp0 hp1]; show ((Str.ofString "").length : Int) + _ ≤ _; rw [ofEmpty]; show (0 : Int) + _ ≤ _; (first | lia | omega)
    · exact ⟨rfl, hok, rfl⟩
  case next =>
    clear F5 N5
    intro g u h tk hg F' N'
    obtain ⟨live, pos', ln', tok, tp', tl', tt⟩ := g
    obtain ⟨hlv, hi0, hi1, hi2, hi3, hi4, hi5, hi6⟩ := hg
    dsimp only at hlv hi0 hi1 hi2 hi3 hi4 hi5 hi6
    subst hlv
    obtain ⟨hi6, hi7⟩ := hi6
    dsimp only [kstB] at F'
    simp only [List.cons_append, List.nil_append] at N'
    k_steps
    refine hret _ _ _ _ ⟨pos', ln', tp', tl', tt, ?_, hi0, hi1, hi7, ?_, hi2, rfl⟩ (by k_asm) ?_
    · rw [← hi6]
    · rw [← hi7]; exact hi5
    · rename News _ _ _ _ => nX
      exact fun p hp => nX p (it_drop (l := x.led 76 ⟨pos', ln', #[], tp', ea, tl', ep⟩) p hp)
  case turn =>
    clear F5 N5
    intro g u h tk hg F' N'
    obtain ⟨live, pos', ln', tok, tp', tl', tt⟩ := g
    obtain ⟨hi0, hi1, hi2, hi3, hi4, hi5, hi6⟩ := hg
    dsimp only at hi0 hi1 hi2 hi3 hi4 hi5 hi6
    have hq1 : ∀ o : Obj, ∀ z ∈ (it, o) :: (q, methodObj (.ref 59) (.ref x.lx)) :: rest, z.1 ≠ x.atL := by
      intro o z hz
      rcases List.mem_cons.mp hz with h | hz
      · rw [h]; refine neN ?_; dsimp only; (first | lia | omega)
      rcases List.mem_cons.mp hz with h | hz
      · rw [h]; refine neN ?_; dsimp only; (first | lia | omega)
      · exact hra z hz
    have hq2 : ∀ o : Obj, ∀ z ∈ (it, o) :: (q, methodObj (.ref 59) (.ref x.lx)) :: rest, z.1 ≠ x.dx := by
      intro o z hz
      rcases List.mem_cons.mp hz with h | hz
      · rw [h]; refine neN ?_; dsimp only; (first | lia | omega)
      rcases List.mem_cons.mp hz with h | hz
      · rw [h]; refine neN ?_; dsimp only; (first | lia | omega)
      · exact hrb z hz
    cases live with
    | false =>
      obtain ⟨hi6, hi7⟩ := hi6
      refine next_ci_end (N' (it, _) (List.mem_append_right _ (.head _))).1 rfl fun h' hk => ?_
      refine joinA_end ⟨false, pos', ln', tok, tp', tl', tt⟩ (F'.keeps hk) (fun p hp => ⟨hk _ _ (N' p hp).1, (N' p hp).2⟩) (fun _ h => h) (by kst_all) ⟨rfl, hi0, hi1, hi2, hi3, hi4, hi5, hi6, hi7⟩
    | true =>
      obtain ⟨hi6, hi7, hi8⟩ := hi6
      subst hi6
      refine next_ci (N' (it, _) (List.mem_append_right _ (.head _))).1 (N' (q, _) (List.mem_append_right _ (.tail _ (.head _)))).1 ⟨_, _, _, _, Frag.In.keeps (by k_asm) F'.keep _ _ (by k_dflt k_is)⟩ rfl ?_
      k_dflt (refine call_meth N' (List.mem_append_right _ (.tail _ (.head _))) ?_)
      k_dflt (refine' ctr_code (read_char_ctr w p loose mean mg mb Xt x ⟨pos', ln', #[], tp', ea, tl', ep⟩ text _) hXt ?k1 F' ?k3 N' ?k5 ?kK ?kp ?kd ?ku ?_; (case k1 => k_asm); (case k3 => k_asm); (case k5 => k_asm); (case kK => first | exact rfl | assumption); (case kd => ktr_room); (case ku => ktr_units))
      case kp => exact ⟨hOrd, hrd, htl, hi0, hi1, hi2, by dsimp only; (first | lia | omega), hq1 _, hq2 _⟩
      rintro v nw h2 tk2 ⟨tv, tp2, tl2, rfl, rfl⟩ F2 N2
      refine ⟨_, tv, rfl, (N2 (it, _) (List.mem_append_right _ (.head _))).1, (N2 (q, _) (List.mem_append_right _ (.tail _ (.head _)))).1, ⟨_, _, _, _, Frag.In.keeps (by k_asm) F2.keep _ _ (by k_dflt k_is)⟩, ?_, ?_⟩
      · intro hne tk3
        have hlt : pos' < text.length := by
          rcases Int.lt_or_eq_of_le hi1 with h | h
          · exact h
          · exact absurd (ch_end h).1 hne
        obtain ⟨c, hc, hr⟩ := ch_at hi0 hlt
        dsimp only at N2 ⊢
        rw [hc] at N2 ⊢
        clear N'
        rw [hr] at hi3 hi4 hi5 hi7 hi8
        simp only [List.cons_append, List.nil_append] at N2
        dsimp only [kstB] at F2
        clear F'
        have hl1 : (((⟨#[c]⟩ : Str).length : Nat) : Int) = 1 := rfl
        rw [hl1] at N2
        obtain ⟨r0, r1, r2, r3, r4⟩ := read_post hi0 hlt hr hi2
        rw [hr] at r3 r4
        generalize ln' + (if (⟨#[c]⟩ : Str) = Str.ofString "\n" then 1 else 0) = ln1 at N2 r2 r3 r4
        have hocc := ws_occ c
        cases hw : isWs c with
        | true =>
          rw [hw, Bool.not_true] at hocc
          k_steps
          refine joinA_end ⟨true, pos' + 1, ln1, Str.ofString "", tp2, tl2, tt⟩ (by k_asm) (by k_asm) (fun _ h => h) (by kst_all) ⟨⟨r0, r1, r2, Int.le_trans r3 hi3, Nat.le_trans (Nat.add_le_add_left (Nat.le_succ _) _) hi4, r4.trans hi5, rfl, okTok_ws hw hi7, (gtok_ws hw).symm.trans hi8⟩, ?_⟩
          show (txR text (pos' + 1)).length + 1 < (txR text pos').length + 1
          rw [hr, List.length_cons]; exact Nat.lt_succ_self _
        | false =>
          rw [hw, Bool.not_false] at hocc
          have hqt : ((⟨#[c]⟩ : Str) == Str.ofString "\"") = false := by
            rw [one_is_qt]; simpa using okTok_no hw hi7
          k_steps
          refine Held.put ?_
          (rename Fr _ _ _ _ => oF)
          refine' cut_all (σ := Es) oF (fun y => x.led 76 ⟨y.pos, y.ln, #[], y.tp, ea, y.tl, ep⟩ ++ (it, itO q ts true) :: (q, methodObj (.ref 59) (.ref x.lx)) :: rest)
            (fun y => [(Str.ofString "ch", .str y.e y.te), (Str.ofString "self", .ref x.lx), (Str.ofString "token", .str (Str.ofString "") tt), (Str.ofString "fiter", .ref it)])
            (fun y => EscOk text c (pos' + 1) ln1 y.e y.pos y.ln) ?_ ?_
          · have ho : HoldOff := ⟨⟩
            by_cases hc92 : c = 92
            · have hbs : ((⟨#[c]⟩ : Str) == Str.ofString "\\") = true := by rw [one_is_bs, hc92]; rfl
              k_steps
              refine Held.put ?_
              k_dflt (refine' ctr_use (read_char_ctr w p loose mean mg mb Xt x ⟨pos' + 1, ln1, #[], tp2, ea, tl2, ep⟩ text _) hXt ?k1 ?k2 ?k3 ?k4 ?k5 ?kK ?kp ?kd ?ku ?_; (case k1 => k_asm); (case k2 => k_asm); (case k3 => k_asm); (case k4 => k_asm); (case k5 => k_asm); (case kK => first | exact rfl | assumption); (case kd => ktr_room); (case ku => ktr_units))
              case kp => exact ⟨hOrd, hrd, htl, r0, r1, r2, by dsimp only; (first | lia | omega), hq1 _, hq2 _⟩
              rintro v nw h5 tk5 ⟨tv5, tp5, tl5, rfl, rfl⟩ F5 N5
              simp only [List.cons_append, List.nil_append] at N5
              k_steps
              exact joinA_end ⟨_, _, _, _, _, _⟩ (by k_asm) (by k_asm) (fun _ h => h) (by kst_all) (esc_some hc92 r0 r1 r2)
            · have hbs : ((⟨#[c]⟩ : Str) == Str.ofString "\\") = false := by rw [one_is_bs]; simpa using hc92
              k_steps
              exact joinA_end ⟨_, _, _, _, tp2, tl2⟩ (by k_asm) (by k_asm) (fun _ h => h) (by kst_all) (esc_none hc92 r0 r1 r2)
          (rename Fr _ _ _ _ => oF; clear oF); (rename News _ _ _ _ => oN; clear oN)
          intro y u6 h6 tk6 hy F6 N6
          obtain ⟨e, te, pos6, ln6, tp6, tl6⟩ := y
          obtain ⟨y1, y2, y3, y4, y5, y6, y7, y8⟩ := hy
          dsimp only at y1 y2 y3 y4 y5 y6 y7 y8
          dsimp only [kstB] at F6
          simp only [List.cons_append, List.nil_append] at N6
          k_steps
          refine Held.put ?_
          rename_i t9 _ _ _ F9 N9
          refine wpAny_For ?_
          k_dflt (refine ld F9 rfl ?_)
          refine iter_ci (N9.get (by k_mem)) ?_
          refine for_all (σ := Gs) (fun g => x.led 76 (g.ls ea ep) ++ (it, itO q ts g.live) :: (q, methodObj (.ref 59) (.ref x.lx)) :: rest)
            (fun g => [(Str.ofString "self", .ref x.lx), (Str.ofString "token", .str g.tok g.tt), (Str.ofString "fiter", .ref it)])
            (Gs.Inv2 text (gtok (txR text pos)).1 (gtok (txR text pos)).2 (ln + nls (txR text pos))) (fun g => if g.live then (txR text g.pos).length + 1 else 0)
            (fun g => g.live = false ∧ Gs.Inv2 text (gtok (txR text pos)).1 (gtok (txR text pos)).2 (ln + nls (txR text pos)) g) ⟨true, pos6, ln6, Str.ofString "" ++ e, tp6, tl6, t9⟩ F9 N9 ?hk ?hp ?turn ?next
          case hk => kst_all
          case hp =>
            rw [gtok_no hw, unq_esc hw] at hi8
            have he1 := congrArg Prod.fst hi8
            have he2 := congrArg Prod.snd hi8
            dsimp only at he1 he2
            refine ⟨y3, y4, y5, Int.le_trans y6 (Int.le_trans r3 hi3), ?_, y7.trans (r4.trans hi5), ?_, ?_⟩
            · show (Str.ofString "" ++ e).length + (txR text pos6).length ≤ text.length
              have := esc_len c (txR text (pos' + 1))
              rw [← y1, ← y2] at this
              rw [List.length_cons] at hi4
              rw [len_lst, lst_append, lst_empty, List.nil_append]
              exact Nat.le_trans this (Nat.le_trans (Nat.le_add_left _ _) hi4)
            · show lst (Str.ofString "" ++ e) ++ (unq (txR text pos6)).1 = _
              rw [lst_append, lst_empty, List.nil_append, y1, y2]; exact he1
            · show (unq (txR text pos6)).2 = _
              rw [y2]; exact he2
          case next =>
            clear F9 N9
            intro g u h tk hg F' N'
            obtain ⟨live, pos', ln', tok, tp', tl', tt⟩ := g
            obtain ⟨hlv, hi0, hi1, hi2, hi3, hi4, hi5, hi6⟩ := hg
            dsimp only at hlv hi0 hi1 hi2 hi3 hi4 hi5 hi6
            subst hlv
            obtain ⟨hi6, hi7⟩ := hi6
            dsimp only [kstB] at F'
            simp only [List.cons_append, List.nil_append] at N'
            k_steps
            refine joinA_end ⟨false, pos', ln', tok, tp', tl', tt⟩ (by k_asm) (by k_asm) (fun _ h => h) (by kst_all) ⟨⟨hi0, hi1, hi2, hi3, hi4, hi5, hi6, hi7⟩, ?_⟩
            exact Nat.succ_pos _
          case turn =>
            clear F9 N9
            intro g u h tk hg F' N'
            obtain ⟨live, pos', ln', tok, tp', tl', tt⟩ := g
            obtain ⟨hi0, hi1, hi2, hi3, hi4, hi5, hi6⟩ := hg
            dsimp only at hi0 hi1 hi2 hi3 hi4 hi5 hi6
            cases live with
            | false =>
              obtain ⟨hi6, hi7⟩ := hi6
              refine next_ci_end (N' (it, _) (List.mem_append_right _ (.head _))).1 rfl fun h' hk => ?_
              refine joinA_end ⟨false, pos', ln', tok, tp', tl', tt⟩ (F'.keeps hk) (fun p hp => ⟨hk _ _ (N' p hp).1, (N' p hp).2⟩) (fun _ h => h) (by kst_all) ⟨rfl, hi0, hi1, hi2, hi3, hi4, hi5, hi6, hi7⟩
            | true =>
              obtain ⟨hi6, hi7⟩ := hi6
              refine next_ci (N' (it, _) (List.mem_append_right _ (.head _))).1 (N' (q, _) (List.mem_append_right _ (.tail _ (.head _)))).1 ⟨_, _, _, _, Frag.In.keeps (by k_asm) F'.keep _ _ (by k_dflt k_is)⟩ rfl ?_
              k_dflt (refine call_meth N' (List.mem_append_right _ (.tail _ (.head _))) ?_)
              k_dflt (refine' ctr_code (read_char_ctr w p loose mean mg mb Xt x ⟨pos', ln', #[], tp', ea, tl', ep⟩ text _) hXt ?k1 F' ?k3 N' ?k5 ?kK ?kp ?kd ?ku ?_; (case k1 => k_asm); (case k3 => k_asm); (case k5 => k_asm); (case kK => first | exact rfl | assumption); (case kd => ktr_room); (case ku => ktr_units))
              case kp => exact ⟨hOrd, hrd, htl, hi0, hi1, hi2, by dsimp only; (first | lia | omega), hq1 _, hq2 _⟩
              rintro v nw h2 tk2 ⟨tv, tp2, tl2, rfl, rfl⟩ F2 N2
              refine ⟨_, tv, rfl, (N2 (it, _) (List.mem_append_right _ (.head _))).1, (N2 (q, _) (List.mem_append_right _ (.tail _ (.head _)))).1, ⟨_, _, _, _, Frag.In.keeps (by k_asm) F2.keep _ _ (by k_dflt k_is)⟩, ?_, ?_⟩
              · intro hne tk3
                have hlt : pos' < text.length := by
                  rcases Int.lt_or_eq_of_le hi1 with h | h
                  · exact h
                  · exact absurd (ch_end h).1 hne
                obtain ⟨c, hc, hr⟩ := ch_at hi0 hlt
                dsimp only at N2 ⊢
                rw [hc] at N2 ⊢
                clear N'
                rw [hr] at hi3 hi4 hi5 hi6 hi7
                simp only [List.cons_append, List.nil_append] at N2
                dsimp only [kstB] at F2
                clear F'
                have hl1 : (((⟨#[c]⟩ : Str).length : Nat) : Int) = 1 := rfl
                rw [hl1] at N2
                obtain ⟨r0, r1, r2, r3, r4⟩ := read_post hi0 hlt hr hi2
                rw [hr] at r3 r4
                generalize ln' + (if (⟨#[c]⟩ : Str) = Str.ofString "\n" then 1 else 0) = ln1 at N2 r2 r3 r4
                have hocc := ws_occ c
                rw [List.length_cons] at hi4
                cases hw : isWs c with
                | true =>
                  rw [hw, Bool.not_true] at hocc
                  rw [unq_ws hw] at hi6 hi7
                  k_steps
                  dsimp only [EndA]
                  k_steps
                  refine hret _ _ _ _ ⟨pos' + 1, ln1, tp2, tl2, tt, ?_, r0, r1, hi7, ?_, r2, rfl⟩ (by k_asm) ?_
                  · rw [← hi6, List.append_nil]
                  · rw [← hi7]; exact r4.trans hi5
                  · rename News _ _ _ _ => nX
                    exact fun p hp => nX p (it_drop (l := x.led 76 ⟨pos' + 1, ln1, #[], tp2, ea, tl2, ep⟩) p hp)
                | false =>
                  rw [hw, Bool.not_false] at hocc
                  rw [unq_esc hw] at hi6 hi7
                  k_steps
                  refine Held.put ?_
                  (rename Fr _ _ _ _ => oF)
                  refine' cut_all (σ := Es) oF (fun y => x.led 76 ⟨y.pos, y.ln, #[], y.tp, ea, y.tl, ep⟩ ++ (it, itO q ts true) :: (q, methodObj (.ref 59) (.ref x.lx)) :: rest)
                    (fun y => [(Str.ofString "ch", .str y.e y.te), (Str.ofString "self", .ref x.lx), (Str.ofString "token", .str tok tt), (Str.ofString "fiter", .ref it)])
                    (fun y => EscOk text c (pos' + 1) ln1 y.e y.pos y.ln) ?_ ?_
                  · have ho : HoldOff := ⟨⟩
                    by_cases hc92 : c = 92
                    · have hbs : ((⟨#[c]⟩ : Str) == Str.ofString "\\") = true := by rw [one_is_bs, hc92]; rfl
                      k_steps
                      refine Held.put ?_
                      k_dflt (refine' ctr_use (read_char_ctr w p loose mean mg mb Xt x ⟨pos' + 1, ln1, #[], tp2, ea, tl2, ep⟩ text _) hXt ?k1 ?k2 ?k3 ?k4 ?k5 ?kK ?kp ?kd ?ku ?_; (case k1 => k_asm); (case k2 => k_asm); (case k3 => k_asm); (case k4 => k_asm); (case k5 => k_asm); (case kK => first | exact rfl | assumption); (case kd => ktr_room); (case ku => ktr_units))
                      case kp => exact ⟨hOrd, hrd, htl, r0, r1, r2, by dsimp only; (first | lia | omega), hq1 _, hq2 _⟩
                      rintro v nw h5 tk5 ⟨tv5, tp5, tl5, rfl, rfl⟩ F5 N5
                      simp only [List.cons_append, List.nil_append] at N5
                      k_steps
                      exact joinA_end ⟨_, _, _, _, _, _⟩ (by k_asm) (by k_asm) (fun _ h => h) (by kst_all) (esc_some hc92 r0 r1 r2)
                    · have hbs : ((⟨#[c]⟩ : Str) == Str.ofString "\\") = false := by rw [one_is_bs]; simpa using hc92
                      k_steps
                      exact joinA_end ⟨_, _, _, _, tp2, tl2⟩ (by k_asm) (by k_asm) (fun _ h => h) (by kst_all) (esc_none hc92 r0 r1 r2)
                  (rename Fr _ _ _ _ => oF; clear oF); (rename News _ _ _ _ => oN; clear oN)
                  intro y u6 h6 tk6 hy F6 N6
                  obtain ⟨e, te, pos6, ln6, tp6, tl6⟩ := y
                  obtain ⟨y1, y2, y3, y4, y5, y6, y7, y8⟩ := hy
                  dsimp only at y1 y2 y3 y4 y5 y6 y7 y8
                  dsimp only [kstB] at F6
                  simp only [List.cons_append, List.nil_append] at N6
                  k_steps
                  refine joinA_end ⟨true, pos6, ln6, tok ++ e, tp6, tl6, _⟩ (by k_asm) (by k_asm) (fun _ h => h) (by kst_all) ⟨⟨y3, y4, y5, Int.le_trans y6 (Int.le_trans r3 hi3), ?_, y7.trans (r4.trans hi5), ?_, ?_⟩, ?_⟩
                  · show (tok ++ e).length + (txR text pos6).length ≤ text.length
                    have := esc_len c (txR text (pos' + 1))
                    rw [← y1, ← y2] at this
                    rw [len_lst, lst_append, List.length_append, ← len_lst tok, Nat.add_assoc]
                    exact Nat.le_trans (Nat.add_le_add_left this _) hi4
                  · show lst (tok ++ e) ++ (unq (txR text pos6)).1 = _
                    rw [lst_append, y1, y2, List.append_assoc]; exact hi6
                  · show (unq (txR text pos6)).2 = _
                    rw [y2]; exact hi7
                  · show (txR text pos6).length + 1 < (txR text pos').length + 1
                    rw [hr, y2, List.length_cons]; exact Nat.succ_lt_succ (Nat.lt_succ_of_le (esc_short _ _))
              · intro he h3 tk3 hk1 hk2
                have hlt : pos' = text.length := by
                  rcases Int.lt_or_eq_of_le hi1 with h | h
                  · obtain ⟨c, hc, _⟩ := ch_at hi0 h
                    rw [hc] at he; exact absurd he (one_ne_empty c)
                  · exact h
                have hz : (chAt text pos').length = 0 := by rw [(ch_end hlt).1, ofEmpty]; rfl
                have hz2 : ¬ (chAt text pos' = Str.ofString "\n") := by rw [(ch_end hlt).1]; decide +kernel
                have hz3 : txR text pos' = [] := (ch_end hlt).2
                have N3 := N2
                dsimp only at N3
                rw [hz, if_neg hz2, Int.add_zero] at N3
                have e0 : pos' + ((0 : Nat) : Int) = pos' := Int.add_zero _
                rw [e0] at N3
                have hd1 : ∀ z ∈ x.led 76 ⟨pos', ln', #[], tp2, ea, tl2, ep⟩, z.1 ≠ it := fun z hzm => Nat.ne_of_lt (led_lt hOrd (by (first | lia | omega)) z hzm)
                have hd2 : ∀ z ∈ (q, methodObj (.ref 59) (.ref x.lx)) :: rest, z.1 ≠ it := by
                  intro z hzm
                  rcases List.mem_cons.mp hzm with h | h
                  · rw [h]; refine neN ?_; dsimp only; (first | lia | omega)
                  · exact hrc z h
                refine joinA_end ⟨false, pos', ln', tok, tp2, tl2, tt⟩ (fr_but F2 N2 (List.mem_append_right _ (.head _)) hk2) (news_but (o' := ciO .none .none true) N3 hd1 hd2 hk1 hk2) (fun _ h => h) (by kst_all) ⟨rfl, hi0, hi1, hi2, hi3, hi4, hi5, ?_⟩
                rw [hz3, unq_nil] at hi6 hi7
                exact ⟨by rw [← hi6]; simp, by rw [← hi7]; exact hz3⟩
      · intro he h3 tk3 hk1 hk2
        have hlt : pos' = text.length := by
          rcases Int.lt_or_eq_of_le hi1 with h | h
          · obtain ⟨c, hc, _⟩ := ch_at hi0 h
            rw [hc] at he; exact absurd he (one_ne_empty c)
          · exact h
        have hz : (chAt text pos').length = 0 := by rw [(ch_end hlt).1, ofEmpty]; rfl
        have hz2 : ¬ (chAt text pos' = Str.ofString "\n") := by rw [(ch_end hlt).1]; decide +kernel
        have hz3 : txR text pos' = [] := (ch_end hlt).2
        have N3 := N2
        dsimp only at N3
        rw [hz, if_neg hz2, Int.add_zero] at N3
        have e0 : pos' + ((0 : Nat) : Int) = pos' := Int.add_zero _
        rw [e0] at N3
        have hd1 : ∀ z ∈ x.led 76 ⟨pos', ln', #[], tp2, ea, tl2, ep⟩, z.1 ≠ it := fun z hzm => Nat.ne_of_lt (led_lt hOrd (by (first | lia | omega)) z hzm)
        have hd2 : ∀ z ∈ (q, methodObj (.ref 59) (.ref x.lx)) :: rest, z.1 ≠ it := by
          intro z hzm
          rcases List.mem_cons.mp hzm with h | h
          · rw [h]; refine neN ?_; dsimp only; (first | lia | omega)
          · exact hrc z h
        refine joinA_end ⟨false, pos', ln', (Str.ofString ""), tp2, tl2, tt⟩ (fr_but F2 N2 (List.mem_append_right _ (.head _)) hk2) (news_but (o' := ciO .none .none true) N3 hd1 hd2 hk1 hk2) (fun _ h => h) (by kst_all) ⟨rfl, hi0, hi1, hi2, hi3, hi4, hi5, ?_⟩
        rw [hz3, gtok_nil] at hi8
        exact ⟨by rw [← congrArg Prod.fst hi8]; exact lst_empty, by rw [← congrArg Prod.snd hi8]; exact hz3⟩
end Mine
end
section
theorem Mine.forget_Qd1 : True := by
  w_top off
  trivial
open PySem PySem.W PyProof.Rows PySem.Calls PySem.Spec
set_option maxRecDepth 100000
set_option maxHeartbeats 8000000
namespace Mine
/-- what quotedata makes -/
def quot (l : List Nat) : List Nat := dots true (crlf l)
theorem news_keep {h₀ h h' : Heap} {L : Addr} {news : List (Addr × Obj)} (N : News h₀ L h news) (hk : ∀ b o, h.get? b = some o → h'.get? b = some o) : News h₀ L h' news := fun p hp => ⟨hk _ _ (N p hp).1, (N p hp).2⟩
theorem crlf_len : ∀ (n : Nat) (l : List Nat), l.length ≤ n → (crlf l).length ≤ 2 * l.length := by
  intro n
  induction n with
  | zero => intro l h; cases l with | nil => simp [crlf] | cons c r => simp at h
  | succ n ih =>
    intro l h
    match l with
    | [] => simp [crlf]
    | [c] => unfold crlf; split <;> simp
    | c :: d :: r =>
      unfold crlf
      simp only [List.length_cons] at h ⊢
      split
      · have := ih r (by (first | lia | omega)); simp only [List.length_cons]; (first | lia | omega)
      · split
        · have := ih (d :: r) (by simp only [List.length_cons]; (first | lia | omega)); simp only [List.length_cons] at this ⊢; (first | lia | omega)
        · have := ih (d :: r) (by simp only [List.length_cons]; (first | lia | omega)); simp only [List.length_cons] at this ⊢; (first | lia | omega)
section
variable {prog : Program} {w : World} {A : Around} {E : Value → Shared → Prop} {s : Shared} {h₀ : Heap} {L : Addr} {m : Str → Option Value} {news : List (Addr × Obj)}
theorem call_sub2 {P T : Addr} {pv fl : Value} {its : Array Value} {x : Str} {t tr : Tok} {Q : Value → Shared → Prop} (F : Fr h₀ L s.heap m) (N : News h₀ L s.heap news) (hp : h₀.get? P = some (patO pv fl T)) (hT : h₀.get? T = some (codO its)) (he : (its.map Builtin.Re.reRawOf).map (·.toNat) = c2) (hx : x.length ≤ 100000)
    (h : ∀ h' tv k', Fr h₀ L h' m → News h₀ L h' news → Q (.str ⟨(crlf (lst x)).toArray⟩ tv) { s with heap := h', toks := k' }) : wpAny (model prog w) A (call (.builtin "re.Pattern.sub") [.ref P, .str (Str.ofString "\r\n") tr, .str x t]) Q E s := by
  refine call_sub (c := c2) (G := fun a => crlf (x.cps.toList.drop a)) (F.keep _ _ hp) (F.keep _ _ hT) he (fun a ha => ?_) hx (by decide +kernel) (by decide +kernel) fun h' tv k' hk => ?_
  · rw [show lst (Str.ofString "\r\n") = [13, 10] from by decide +kernel]; exact finds2 ha
  · exact h h' tv k' (F.keeps hk) (news_keep N hk)
theorem call_sub1 {P T : Addr} {pv fl : Value} {its : Array Value} {x : Str} {t tr : Tok} {Q : Value → Shared → Prop} (F : Fr h₀ L s.heap m) (N : News h₀ L s.heap news) (hp : h₀.get? P = some (patO pv fl T)) (hT : h₀.get? T = some (codO its)) (he : (its.map Builtin.Re.reRawOf).map (·.toNat) = c1) (hx : x.length ≤ 100000)
    (h : ∀ h' tv k', Fr h₀ L h' m → News h₀ L h' news → Q (.str ⟨(dots true (lst x)).toArray⟩ tv) { s with heap := h', toks := k' }) : wpAny (model prog w) A (call (.builtin "re.Pattern.sub") [.ref P, .str (Str.ofString "..") tr, .str x t]) Q E s := by
  refine call_sub (c := c1) (G := fun a => dots (bol x.cps a) (x.cps.toList.drop a)) (F.keep _ _ hp) (F.keep _ _ hT) he (fun a ha => ?_) hx (by decide +kernel) (by decide +kernel) fun h' tv k' hk => ?_
  · rw [show lst (Str.ofString "..") = [46, 46] from by decide +kernel]; exact finds1 ha hx
  · exact h h' tv k' (F.keeps hk) (news_keep N hk)
end
local macro_rules | `(tactic| walk_at "getMethod ref") => `(tactic| (refine Held.out ?_))
local macro_rules | `(tactic| walk_at "call builtin:re.Pattern.sub") => `(tactic| (refine Held.out ?_))
theorem quotedata_ctr (w : World) (p : Program) (loose : List Str) (mean : ExcName → Option Value) (mg mb : Str → Option Value) (Xt : Heap → Prop) (news : List (Addr × Obj)) (a : Str) (t1 : Tok) :
   Ctr (PySem.Challenge.rw_pe0114_01).row.prog w (hd.heap_39 w.params) p loose mean mg mb Xt 97 2 news (a.length ≤ 1000) [.str a t1] (fun v nw => (∃ t, v = .str ⟨(quot (lst a)).toArray⟩ t) ∧ nw = news) := by
  k_fill
  dsimp only [Ctr]
  intros
  rename_i hXt _ _ _ _ _ _ hpre _ _ hret
  k_dflt cell_enter
  k_steps
  refine Held.put ?_
  (rename Fr _ _ _ _ => fX); k_dflt (refine getMethod_re (Frag.In.keeps (by k_asm) fX.keep _ _ (by k_dflt k_is)) ?_)
  k_steps
  refine Held.put ?_
  (rename Fr _ _ _ _ => fX); k_dflt (refine getMethod_re (Frag.In.keeps (by k_asm) fX.keep _ _ (by k_dflt k_is)) ?_)
  k_steps
  refine Held.put ?_
  (rename Fr _ _ _ _ => fX); (rename News _ _ _ _ => nX); (rename Frag.In _ _ => xX)
  k_dflt (refine call_sub2 fX nX (xX _ _ (by k_dflt k_is)) (xX _ _ (by k_dflt k_is)) (by decide +kernel) (Nat.le_trans hpre (by decide)) ?_)
  intro h1 tv1 k1 F1 N1
  clear fX nX
  k_steps
  refine Held.put ?_
  k_dflt (refine call_sub1 F1 N1 (xX _ _ (by k_dflt k_is)) (xX _ _ (by k_dflt k_is)) (by decide +kernel) ?_ ?_)
  · rw [len_lst, lst_mk]
    have := crlf_len _ _ (Nat.le_refl (lst a).length)
    rw [← len_lst] at this
    (first | lia | omega)
  intro h2 tv2 k2 F2 N2
  rw [lst_mk]
  clear F1 N1
  k_steps
  exact hret _ _ _ _ ⟨⟨_, rfl⟩, rfl⟩ (by k_asm) (by k_asm)
end Mine
end
section
theorem Mine.forget_Sn1 : True := by
  w_top off
  trivial
local macro_rules | `(tactic| walk_at "no such key 0") => `(tactic| fail)
open PySem PySem.W PyProof.Rows PySem.Calls PySem.Spec
set_option maxRecDepth 100000
set_option maxHeartbeats 2000000
namespace Mine
def quotN : Nat → List Nat → List Nat
  | 0, l => l
  | n + 1, l => quot (quotN n l)
theorem dots_len : ∀ (b : Bool) (l : List Nat), (dots b l).length ≤ 2 * l.length
  | _, [] => by simp [dots]
  | b, c :: r => by
    have := dots_len (c == 10) r
    rw [dots, List.length_append, List.length_cons]
    split <;> simp only [List.length_cons, List.length_nil] <;> (first | lia | omega)
theorem quot_len (l : List Nat) : (quot l).length ≤ 4 * l.length := by
  unfold quot
  have h1 := dots_len true (crlf l)
  have h2 := crlf_len _ l (Nat.le_refl _)
  (first | lia | omega)
theorem quotN_len : ∀ (n : Nat) (l : List Nat), (quotN n l).length ≤ 4 ^ n * l.length
  | 0, l => by simp [quotN]
  | n + 1, l => by
    have h1 := quot_len (quotN n l)
    have h2 := quotN_len n l
    rw [quotN, Nat.pow_succ]
    have : 4 ^ n * 4 * l.length = 4 * (4 ^ n * l.length) := by rw [Nat.mul_comm (4 ^ n) 4, Nat.mul_assoc]
    (first | lia | omega)
local macro_rules | `(tactic| walk_at "pyIter ref") => `(tactic| (refine Held.out ?_))
local macro_rules | `(tactic| walk_at "call ref") => `(tactic| (refine Held.out ?_))
theorem sent_ctr (w : World) (p : Program) (loose : List Str) (mean : ExcName → Option Value) (mg mb : Str → Option Value) (Xt : Heap → Prop) (news : List (Addr × Obj)) (a : Str) (t1 : Tok) (n : Nat) (t2 : Tok) :
   Ctr (PySem.Challenge.rw_pe0114_01).row.prog w (hd.heap_39 w.params) p loose mean mg mb Xt 125 3 news (a.length ≤ 60 ∧ n ≤ 3) [.str a t1, .int (n : Int) t2] (fun v nw => (∃ t, v = .str ⟨(quotN n (lst a)).toArray⟩ t) ∧ nw = news) := by
  k_fill
  dsimp only [Ctr]
  intros
  rename_i hXt _ _ _ _ _ _ hpre _ _ hret
  obtain ⟨hal, hn⟩ := hpre
  k_dflt cell_enter
  k_steps
  refine Held.put ?_
  refine range_all (σ := Str × Tok) (n := n) (fun _ => news) (fun c => [(Str.ofString "text", .str c.1 c.2)]) (fun i c => c.1 = ⟨(quotN i (lst a)).toArray⟩) (a, _) rfl (by assumption) (small_one (by (first | lia | omega)) (by (first | lia | omega)) (by (first | lia | omega)) (by (first | lia | omega))) ?hn (by k_asm) (by k_asm) (by kst_all) ?hp ?turn ?done
  case hn => exact rangeSize_nat _ _
  case hp => exact str_ext (by rw [lst_mk]; rfl)
  case turn =>
    (rename Fr _ _ _ _ => oF; clear oF); (rename Fr _ _ _ _ => oF; clear oF); (rename News _ _ _ _ => oN; clear oN); (rename News _ _ _ _ => oN; clear oN)
    intro c i tj u h tk own hi hoff hP F' N'
    obtain ⟨x, tx⟩ := c
    dsimp only [kstB] at F' hP N' hoff
    have hxl : x.length ≤ 1000 := by
      rw [hP, len_lst, lst_mk]
      have h1 := quotN_len i (lst a)
      rw [← len_lst] at h1
      have h2 : 4 ^ i ≤ 16 := by
        have : i = 0 ∨ i = 1 ∨ i = 2 := by (first | lia | omega)
        rcases this with h | h | h <;> subst h <;> decide
      have h3 : 4 ^ i * a.length ≤ 16 * 60 := Nat.mul_le_mul h2 hal
      (first | lia | omega)
    k_steps
    refine Held.put ?_
    k_dflt (refine' ctr_use (quotedata_ctr w p loose mean mg mb Xt _ _ _) hXt ?k1 ?k2 ?k3 ?k4 ?k5 ?kK ?kp ?kd ?ku ?_; (case k1 => k_asm); (case k2 => k_asm); (case k3 => k_asm); (case k4 => k_asm); (case k5 => k_asm); (case kK => first | exact rfl | assumption); (case kd => ktr_room); (case ku => ktr_units))
    case kp => exact hxl
    intro v5 nw5 h5 tk5 hr5 F5 N5
    obtain ⟨⟨t5, rfl⟩, rfl⟩ := hr5
    k_steps
    dsimp only [EndR]
    exact joinA_end (_, t5) (by k_asm) (by k_asm) (fun _ h => h) (by kst_all) ⟨rfl, by dsimp only; rw [hP, lst_mk]; rfl⟩
  case done =>
    (rename Fr _ _ _ _ => oF; clear oF); (rename Fr _ _ _ _ => oF; clear oF); (rename News _ _ _ _ => oN; clear oN); (rename News _ _ _ _ => oN; clear oN)
    intro c u h tk hP F' N'
    obtain ⟨x, tx⟩ := c
    dsimp only [kstB] at F' hP N'
    k_steps
    exact hret _ _ _ _ ⟨⟨tx, by rw [hP]⟩, rfl⟩ (by k_asm) (by k_asm)
end Mine
end
section
theorem Mine.forget_PmR : True := by
  w_top off
  trivial
open PySem PySem.W PyProof.Rows PySem.Calls PySem.Spec
set_option maxRecDepth 100000
namespace Mine
/-- plain signs: no row end -/
def plainL (l : List Nat) : Prop := ∀ x ∈ l, x ≠ 10 ∧ x ≠ 13
theorem plainL.tail {c : Nat} {l : List Nat} (h : plainL (c :: l)) : plainL l := fun x hx => h x (.tail _ hx)
theorem plainL.app {a b : List Nat} (h : plainL a) (h' : plainL b) : plainL (a ++ b) := fun x hx => (List.mem_append.mp hx).elim (h x) (h' x)
def eolL : Nat → List Nat
  | 0 => [10]
  | 1 => [13]
  | _ => [13, 10]
def rowsT (rs : List (List Nat × Nat)) : List Nat := rs.flatMap fun r => r.1 ++ eolL r.2
def rowsC (bs : List (List Nat)) : List Nat := bs.flatMap fun b => b ++ [13, 10]
theorem rowsC_cons (b : List Nat) (bs : List (List Nat)) : rowsC (b :: bs) = b ++ 13 :: 10 :: rowsC bs := by simp [rowsC]
theorem rowsT_cons (b : List Nat) (e : Nat) (rs : List (List Nat × Nat)) : rowsT ((b, e) :: rs) = b ++ (eolL e ++ rowsT rs) := by simp [rowsT]
theorem crlf_body : ∀ {b : List Nat} (r : List Nat), plainL b → crlf (b ++ r) = b ++ crlf r
  | [], _, _ => rfl
  | c :: b, r, h => by
    have h1 := h c (.head _)
    rw [List.cons_append, crlf_plain (by simp [eol]; (first | lia | omega)), crlf_body r h.tail]; rfl
theorem crlf_eol (e : Nat) {r : List Nat} (h : ∀ r', r ≠ 10 :: r') : crlf (eolL e ++ r) = 13 :: 10 :: crlf r := by
  match e with
  | 0 => exact crlf_nl r
  | 1 => exact crlf_cr h
  | _ + 2 => exact crlf_crlf r
theorem rowsT_no : ∀ {rs : List (List Nat × Nat)}, (∀ r ∈ rs, plainL r.1 ∧ r.1 ≠ []) → ∀ r', rowsT rs ≠ 10 :: r'
  | [], _, _ => by simp [rowsT]
  | (b, e) :: rs, h, r' => by
    have h1 := h _ (.head _)
    rw [rowsT_cons]
    cases b with
    | nil => exact absurd rfl h1.2
    | cons c b => intro e; injection e with e1; exact (h1.1 c (.head _)).1 e1
theorem crlf_rows : ∀ {rs : List (List Nat × Nat)}, (∀ r ∈ rs, plainL r.1 ∧ r.1 ≠ []) → crlf (rowsT rs) = rowsC (rs.map (·.1))
  | [], _ => by simp [rowsT, rowsC, crlf]
  | (b, e) :: rs, h => by
    have h1 := h _ (.head _)
    have h2 := fun r hr => h r (.tail _ hr)
    rw [rowsT_cons, crlf_body _ h1.1, crlf_eol e (rowsT_no h2), crlf_rows h2, List.map_cons, rowsC_cons]
def dotB (b : List Nat) : List Nat := if b.head? = some 46 then 46 :: b else b
theorem dots_false : ∀ {b : List Nat} (r : List Nat), plainL b → dots false (b ++ 13 :: 10 :: r) = b ++ 13 :: 10 :: dots true r
  | [], r, _ => by simp [dots]
  | c :: b, r, h => by
    have h1 := h c (.head _)
    have hc : (c == 10) = false := by simpa using h1.1
    rw [List.cons_append, dots, if_neg (by simp), hc, dots_false r h.tail]; rfl
theorem dots_true {b : List Nat} (r : List Nat) (h : plainL b) : dots true (b ++ 13 :: 10 :: r) = dotB b ++ 13 :: 10 :: dots true r := by
  cases b with
  | nil => simp [dots, dotB]
  | cons c b =>
    have h1 := h c (.head _)
    have hc : (c == 10) = false := by simpa using h1.1
    rw [List.cons_append, dots, hc, dots_false r h.tail]
    unfold dotB
    by_cases e : c = 46
    · subst e; simp
    · simp [e]
theorem dots_rows : ∀ {bs : List (List Nat)}, (∀ b ∈ bs, plainL b) → dots true (rowsC bs) = rowsC (bs.map dotB)
  | [], _ => by simp [rowsC, dots]
  | b :: bs, h => by
    rw [rowsC_cons, dots_true _ (h b (.head _)), dots_rows fun b hb => h b (.tail _ hb), List.map_cons, rowsC_cons]
def quotM (l : List Nat) : List Nat := dots true (crlf l)
theorem quot_rowsT {rs : List (List Nat × Nat)} (h : ∀ r ∈ rs, plainL r.1 ∧ r.1 ≠ []) : quotM (rowsT rs) = rowsC (rs.map fun r => dotB r.1) := by
  unfold quotM
  rw [crlf_rows h, dots_rows]
  · rw [List.map_map]; rfl
  · intro b hb
    obtain ⟨r, hr, rfl⟩ := List.mem_map.mp hb
    exact (h r hr).1
theorem rowsC_T (bs : List (List Nat)) : rowsC bs = rowsT (bs.map fun b => (b, 2)) := by
  unfold rowsC rowsT
  rw [List.flatMap_map]; rfl
theorem quot_rowsC {bs : List (List Nat)} (h : ∀ b ∈ bs, plainL b ∧ b ≠ []) : quotM (rowsC bs) = rowsC (bs.map dotB) := by
  rw [rowsC_T, quot_rowsT]
  · rw [List.map_map]; rfl
  · intro r hr
    obtain ⟨b, hb, rfl⟩ := List.mem_map.mp hr
    exact h b hb
def escd (t : List Nat) : List Nat := t.flatMap fun c => if c = 32 ∨ c = 34 ∨ c = 92 then [92, c] else [c]
/-- a row's body: guard, dots, tail -/
def bodyL (g : Bool) (m : Nat) (t : List Nat) : List Nat := (if g then [92] else []) ++ (List.replicate m 46 ++ escd t)
/-- the dots behind n sendings -/
def grow (g : Bool) (n m : Nat) : Nat := if g = true ∨ m = 0 then m else m + n
/-- the signs of a tail -/
def tailOk (t : List Nat) : Prop := ∀ c ∈ t, c ≠ 10 ∧ c ≠ 13 ∧ c ≠ 9 ∧ c ≠ 46
theorem escd_mem {t : List Nat} {x : Nat} (h : x ∈ escd t) : x = 92 ∨ x ∈ t := by
  unfold escd at h
  obtain ⟨c, hc, hx⟩ := List.mem_flatMap.mp h
  split at hx
  · simp at hx; rcases hx with h | h
    · exact .inl h
    · exact .inr (h ▸ hc)
  · simp at hx; exact .inr (hx ▸ hc)
theorem body_plain {g : Bool} {m : Nat} {t : List Nat} (h : tailOk t) : plainL (bodyL g m t) := by
  intro x hx
  unfold bodyL at hx
  rcases List.mem_append.mp hx with hx | hx
  · cases g <;> simp at hx; (first | lia | omega)
  rcases List.mem_append.mp hx with hx | hx
  · have := List.eq_of_mem_replicate hx; (first | lia | omega)
  · rcases escd_mem hx with h' | h'
    · (first | lia | omega)
    · have := h x h'; (first | lia | omega)
theorem escd_nil {t : List Nat} (h : escd t = []) : t = [] := by
  cases t with
  | nil => rfl
  | cons c t => unfold escd at h; rw [List.flatMap_cons] at h; split at h <;> simp at h
theorem body_ne {g : Bool} {m : Nat} {t : List Nat} (h : m = 0 → t ≠ []) : bodyL g m t ≠ [] := by
  intro e
  unfold bodyL at e
  have h1 := (List.append_eq_nil_iff.mp (List.append_eq_nil_iff.mp e).2)
  have h2 : m = 0 := by simpa using h1.1
  exact h h2 (escd_nil h1.2)
theorem escd_head {t : List Nat} (h : tailOk t) : (escd t).head? ≠ some 46 := by
  cases t with
  | nil => simp [escd]
  | cons c t =>
    have := h c (.head _)
    unfold escd; rw [List.flatMap_cons]
    split
    · simp
    · simp; (first | lia | omega)
theorem dotB_body {g : Bool} {m : Nat} {t : List Nat} (h : tailOk t) : dotB (bodyL g m t) = bodyL g (grow g 1 m) t := by
  unfold dotB grow
  cases g with
  | true => simp [bodyL]
  | false =>
    cases m with
    | zero =>
      have := escd_head h
      simp [bodyL, this]
    | succ m => simp [bodyL, List.replicate_succ]
theorem grow_add (g : Bool) (a b m : Nat) : grow g a (grow g b m) = grow g (b + a) m := by
  unfold grow
  by_cases h : g = true ∨ m = 0
  · simp [h]
  · have h2 : ¬ (g = true ∨ m + b = 0) := fun z => h (z.imp_right fun e => by (first | lia | omega))
    rw [if_neg h, if_neg h2, if_neg h]; (first | lia | omega)
def quotMN : Nat → List Nat → List Nat
  | 0, l => l
  | n + 1, l => quotM (quotMN n l)
/-- a word: guard, dots, tail -/
abbrev Wd := Bool × Nat × List Nat
def Wd.ok (w : Wd) : Prop := tailOk w.2.2 ∧ (w.2.1 = 0 → w.2.2 ≠ [] ∧ w.1 = false)
def Wd.sent (n : Nat) (w : Wd) : Wd := (w.1, grow w.1 n w.2.1, w.2.2)
def Wd.body (w : Wd) : List Nat := bodyL w.1 w.2.1 w.2.2
def Wd.tok (w : Wd) : List Nat := List.replicate w.2.1 46 ++ w.2.2
theorem Wd.ok.sent {w : Wd} (h : w.ok) (n : Nat) : (w.sent n).ok := by
  refine ⟨h.1, fun e => h.2 ?_⟩
  unfold Wd.sent grow at e
  dsimp only at e
  split at e
  · exact e
  · next hn => exact absurd (.inr (by (first | lia | omega))) hn
theorem quotN_rows {ws : List (Wd × Nat)} (h : ∀ w ∈ ws, w.1.ok) : ∀ n : Nat, quotMN (n + 1) (rowsT (ws.map fun w => (w.1.body, w.2))) = rowsC (ws.map fun w => (w.1.sent (n + 1)).body) := by
  intro n
  induction n with
  | zero =>
    rw [quotMN, quotMN, quot_rowsT]
    · rw [List.map_map]
      congr 1
      apply List.map_congr_left
      intro w hw
      exact dotB_body (h w hw).1
    · intro r hr
      obtain ⟨w, hw, rfl⟩ := List.mem_map.mp hr
      exact ⟨body_plain (h w hw).1, body_ne fun e => ((h w hw).2 e).1⟩
  | succ n ih =>
    rw [quotMN, ih, quot_rowsC]
    · rw [List.map_map]
      congr 1
      apply List.map_congr_left
      intro w hw
      refine (dotB_body (h w hw).1).trans ?_
      show bodyL w.1.1 (grow w.1.1 1 (grow w.1.1 (n + 1) w.1.2.1)) w.1.2.2 = _
      rw [grow_add]; rfl
    · intro b hb
      obtain ⟨w, hw, rfl⟩ := List.mem_map.mp hb
      have := (h w hw).sent (n + 1)
      exact ⟨body_plain this.1, body_ne fun e => (this.2 e).1⟩
theorem unq_plain {c : Nat} {r : List Nat} (h : isWs c = false) (h2 : c ≠ 92) : unq (c :: r) = (c :: (unq r).1, (unq r).2) := by
  rw [unq.eq_def]; simp [h, h2]
theorem unq_two {d : Nat} {r : List Nat} : unq (92 :: d :: r) = (d :: (unq r).1, (unq r).2) := by
  rw [unq.eq_def]; simp [isWs]
theorem unq_dots {r : List Nat} : ∀ a : Nat, unq (List.replicate a 46 ++ r) = (List.replicate a 46 ++ (unq r).1, (unq r).2)
  | 0 => by simp
  | a + 1 => by
    rw [List.replicate_succ, List.cons_append, unq_plain (by decide) (by decide), unq_dots a]; rfl
theorem unq_escd {r : List Nat} : ∀ {t : List Nat}, tailOk t → unq (escd t ++ 13 :: r) = (t, r)
  | [], _ => by show unq (13 :: r) = _; exact unq_ws (by decide)
  | c :: t, h => by
    have h1 := h c (.head _)
    have ih := unq_escd (r := r) (t := t) fun x hx => h x (.tail _ hx)
    have e : escd (c :: t) = (if c = 32 ∨ c = 34 ∨ c = 92 then [92, c] else [c]) ++ escd t := by unfold escd; rw [List.flatMap_cons]
    rw [e]
    by_cases hc : c = 32 ∨ c = 34 ∨ c = 92
    · rw [if_pos hc]
      show unq (92 :: c :: (escd t ++ 13 :: r)) = _
      rw [unq_two, ih]
    · rw [if_neg hc]
      show unq (c :: (escd t ++ 13 :: r)) = _
      have hw : isWs c = false := by unfold isWs; simp; (first | lia | omega)
      rw [unq_plain hw (by (first | lia | omega)), ih]
theorem escd_first {t : List Nat} (h : tailOk t) (ht : t ≠ []) : ∃ c r, escd t = c :: r ∧ isWs c = false ∧ c ≠ 34 := by
  cases t with
  | nil => exact absurd rfl ht
  | cons c t =>
    have h1 := h c (.head _)
    have e : escd (c :: t) = (if c = 32 ∨ c = 34 ∨ c = 92 then [92, c] else [c]) ++ escd t := by unfold escd; rw [List.flatMap_cons]
    rw [e]
    by_cases hc : c = 32 ∨ c = 34 ∨ c = 92
    · rw [if_pos hc]; exact ⟨92, _, rfl, by decide, by decide⟩
    · rw [if_neg hc]; refine ⟨c, _, rfl, ?_, by (first | lia | omega)⟩
      unfold isWs; simp; (first | lia | omega)
theorem body_first {w : Wd} (h : w.ok) : ∃ c r, w.body = c :: r ∧ isWs c = false ∧ c ≠ 34 := by
  obtain ⟨g, m, t⟩ := w
  unfold Wd.body bodyL
  dsimp only
  cases g with
  | true => exact ⟨92, _, rfl, by decide, by decide⟩
  | false =>
    cases m with
    | zero => obtain ⟨c, r, e, h1, h2⟩ := escd_first h.1 (h.2 rfl).1; exact ⟨c, r, by simpa using e, h1, h2⟩
    | succ m => exact ⟨46, _, rfl, by decide, by decide⟩
theorem unq_body {w : Wd} (h : w.ok) (r : List Nat) : unq (w.body ++ 13 :: r) = (w.tok, r) := by
  obtain ⟨g, m, t⟩ := w
  unfold Wd.body bodyL Wd.tok
  dsimp only
  cases g with
  | false =>
    show unq (([] ++ (List.replicate m 46 ++ escd t)) ++ 13 :: r) = _
    rw [List.nil_append, List.append_assoc, unq_dots, unq_escd h.1]
  | true =>
    cases m with
    | zero => exact absurd (h.2 rfl).2 (by simp)
    | succ m =>
      show unq (92 :: 46 :: ((List.replicate m 46 ++ escd t) ++ 13 :: r)) = _
      rw [unq_two, List.append_assoc, unq_dots, unq_escd h.1]
      rfl
theorem gtok_body {w : Wd} (h : w.ok) (r : List Nat) : gtok (w.body ++ 13 :: r) = (w.tok, r) := by
  obtain ⟨c, l, e, h1, _⟩ := body_first h
  rw [← unq_body h r, e]
  exact gtok_no h1
/-- what is left of the text behind k words -/
def restR (ws : List Wd) (k : Nat) : List Nat := (if k = 0 then [] else [10]) ++ rowsC ((ws.drop k).map Wd.body)
theorem gtok_skip (k : Nat) (l : List Nat) : gtok ((if k = 0 then [] else [10]) ++ l) = gtok l := by
  split
  · rfl
  · exact gtok_ws (by decide)
theorem gtok_row {ws : List Wd} (h : ∀ w ∈ ws, w.ok) {k : Nat} {w : Wd} (hk : ws[k]? = some w) : gtok (restR ws k) = (w.tok, restR ws (k + 1)) := by
  unfold restR
  obtain ⟨hl, hw⟩ := List.getElem?_eq_some_iff.mp hk
  rw [gtok_skip, List.drop_eq_getElem_cons hl, hw, List.map_cons, rowsC_cons, gtok_body (h w (List.mem_of_getElem? hk)), if_neg (by (first | lia | omega))]
  rfl
theorem gtok_last (ws : List Wd) : gtok (restR ws ws.length) = ([], []) := by
  unfold restR
  rw [gtok_skip, List.drop_length]
  exact rfl
theorem okTok_skip (k : Nat) (l : List Nat) : okTok ((if k = 0 then [] else [10]) ++ l) = okTok l := by
  split
  · rfl
  · rw [List.cons_append, okTok]; rfl
theorem okTok_row {ws : List Wd} (h : ∀ w ∈ ws, w.ok) (k : Nat) : okTok (restR ws k) := by
  unfold restR
  rw [okTok_skip]
  cases e : ws.drop k with
  | nil => trivial
  | cons w r =>
    have hm : w ∈ ws.drop k := by rw [e]; exact List.mem_cons_self
    have hw : w.ok := h w (List.mem_of_mem_drop hm)
    obtain ⟨c, l, e2, h1, h2⟩ := body_first hw
    rw [List.map_cons, rowsC_cons, e2, List.cons_append, okTok, h1]
    exact h2
theorem nls_plain : ∀ {b : List Nat} (r : List Nat), plainL b → nls (b ++ r) = nls r
  | [], _, _ => rfl
  | c :: b, r, h => by
    rw [List.cons_append, nls_cons, nls_plain r h.tail, if_neg (h c (.head _)).1]; (first | lia | omega)
theorem nls_rows {ws : List Wd} (h : ∀ w ∈ ws, w.ok) : nls (rowsC (ws.map Wd.body)) = ws.length := by
  induction ws with
  | nil => rfl
  | cons w ws ih =>
    rw [List.map_cons, rowsC_cons, nls_plain (b := w.body) _ (body_plain (h w (.head _)).1), nls_cons, nls_cons, ih fun w hw => h w (.tail _ hw)]
    simp; (first | lia | omega)
theorem nls_rest {ws : List Wd} (h : ∀ w ∈ ws, w.ok) (k : Nat) : nls (restR ws k) = (if k = 0 then 0 else 1) + ((ws.length - k : Nat) : Int) := by
  unfold restR
  have := nls_rows (ws := ws.drop k) fun w hw => h w (List.mem_of_mem_drop hw)
  rw [List.length_drop] at this
  by_cases hk : k = 0
  · rw [if_pos hk, if_pos hk, List.nil_append, this]; (first | lia | omega)
  · rw [if_neg hk, if_neg hk, List.cons_append, List.nil_append, nls_cons, this]; rfl
theorem rowsC_len (bs : List (List Nat)) (n : Nat) (h : ∀ b ∈ bs, b.length ≤ n) : (rowsC bs).length ≤ bs.length * (n + 2) := by
  induction bs with
  | nil => simp [rowsC]
  | cons b bs ih =>
    have h1 := h b (.head _)
    have h2 := ih fun b hb => h b (.tail _ hb)
    rw [rowsC_cons, List.length_append, List.length_cons, List.length_cons, List.length_cons, Nat.add_mul]
    (first | lia | omega)
theorem escd_len (t : List Nat) : (escd t).length ≤ 2 * t.length := by
  induction t with
  | nil => simp [escd]
  | cons c t ih =>
    have e : escd (c :: t) = (if c = 32 ∨ c = 34 ∨ c = 92 then [92, c] else [c]) ++ escd t := by unfold escd; rw [List.flatMap_cons]
    rw [e, List.length_append, List.length_cons]
    split <;> simp only [List.length_cons, List.length_nil] <;> (first | lia | omega)
theorem body_len (w : Wd) : w.body.length ≤ 1 + w.2.1 + 2 * w.2.2.length := by
  unfold Wd.body bodyL
  have := escd_len w.2.2
  rw [List.length_append, List.length_append, List.length_replicate]
  split <;> simp <;> (first | lia | omega)
theorem grow_le (g : Bool) (n m : Nat) : grow g n m ≤ m + n := by unfold grow; split <;> (first | lia | omega)
/-- what is left behind i words, the empty one behind the last -/
def restS (ws : List Wd) (i : Nat) : List Nat := if i ≤ ws.length then restR ws i else []
def tokS (ws : List Wd) (i : Nat) : List Nat := match ws[i]? with | some w => w.tok | none => []
theorem gtok_S {ws : List Wd} (h : ∀ w ∈ ws, w.ok) {i : Nat} (hi : i ≤ ws.length) : gtok (restS ws i) = (tokS ws i, restS ws (i + 1)) := by
  unfold restS tokS
  rw [if_pos hi]
  rcases Nat.lt_or_eq_of_le hi with hl | hl
  · rw [if_pos (Nat.succ_le_of_lt hl), List.getElem?_eq_getElem hl]
    exact gtok_row h (List.getElem?_eq_getElem hl)
  · subst hl
    rw [if_neg (Nat.not_succ_le_self _), List.getElem?_eq_none (Nat.le_refl _)]
    exact gtok_last ws
theorem okTok_S {ws : List Wd} (h : ∀ w ∈ ws, w.ok) (i : Nat) : okTok (restS ws i) := by
  unfold restS
  split
  · exact okTok_row h i
  · trivial
/-- the words heard -/
def tokL (ws : List Wd) : List Str := (List.range (ws.length + 1)).map fun i => ⟨(tokS ws i).toArray⟩
theorem tokL_take {ws : List Wd} {i : Nat} (hi : i < ws.length + 1) : (tokL ws).take (i + 1) = (tokL ws).take i ++ [⟨(tokS ws i).toArray⟩] := by
  have e : (tokL ws)[i]? = some ⟨(tokS ws i).toArray⟩ := by
    unfold tokL
    rw [List.getElem?_map, List.getElem?_range hi]; rfl
  rw [List.take_add_one, e]; rfl
theorem nls_nonneg (l : List Nat) : 0 ≤ nls l := Int.natCast_nonneg _
end Mine
end
section
theorem Mine.forget_CmM : True := by
  w_top off
  trivial
open PySem PySem.W PyProof.Rows PySem.Calls PySem.Spec
set_option maxRecDepth 100000
namespace Mine
theorem ints_at {ys : List Int} : ∀ {vs : List Value} {i : Nat} {v : Value}, IntsAre vs ys → vs[i]? = some v → ∃ y t, ys[i]? = some y ∧ v = .int y t := by
  intro vs i v h
  induction h generalizing i with
  | nil => intro e; simp at e
  | cons y t r ih =>
    intro e
    cases i with
    | zero => simp at e; exact ⟨y, t, by simp, e.symm⟩
    | succ i => simp at e; obtain ⟨y', t', h1, h2⟩ := ih e; exact ⟨y', t', by simpa using h1, h2⟩
theorem ints_len : ∀ {vs : List Value} {ys : List Int}, IntsAre vs ys → vs.length = ys.length
  | _, _, .nil => rfl
  | _, _, .cons _ _ r => by rw [List.length_cons, List.length_cons, ints_len r]
theorem ints_snoc {y : Int} {t : Tok} : ∀ {vs : List Value} {ys : List Int}, IntsAre vs ys → IntsAre (vs ++ [.int y t]) (ys ++ [y])
  | _, _, .nil => .cons y t .nil
  | _, _, .cons z u r => .cons z u (ints_snoc r)
end Mine
end
section
theorem Mine.forget_MySl : True := by
  w_top off
  trivial
open PySem PySem.W PyProof.Rows PySem.Calls PySem.Spec
set_option maxRecDepth 100000
namespace Mine
section
variable {prog : Program} {w : World} {A : Around} {E : Value → Shared → Prop} {s : Shared} {h₀ : Heap} {L l : Addr} {m : Str → Option Value} {news : List (Addr × Obj)} {value slice : PySem.Expr} {vs : List Value} {ns : List Int} {x : Int} {tx : Tok} {Q : Value → Shared → Prop}
theorem slice_tmp (F : Fr h₀ L s.heap m) (N : News h₀ L s.heap news) (hl : s.heap.IsList l vs.toArray) (hi : IntsAre vs ns) (h0 : 0 ≤ x)
    (h : ∀ D ws h', Fr h₀ L h' m → News h₀ L h' ((D, listOf (List.toArray ws) 0) :: news) → (∀ p ∈ news, p.1 < D) → IntsAre ws (ns.drop x.toNat) → Q (.ref D) { s with heap := h' })
    (hs : subscripted slice false (.ref l) (.ref s.heap.objs.size) = operate [.ref s.heap.objs.size, .ref l] (getItem (.ref l) (.ref s.heap.objs.size))) (hz : vs.toArray.size ≤ sizeLine) :
    wpAny (model prog w) A (subscriptTail value slice (.ref l) (.ref s.heap.objs.size)) Q E { s with heap := s.heap.push { cls := .type "slice", data := .fields #[.int x tx, .none, .none] } } := by
  refine tail_any (Heap.IsList.typeIs (s := { s with heap := s.heap.push { cls := .type "slice", data := .fields #[.int x tx, .none, .none] } }) (hl.push _)) list_getitem_lookup
    (wpAny_getItem_list_slice (hl.push _) (Heap.IsSliceOf.new ..) (IsPart.int _ _) .none .none (by simp) ?_ hz) hs
  have N1 := News.push (F.push { cls := .type "slice", data := .fields #[.int x tx, .none, .none] }) (N.grown fun _ _ e => Heap.get?_push_of_some _ e) { cls := .type "list", data := .seq (slicePick vs.toArray (some x) none none) }
  rw [Heap.size_push] at N1
  show Q (.ref (s.heap.push _).objs.size) _
  rw [Heap.size_push]
  refine h _ (slicePick vs.toArray (some x) none none).toList _ ((F.push _).push _) ?_ (fun p hp => Nat.lt_succ_of_lt (Heap.lt_size (N p hp).1)) (kmk_from hi h0)
  rw [Array.toArray_toList]
  exact N1
theorem len_ints {ep : Nat} (N : News h₀ L s.heap news) (hm : (l, listOf vs.toArray ep) ∈ news) (hi : IntsAre vs ns) (hb : ns.length ≤ 1000)
    (h : ∀ t k, Q (.int ns.length t) { s with toks := k }) : wpAny (model prog w) A (call (.builtin "len") [.ref l]) Q E s := by
  have := len_list_made (prog := prog) (w := w) (A := A) (E := E) (Q := Q) (N.isList hm) (ke_carried hi) (by rw [List.length_map]; omega)
  rw [List.length_map] at this
  exact this (h _ _)
end
end Mine
end
section
theorem Mine.forget_MyC2 : True := by
  w_top off
  trivial
open PySem PySem.W PyProof.Rows PySem.Calls PySem.Spec
open PySem.Sem (wp)
set_option maxRecDepth 100000
set_option maxHeartbeats 1000000
namespace Mine
abbrev two (elt it1 it2 : Expr) (x y : Str) (px py : Pos) (ifs : List Expr) (scope : Scope) (pos : Pos) : Expr := .ListComp elt [⟨.Name x px, it1, [], 0⟩, ⟨.Name y py, it2, ifs, 0⟩] scope pos
section
variable {prog : Program} {w : World} {A : Around} {R : Result → Shared → Prop} {s : Shared} {elt it1 it2 : Expr} {x y : Str} {px py : Pos} {ifs : List Expr} {scope : Scope} {pos : Pos} {it acc : Value} {env : Env}
end
/-- a list of texts is read -/
theorem strs_reads {h : Heap} : ∀ {vs : List Value} {ys : List Str}, StrsAre vs ys → ∃ as, ReadsAll h vs (ys.map PyData.str) as
  | _, _, .nil => ⟨_, ReadsAll.nil⟩
  | _, _, .cons y t r => by
    obtain ⟨as, q⟩ := strs_reads r
    exact ⟨_, ReadsAll.cons (Reads.str y t) q⟩
theorem strs_lay : ∀ {ys : List Str}, (∀ y ∈ ys, PyData.strOk y = true) → PyData.canLayAll0 (ys.map PyData.str) = true ∧ PyData.depthAll (ys.map PyData.str) ≤ 1
  | [], _ => by simp [PyData.canLayAll0, PyData.depthAll]
  | y :: r, h => by
    have h1 := h y (.head _)
    have h2 := strs_lay (ys := r) fun z hz => h z (.tail _ hz)
    simp [PyData.canLayAll0, PyData.depthAll, PyData.canLay0, PyData.depth, h1, h2.1, h2.2]
theorem strs_shaped {ys : List Str} (h : ∀ y ∈ ys, PyData.strOk y = true) : SeqAt.shaped (.list (ys.map PyData.str)) = true := by
  have := strs_lay h
  simp [SeqAt.shaped, PyData.canLay0, PyData.depth, this.1]
  omega
section
variable {prog : Program} {w : World} {A : Around} {E : Value → Shared → Prop} {s : Shared} {h₀ : Heap} {L a b : Addr} {news : List (Addr × Obj)} {vs ws : List Value} {ys : List Str} {e1 e2 : Nat} {Q : Value → Shared → Prop}
theorem strs_same (N : News h₀ L s.heap news) (ha : (a, listOf vs.toArray e1) ∈ news) (hb : (b, listOf ws.toArray e2) ∈ news) (hi : StrsAre vs ys) (hj : StrsAre ws ys) (hk : ∀ y ∈ ys, PyData.strOk y = true) (hu : A.units + 64 < cLine) :
    (∀ Q : Value → Shared → Prop, Q (.bool false) s → wpAny (model prog w) A (compareOp .NotEq (.ref a) (.ref b)) Q E s) ∧ (∀ Q : Value → Shared → Prop, Q (.bool true) s → wpAny (model prog w) A (compareOp .Eq (.ref a) (.ref b)) Q E s) := by
  obtain ⟨as, r1⟩ := strs_reads (h := s.heap) hi
  obtain ⟨bs, r2⟩ := strs_reads (h := s.heap) hj
  have e : PyData.eqv (.list (ys.map PyData.str)) (.list (ys.map PyData.str)) = true := by
    rw [PyData.eqv]; exact PySem.SeqAt.eqvAll_refl _ (strs_lay hk).1
  refine ⟨fun Q h => ?_, fun Q h => ?_⟩
  · refine ne_dataH (reads_list_at (N.get ha) rfl rfl (by simpa using r1)) (reads_list_at (N.get hb) rfl rfl (by simpa using r2)) (strs_shaped hk) (strs_shaped hk) hu ?_
    rw [e]; exact h
  · refine eq_dataH (reads_list_at (N.get ha) rfl rfl (by simpa using r1)) (reads_list_at (N.get hb) rfl rfl (by simpa using r2)) (strs_shaped hk) (strs_shaped hk) hu ?_
    rw [e]; exact h
end
end Mine
end
section
theorem Mine.forget_MyC3 : True := by
  w_top off
  trivial
open PySem PySem.W PyProof.Rows PySem.Calls PySem.Spec
set_option maxRecDepth 100000
set_option maxHeartbeats 1000000
namespace Mine
section
variable {prog : Program} {w : World} {A : Around} {E : Value → Shared → Prop} {s : Shared} {h₀ : Heap} {L : Addr} {m : Str → Option Value} {env : Env} {elt it1 it2 : Expr} {x y : Str} {px py : Pos} {ifs : List Expr} {scope : Scope} {cl : List (Str × Addr)} {pos : Pos}
/-- an inner turn's end -/
def End2 {σ : Type} (h₀ : Heap) (L : Addr) (m : Str → Option Value) (s : Shared) (own : List (Addr × Obj)) (Led : σ → List (Addr × Obj)) (off : List Addr) (P : σ → Prop) (s₂ : Shared) : Prop :=
  ∃ c h' tk news', s₂ = { s with heap := h', toks := tk } ∧ Fr h₀ L h' m ∧ News h₀ L h' news' ∧ (∀ p ∈ own ++ Led c, p ∈ news') ∧ (∀ p ∈ Led c, p.1 ∉ off) ∧ P c
theorem fr_but2 {h h' : Heap} {I : Addr} (F : Fr h₀ L h m) (hk : ∀ b o, b ∉ [I] → h.get? b = some o → h'.get? b = some o) (hL : L ≠ I) (hI : h₀.get? I = none) : Fr h₀ L h' m :=
  ⟨F.ns.at' fun o e => hk L o (by simpa using hL) e, fun b o e => hk b o (fun hm => by rw [List.mem_singleton.mp hm, hI] at e; cases e) (F.keep b o e), F.above⟩
theorem news_but2 {h h' : Heap} {I : Addr} {news : List (Addr × Obj)} (N : News h₀ L h news) (hk : ∀ b o, b ∉ [I] → h.get? b = some o → h'.get? b = some o) (off : ∀ p ∈ news, p.1 ≠ I) : News h₀ L h' news :=
  fun p hp => ⟨hk _ _ (by simpa using off p hp) (N p hp).1, (N p hp).2⟩
end
end Mine
end
section
theorem Mine.forget_MyN : True := by
  w_top off
  trivial
open PySem PySem.W PyProof.Rows PySem.Calls PySem.Spec
set_option maxRecDepth 100000
set_option maxHeartbeats 1000000
namespace Mine
theorem ex_eq2 {α : Type} (a : α) : ∃ v, a = v := ⟨a, rfl⟩
theorem lst_mul1 {x : Str} {c : Nat} (e : x = ⟨#[c]⟩) (n : Int) : lst (Txt.mul x n) = List.replicate n.toNat c := by subst e; exact mul_one_list c n
section
variable {prog : Program} {w : World} {A : Around} {E : Value → Shared → Prop} {s : Shared} {a b V : Int} {t u : Tok} {Q : Value → Shared → Prop}
theorem fdivN (hb : 0 < b) (hb2 : b ≤ 1000) (hV : a / b = V) (h : ∀ t', Q (.int V t') { s with toks := s.toks + 1 }) :
    wpAny (model prog w) A (binaryOp .FloorDiv (.int a t) (.int b u)) Q E s := by
  subst hV
  refine floordiv_int (by (first | lia | omega)) ?_ (Or.inl (PyProof.noPylong_small (by (first | lia | omega))))
  rw [Int.fdiv_eq_ediv_of_nonneg _ (by (first | lia | omega))]; exact h _
theorem modN (hb : 0 < b) (hV : a % b = V) (h : ∀ t', Q (.int V t') { s with toks := s.toks + 1 }) (hb2 : b ≤ 1000) :
    wpAny (model prog w) A (binaryOp .Mod (.int a t) (.int b u)) Q E s := by
  subst hV
  refine mod_int' (by (first | lia | omega)) ?_
  rw [Int.fmod_eq_emod_of_nonneg _ (by (first | lia | omega))]; exact h _
theorem powN {c n : Int} (hc : 0 ≤ c) (hc2 : c ≤ 9) (hn : 0 ≤ n) (hn2 : n ≤ 9) (hV : c ^ n.toNat = V) (h : ∀ t', Q (.int V t') { s with toks := s.toks + 1 }) :
    wpAny (model prog w) A (binaryOp .Pow (.int c t) (.int n u)) Q E s := by
  subst hV
  exact pow_int_small hn (by (first | lia | omega)) (by (first | lia | omega)) (h _)
end
theorem strs_snoc {y : Str} {t : Tok} : ∀ {vs : List Value} {ys : List Str}, StrsAre vs ys → StrsAre (vs ++ [.str y t]) (ys ++ [y])
  | _, _, .nil => .cons y t .nil
  | _, _, .cons z u r => .cons z u (strs_snoc r)
theorem strs_snocE {x y : Str} {t : Tok} {vs : List Value} {ys : List Str} (e : x = y) (h : StrsAre vs ys) : StrsAre (vs ++ [.str x t]) (ys ++ [y]) := by subst e; exact strs_snoc h
theorem ints_snocE {x y : Int} {t : Tok} {vs : List Value} {ys : List Int} (e : x = y) (h : IntsAre vs ys) : IntsAre (vs ++ [.int x t]) (ys ++ [y]) := by subst e; exact ints_snoc h
theorem strs_at {ys : List Str} : ∀ {vs : List Value} {i : Nat} {v : Value}, StrsAre vs ys → vs[i]? = some v → ∃ y t, ys[i]? = some y ∧ v = .str y t := by
  intro vs i v h
  induction h generalizing i with
  | nil => intro e; simp at e
  | cons y t r ih =>
    intro e
    cases i with
    | zero => simp at e; exact ⟨y, t, by simp, e.symm⟩
    | succ i => simp at e; obtain ⟨y', t', h1, h2⟩ := ih e; exact ⟨y', t', by simpa using h1, h2⟩
theorem strs_to {vs : List Value} {ys zs : List Str} (e : ys = zs) (h : StrsAre vs ys) : StrsAre vs zs := e ▸ h
theorem ints_to {vs : List Value} {ys zs : List Int} (e : ys = zs) (h : IntsAre vs ys) : IntsAre vs zs := e ▸ h
theorem strs_values : ∀ {ys : List Value} {ss : List Str}, StrsAre ys ss → ∃ l : List (Str × Tok), ys = strValues l ∧ l.map (·.1) = ss
  | _, _, .nil => ⟨[], rfl, rfl⟩
  | _, _, .cons y t r => by
    obtain ⟨l, e1, e2⟩ := strs_values r
    exact ⟨(y, t) :: l, by rw [e1]; rfl, by rw [← e2]; rfl⟩
abbrev tupO (vs : List Value) : Obj := { cls := .type "tuple", data := .seq vs.toArray }
section
variable {prog : Program} {w : World} {A : Around} {E : Value → Shared → Prop} {s : Shared} {value slice : PySem.Expr} {Q : Value → Shared → Prop}
theorem item_ints {l : Addr} {vs : List Value} {ns : List Int} {k y : Int} {u : Tok} {n : Nat} (hl : s.heap.IsList l vs.toArray) (hi : IntsAre vs ns) (hk : k = (n : Int)) (hn : ns[n]? = some y) (hb : n ≤ 1000)
    (h : ∀ t, Q (.int y t) s) (hs : subscripted slice false (.ref l) (.int k u) = operate [.ref l, .int k u] (getItem (.ref l) (.int k u)) := by with_unfolding_all rfl) :
    wpAny (model prog w) A (subscriptTail value slice (.ref l) (.int k u)) Q E s := by
  have hlt : n < ns.length := (List.getElem?_eq_some_iff.mp hn).1
  rw [← ints_len hi] at hlt
  obtain ⟨y', t', e1, e2⟩ := ints_at hi (List.getElem?_eq_getElem hlt)
  rw [hn] at e1
  cases e1
  have hv : vs[n]? = some (.int y t') := by rw [List.getElem?_eq_getElem hlt, e2]
  subst hk
  exact tail_any hl.typeIs slot_list_getitem.lookup (wpAny_getItem_list hl (Int.natCast_nonneg _) (by (first | lia | omega)) (by simpa using hv) (h t')) hs
theorem item_sign {x : Str} {t u : Tok} {k : Int} {i c : Nat} (hk : k = (i : Int)) (hc : (lst x)[i]? = some c) (hx : x.length ≤ 1000) (h : ∀ t' k', Q (.str ⟨#[c]⟩ t') { s with toks := k' })
    (hs : subscripted slice false (.str x t) (.int k u) = operate [.str x t, .int k u] (getItem (.str x t) (.int k u)) := by with_unfolding_all rfl)
    (ht : ∀ r, letTemporaryGo value (.str x t) r = pure () := by intro _; with_unfolding_all rfl) :
    wpAny (model prog w) A (subscriptTail value slice (.str x t) (.int k u)) Q E s := by
  have hlt : i < x.length := by rw [len_lst]; exact (List.getElem?_eq_some_iff.mp hc).1
  subst hk
  refine KXi.item (n := x.length) rfl (by (first | lia | omega)) (by (first | lia | omega)) (by (first | lia | omega)) (fun _ => ?_) hs ht
  rw [item_at (Int.natCast_nonneg _) (by (first | lia | omega)), Int.toNat_natCast, hc]
  exact h _ _
theorem min3_N {h₀ : Heap} {L : Addr} {m : Str → Option Value} {news : List (Addr × Obj)} {a b c : Int} {t u x : Tok} (hh : A.handled = none) (F : Fr h₀ L s.heap m) (N : News h₀ L s.heap news)
    (h : ∀ k t' h' tk, k = min (min a b) c → Fr h₀ L h' m → News h₀ L h' news → Q (.int k t') { s with heap := h', toks := tk }) : wpAny (model prog w) A (call (.builtin "min") [.int a t, .int b u, .int c x]) Q E s := by
  refine min_three_ints hh fun h' tk hk => ?_
  have F' := F.keeps hk
  have N' : News h₀ L h' news := fun p hp => ⟨hk _ _ (N p hp).1, (N p hp).2⟩
  split <;> split <;> exact h _ _ h' tk (by (first | lia | omega)) F' N'
end
theorem pick_take (vs : List Value) (n : Nat) : (slicePick vs.toArray none (some (n : Int)) none).toList = vs.take n := by
  have e : sliceBounds none (some (n : Int)) none vs.toArray.size = (((0 : Nat) : Int), ((min n vs.toArray.size : Nat) : Int), 1) := by
    simp only [sliceBounds, Option.getD_none, show (1 : Int) > 0 by decide, if_true, if_neg (show ¬ ((n : Int) < 0) by (first | lia | omega))]
    congr 1
    congr 1
    (first | lia | omega)
  rw [kmk_pick_nat _ e]
  show (vs.drop 0).take (min n vs.toArray.size - 0) = _
  rw [List.drop_zero, Nat.sub_zero, List.size_toArray, kmk_take_min]
theorem pick_takeI {vs : List Value} {k : Int} {n : Nat} (h : k = n) : (slicePick vs.toArray none (some k) none).toList = vs.take n := by subst h; exact pick_take vs n
theorem ints_take {vs : List Value} {ys : List Int} (h : IntsAre vs ys) : ∀ n : Nat, IntsAre (vs.take n) (ys.take n) := by
  induction h with
  | nil => intro n; rw [List.take_nil, List.take_nil]; exact .nil
  | cons y t r ih =>
    intro n
    cases n with
    | zero => exact .nil
    | succ n => exact .cons y t (ih n)
theorem off1_mem {D : Addr} : ∀ {l : List (Addr × Obj)}, LCg.Off1 D l → ∀ p ∈ l, p.1 ≠ D
  | [], _, _, h => nomatch h
  | _ :: _, x, p, h => by
    rcases List.mem_cons.mp h with rfl | h
    · exact x.1
    · exact off1_mem x.2 p h
end Mine
end
section
theorem Mine.forget_MyCs : True := by
  w_top off
  trivial
open PySem PySem.W PyProof.Rows PySem.Calls PySem.Spec
set_option maxRecDepth 100000
set_option maxHeartbeats 1000000
namespace Mine
/-- a text as the source of a comprehension -/
def SrcS (prog : Program) (w : World) (A : Around) (h₀ : Heap) (L : Addr) (m : Str → Option Value) (env : Env) (elt : Expr) (x : Str) (scope : Scope) (cl : List (Str × Addr)) (Fin : Shared → List Value → List (Addr × Obj) → Prop) (xv : Value) (s₁ : Shared) : Prop :=
  ∃ (y : Str) (t : Tok) (news : List (Addr × Obj)), xv = .str y t ∧ A.handled = none ∧ Fr h₀ L s₁.heap m ∧ News h₀ L s₁.heap news ∧ y.cps.size ≤ sizeLine ∧ y.cps.all (· < 128) = true ∧
    ∀ g, LCg.CompRest prog w A h₀ L m env elt x scope cl { s₁ with heap := g } (fun _ => True) (SignAt y) (Fin { s₁ with heap := g }) y.cps.size 0 [] news
section
variable {prog : Program} {w : World} {A : Around} {E : Value → Shared → Prop} {s : Shared} {h₀ : Heap} {L : Addr} {m : Str → Option Value} {env : Env}
theorem assign_compS {elt iter : Expr} {x y : Str} {px py : Pos} {scope : Scope} {cl : List (Str × Addr)} {pos spos : Pos} {Q : Flow → Shared → Prop} (F₀ : Fr h₀ L s.heap m) (hLe : env.locals = L)
    (hsw : swapsWith (.ListComp elt [⟨.Name x px, iter, [], 0⟩] scope pos) (some (.Name y py)) spos.line env = pure true)
    (hclos : closureFor scope env = pure cl) (hcell : ∀ z ∈ scope.names, z.2 ≠ .cell) (hkind : scope.kind = .function)
    (hnames : ∀ z ∈ scope.names, z.2 = .local → scope.names.lookup z.1 = some .local) (hx : scope.names.lookup x = some .local)
    (hy : env.kindOf y = some .local) (hp : (env.scope.kind == .class || (env.scope.kind == .module && env.locals != env.globals)) = false)
    (h : wpAny (model prog w) A (eval iter env) (SrcS prog w A h₀ L m env elt x scope cl (fun s₂ => LCg.FinA h₀ L m s₂ y Q)) E s)
    (hs : ∀ x, foldedSetIterable iter env x = pure x := by intro _; rfl) :
    wpAny (model prog w) A (exec (.Assign [.Name y py] (.ListComp elt [⟨.Name x px, iter, [], 0⟩] scope pos) spos) env) Q E s := by
  subst hLe
  rw [exec_Assign_Name_used _ _ _ _ hsw]
  refine wpAny_bind (wpAny_standAt (wpAny_bind ?_))
  show wpAny _ A (do let _ ← comprehension (.ListComp elt [⟨.Name x px, iter, [], 0⟩] scope pos) scope env _ (newList []) false (eval iter env) (some (assign (.Name y py) env))) _ _ s
  refine wpAny_bind (wpAny_mono (wpAny_comprehension_free (use := some (assign (.Name y py) env)) (Q := fun _ s' => Q .next s') rfl hs hclos hkind hnames
    (wpAny_mono h (fun xv s₁ h₁ => ?_) fun _ _ e => e)) (fun _ s' hq => wpAny_pure (wpAny_pure hq)) fun _ _ e => e)
  obtain ⟨z, t, news, rfl, hh, F, N, hsz, ha, R⟩ := h₁
  refine wpAny_pyIter_ascii ha ?_
  refine LCg.block_U (Walks.strAscii hh s₁.heap.objs.size z t) hsz (fun i h st => by obtain ⟨o, e, _⟩ := st; exact ⟨o, e⟩)
    (fun i h h' o nw st e e' _ _ _ => by obtain ⟨o', q, r⟩ := st; rw [e] at q; cases q; exact ⟨o, e', r⟩) hcell hkind hx ⟨_, Heap.get?_push_size _ rfl, rfl, rfl⟩ (fun b hb => ?_)
    (F.keeps fun _ _ e => Heap.get?_push_of_some _ e) (N.grown fun _ _ e => Heap.get?_push_of_some _ e) (Nat.ne_of_lt F.ns.lt) (next_is_new F) (fun p hp => Nat.ne_of_lt (Heap.lt_size (N p hp).1)) trivial (R _) ?_
  · rw [List.mem_singleton.mp hb]
    show s₁.heap.objs.size < (s₁.heap.push _).objs.size
    rw [Heap.size_push]; exact Nat.lt_succ_self _
  · intro D C h' tk m' ys news' F' N' o1 hn hC₀ hD₀ hCL hDL hCD offC fin
    show wpAny _ A (assign (.Name y py) env (.ref D)) _ _ _
    refine wpAny_assign_Name (wpAny_storeName_local hy F'.ns (fun h₂ hn₂ hs₂ => ?_) hp)
    have hL₀ : h₀.get? env.locals = none := Heap.get?_none_of_le F'.above
    have F₂ : Fr h₀ env.locals h₂ (fun z => if z = y then some (.ref D) else m z) := ⟨hn₂, fun b o e => hs₂.extBut b o (fun q => by rw [q, hL₀] at e; cases e) (F'.keep b o e), F'.above⟩
    refine ⟨m', hn.sameBut hs₂ hCL, fun h'' hs'' => fin D h'' _ (F₂.change hs'' hCL hC₀) (fun p hp => ?_) o1⟩
    have z : h₂.get? p.1 = some p.2 := hs₂.extBut _ _ (N' p hp).2.1 (N' p hp).1
    refine ⟨hs''.extBut _ _ ?_ z, (N' p hp).2⟩
    rcases List.mem_cons.mp hp with rfl | hp
    · exact Ne.symm hCD
    · exact offC p hp
end
end Mine
end
section
theorem Mine.forget_MyCd : True := by
  w_top off
  trivial
open PySem PySem.W PyProof.Rows PySem.Calls PySem.Spec
set_option maxRecDepth 100000
namespace Mine
section
variable {prog : Program} {w : World} {A : Around} {E : Value → Shared → Prop} {Q : Flow → Shared → Prop} {s : Shared} {env : Env} {h₀ : Heap} {x : Str} {body : List Stmt}
/-- a loop over any iterator of one object, the ledger free -/
theorem loop_grow {σ : Type} {I : Addr} {n : Nat} {P : Nat → Value → Prop} {St : Nat → Heap → Prop} {m₀ : Str → Option Value} (Led : σ → List (Addr × Obj)) (ps : σ → List (Str × Value)) (P' : Nat → σ → Prop) (c₀ : σ)
    (W : Walks prog w A I [I] [I] n P St) (hIo : ∀ i h, St i h → ∃ o, h.get? I = some o) (hLI : env.locals ≠ I) (hI : h₀.get? I = none) (hst : St 0 s.heap) (F : Fr h₀ env.locals s.heap m₀) (N : News h₀ env.locals s.heap (Led c₀))
    (hoff : ∀ p ∈ Led c₀, p.1 ≠ I) (hk : ∀ p ∈ ps c₀, m₀ p.1 = some p.2) (hp : P' 0 c₀)
    (turn : ∀ (c : σ) (i : Nat) v (u : Str → Option Value) h tk it, i < n → P i v → (∀ p ∈ Led c, p.1 ≠ I) → P' i c →
      Fr h₀ env.locals h (kstB (kstB u (ps c)) [(x, v)]) → News h₀ env.locals h ((I, it) :: Led c) →
      wpAny (model prog w) A (execs body env) (EndG h₀ env.locals { s with heap := h, toks := tk } I it Led ps (P' (i + 1)) Q) E { s with heap := h, toks := tk })
    (done : ∀ (c : σ) (u : Str → Option Value) h tk, P' n c → Fr h₀ env.locals h (kstB u (ps c)) → News h₀ env.locals h (Led c) → Q .next { s with heap := h, toks := tk }) :
    LoopAtV prog w A h₀ env x body Q E (.ref I) s := by
  refine ⟨I, [I], [I], n, P, St, m₀, Led c₀, fun i m nw => ∃ c, nw = Led c ∧ (∀ p ∈ ps c, m p.1 = some p.2) ∧ P' i c, rfl, W, fun hm => hLI (List.mem_singleton.mp hm), fun b hb => by rw [List.mem_singleton.mp hb]; exact hI,
    fun p q hm => hoff p q (List.mem_singleton.mp hm), hst, F, N, ⟨c₀, rfl, hk, hp⟩, ?_, ?_⟩
  · rintro i v m₁ nw s₁ own ⟨hh', tk', rfl⟩ hin hP ⟨c, rfl, hk', hp'⟩ hno hown hget hall hst' F₁ N₁
    obtain ⟨it, hit⟩ := hIo _ _ hst'
    have hmem := hall I (List.mem_singleton.mpr rfl) hI it hit
    have em : kstB m₁ (ps c) = m₁ := funext fun y => kstB_eq hk' fun _ => rfl
    have N₂ : News h₀ env.locals hh' ((I, it) :: Led c) := fun p hp => by
      rcases List.mem_cons.mp hp with rfl | hp
      · exact N₁ _ (List.mem_append_left _ hmem)
      · exact N₁ _ (List.mem_append_right _ hp)
    have offc : ∀ p ∈ Led c, p.1 ≠ I := fun p hp e => hno p hp (List.mem_singleton.mpr e)
    have F₂ : Fr h₀ env.locals hh' (kstB (kstB m₁ (ps c)) [(x, v)]) := by rw [em]; exact F₁
    refine wpAny_mono (turn c i v m₁ hh' tk' it hin hP offc hp' F₂ N₂) (fun f s₂ p => ?_) fun _ _ e => e
    have fin : JoinA h₀ env.locals { s with heap := hh', toks := tk' } (fun c => (I, it) :: Led c) ps (fun c => (∀ p ∈ Led c, p.1 ≠ I) ∧ P' (i + 1) c) s₂ →
        LoopStepU h₀ env.locals [I] own (fun m nw => ∃ c, nw = Led c ∧ (∀ p ∈ ps c, m p.1 = some p.2) ∧ P' (i + 1) c) { s with heap := hh', toks := tk' } .next s₂ := by
      rintro ⟨c', h', tk, m', news', e, F', N', hn, hk2, ho, hp2⟩
      refine ⟨rfl, h', tk, m', Led c', e, F', fun p hp => ?_, fun p hp hm => ho p hp (List.mem_singleton.mp hm), c', rfl, hk2, hp2⟩
      rcases List.mem_append.mp hp with hp | hp
      · have h1 : p.1 = I := List.mem_singleton.mp (hown p hp)
        have h2 : hh'.get? p.1 = some p.2 := hget p hp
        have h3 : p = (I, it) := by
          rw [h1, hit] at h2
          exact Prod.ext h1 (Option.some.inj h2).symm
        rw [h3]; exact N' _ (hn _ (.head _))
      · exact N' _ (hn _ (.tail _ hp))
    cases f with
    | ret v => exact .ret p
    | brk => exact .brk p
    | next => exact .next (fin p)
    | cont => exact .cont (fin p)
  · rintro h' tk m' nw F' N' _ ⟨c, rfl, hk', hp'⟩
    exact done c m' h' tk hp' (fr_kst F' hk') N'
/-- a loop over a range that goes down -/
theorem range_down {σ : Type} {r : Addr} {a₀ b₀ : Int} {t₀ u₀ v₀ : Tok} {n : Nat} {m₀ : Str → Option Value} (Led : σ → List (Addr × Obj)) (ps : σ → List (Str × Value)) (P : Nat → σ → Prop) (c₀ : σ)
    (hh : A.handled = none) (hr : IsRange s.heap r a₀ b₀ (-1) t₀ u₀ v₀) (hsmall : Builtin.Range.small a₀ b₀ (-1) = true) (hn : Builtin.Range.rangeSize a₀ b₀ (-1) = (n : Int)) (F : Fr h₀ env.locals s.heap m₀) (N : News h₀ env.locals s.heap (Led c₀)) (hk : ∀ p ∈ ps c₀, m₀ p.1 = some p.2) (hp : P 0 c₀)
    (turn : ∀ (c : σ) (i : Nat) t (u : Str → Option Value) h tk I it, i < n → (∀ p ∈ Led c, p.1 ≠ I) → P i c →
      Fr h₀ env.locals h (kstB (kstB u (ps c)) [(x, .int (a₀ - i) t)]) → News h₀ env.locals h ((I, it) :: Led c) →
      wpAny (model prog w) A (execs body env) (EndG h₀ env.locals { s with heap := h, toks := tk } I it Led ps (P (i + 1)) Q) E { s with heap := h, toks := tk })
    (done : ∀ (c : σ) (u : Str → Option Value) h tk, P n c → Fr h₀ env.locals h (kstB u (ps c)) → News h₀ env.locals h (Led c) → Q .next { s with heap := h, toks := tk }) :
    wpAny (model prog w) A (pyIter (.ref r)) (fun it s₂ => LoopAtV prog w A h₀ env x body Q E it s₂) E s := by
  refine wpAny_pyIter_range hr hsmall ?_
  have W : Walks prog w A s.heap.objs.size [s.heap.objs.size] [s.heap.objs.size] n (fun i v => i < n ∧ ∃ t, v = .int (a₀ + i * (-1)) t)
      (fun i h => IsRangeIter h s.heap.objs.size (a₀ + (i : Nat) * (-1)) ((n : Int) - (i : Nat)) (-1)) := (Walks.range hh _ a₀ (-1) n).bound
  refine loop_grow Led ps P c₀ W (fun i h st => ⟨_, st⟩) (Nat.ne_of_lt F.ns.lt) (next_is_new F) (by show IsRangeIter _ _ _ _ _; rw [hn]; simpa using Heap.get?_push_size _ rfl) (F.push _)
    (fun p hp => ⟨Heap.get?_push_of_some _ (N p hp).1, (N p hp).2⟩) (fun p hp => Nat.ne_of_lt (Heap.lt_size (N p hp).1)) hk hp ?_ done
  rintro c i v u h tk it hi ⟨_, t, rfl⟩ off hp' F' N'
  have e : a₀ + (i : Int) * (-1) = a₀ - i := by (first | lia | omega)
  rw [e] at F'
  exact turn c i t u h tk _ it hi off hp' F' N'
end
end Mine
end
section
theorem Mine.forget_ApM : True := by
  w_top off
  trivial
open PySem PySem.W PyProof.Rows PySem.Calls PySem.Spec
set_option maxRecDepth 100000
namespace Mine
/-- the signs of a tail -/
def sgs : List Nat := [97, 65, 98, 32, 34, 92]
def chg (c d : Nat) : Nat := if c = d then 0 else if (c = 97 ∧ d = 65) ∨ (c = 65 ∧ d = 97) then 1 else 2
theorem cost_dot : ∀ d ∈ sgs, cost 46 d = 2 := by decide +kernel
theorem cost_chg : ∀ c ∈ sgs, ∀ d ∈ sgs, cost c d = chg c d := by decide +kernel
theorem dots_up (x : List Nat) : ∀ (d k : Nat) (y : List Nat), k ≤ d → k ≤ y.length → lev (List.replicate d 46 ++ x) y ≤ 2 * d + lev x (y.drop k)
  | 0, k, y, h, _ => by
    have : k = 0 := by (first | lia | omega)
    subst this; simp
  | d + 1, 0, y, _, _ => by
    have h := dots_up x d 0 y (Nat.zero_le _) (Nat.zero_le _)
    have h2 := lev_del 46 (List.replicate d 46 ++ x) y
    rw [List.replicate_succ, List.cons_append]
    (first | lia | omega)
  | d + 1, k + 1, [], _, h => by simp at h
  | d + 1, k + 1, e :: y, h1, h2 => by
    have h := dots_up x d k y (by (first | lia | omega)) (by simpa using h2)
    rw [List.replicate_succ, List.cons_append, lev_cc, List.drop_succ_cons]
    have := cost_le 46 e
    (first | lia | omega)
theorem dots_down (x : List Nat) : ∀ (d : Nat) (y : List Nat), (∀ e ∈ y, e ∈ sgs) → ∃ k, k ≤ d ∧ k ≤ y.length ∧ 2 * d + lev x (y.drop k) ≤ lev (List.replicate d 46 ++ x) y
  | 0, y, _ => ⟨0, Nat.le_refl _, Nat.zero_le _, by simp⟩
  | d + 1, [], _ => ⟨0, Nat.zero_le _, Nat.zero_le _, by rw [List.drop_nil, lev_nr, lev_nr]; simp; (first | lia | omega)⟩
  | d + 1, e :: y, h => by
    have hy : ∀ e ∈ y, e ∈ sgs := fun z hz => h z (.tail _ hz)
    have hc := cost_dot e (h e (.head _))
    obtain ⟨k1, a1, b1, c1⟩ := dots_down x d (e :: y) h
    obtain ⟨k2, a2, b2, c2⟩ := dots_down x (d + 1) y hy
    obtain ⟨k3, a3, b3, c3⟩ := dots_down x d y hy
    rw [List.replicate_succ, List.cons_append] at c2 ⊢
    rw [lev_cc, hc]
    generalize lev (List.replicate d 46 ++ x) (e :: y) = p1 at *
    generalize lev (46 :: (List.replicate d 46 ++ x)) y = p2 at *
    generalize lev (List.replicate d 46 ++ x) y = p3 at *
    by_cases h1 : p1 + 2 ≤ min (min p1 p2 + 2) (p3 + 2)
    · exact ⟨k1, by (first | lia | omega), b1, by (first | lia | omega)⟩
    by_cases h3 : p3 + 2 ≤ min (min p1 p2 + 2) (p3 + 2)
    · exact ⟨k3 + 1, by (first | lia | omega), by simpa using b3, by rw [List.drop_succ_cons]; (first | lia | omega)⟩
    refine ⟨k2, a2, by simp; (first | lia | omega), ?_⟩
    have h4 : lev x ((e :: y).drop k2) ≤ lev x (y.drop k2) + 2 := by
      cases k2 with
      | zero => exact lev_ins _ _ _
      | succ k2 =>
        have hk : k2 < y.length := b2
        rw [List.drop_succ_cons, List.drop_eq_getElem_cons hk]
        exact lev_ins _ _ _
    (first | lia | omega)
/-- what _law_apart gives back: the one has d dots more than the other -/
def ApIs (d : Nat) (x y : List Nat) (r : Nat) : Prop := (∃ k, k ≤ d ∧ k ≤ y.length ∧ r = 2 * d + lev x (y.drop k)) ∧ ∀ k, k ≤ d → k ≤ y.length → r ≤ 2 * d + lev x (y.drop k)
theorem apart_lev {m n r : Nat} {x y : List Nat} (h : n ≤ m) (hy : ∀ e ∈ y, e ∈ sgs) (hr : ApIs (m - n) x y r) : lev (List.replicate m 46 ++ x) (List.replicate n 46 ++ y) = r := by
  obtain ⟨d, rfl⟩ : ∃ d, m = n + d := ⟨m - n, by (first | lia | omega)⟩
  rw [Nat.add_sub_cancel_left] at hr
  rw [← List.replicate_append_replicate, List.append_assoc, lev_prefix']
  obtain ⟨⟨k, h1, h2, h3⟩, h4⟩ := hr
  obtain ⟨k', g1, g2, g3⟩ := dots_down x d y hy
  have := dots_up x d k y h1 h2
  have := h4 k' g1 g2
  (first | lia | omega)
end Mine
end
section
theorem Mine.forget_MyC9 : True := by
  w_top off
  trivial
open PySem PySem.W PyProof.Rows PySem.Calls PySem.Spec
set_option maxRecDepth 100000
set_option maxHeartbeats 1000000
namespace Mine
section
variable {prog : Program} {w : World} {A : Around} {E : Value → Shared → Prop} {s : Shared} {h₀ : Heap} {L : Addr} {m : Str → Option Value} {env : Env}
/-- a tuple of three laid into three names -/
theorem assign_three {a b c : Str} {pa pb pc tp : Pos} {kk : Nat} {T : Addr} {x y z : Value} {Q : Unit → Shared → Prop} (hh : A.handled = none) (ht : s.heap.IsTuple T #[x, y, z])
    (ha : env.kindOf a = some .local) (hb : env.kindOf b = some .local) (hc : env.kindOf c = some .local) (hp : (env.scope.kind == .class || (env.scope.kind == .module && env.locals != env.globals)) = false) (hn : s.heap.Ns env.locals m)
    (h : ∀ (h' : Heap) (tk : Nat), h'.Ns env.locals (fun q => if q = c then some z else if q = b then some y else if q = a then some x else m q) → (∀ d o, d ≠ env.locals → s.heap.get? d = some o → h'.get? d = some o) → Q () { s with heap := h', toks := tk }) :
    wpAny (model prog w) A (assign (.Tuple [.Name a pa, .Name b pb, .Name c pc] kk tp) env (.ref T)) Q E s := by
  refine wpAny_assign_Tuple hh ht rfl rfl fun h₁ he₁ => ?_
  have hn₁ : h₁.Ns env.locals m := hn.at' fun o e => he₁ _ o (Nat.ne_of_lt hn.lt) e
  show wpAny _ _ (assignInOrder [assign (.Name a pa) env, assign (.Name b pb) env, assign (.Name c pc) env] [x, y, z]) _ _ _
  refine assignInOrder_cons ?_
  refine wpAny_assign_Name (wpAny_storeName_local ha hn₁ (fun h₂ hn₂ hs₂ => ?_) hp)
  refine assignInOrder_cons ?_
  refine wpAny_assign_Name (wpAny_storeName_local hb hn₂ (fun h₃ hn₃ hs₃ => ?_) hp)
  refine assignInOrder_cons ?_
  refine wpAny_assign_Name (wpAny_storeName_local hc hn₃ (fun h₄ hn₄ hs₄ => ?_) hp)
  refine assignInOrder_nil ?_
  exact h h₄ _ hn₄ fun d o hd e => hs₄.extBut d o hd (hs₃.extBut d o hd (hs₂.extBut d o hd (he₁ d o (Nat.ne_of_lt (Heap.lt_size e)) e)))
abbrev three (elt iter : Expr) (a b c : Str) (pa pb pc tp : Pos) (kk : Nat) (scope : Scope) (pos : Pos) : Expr := .ListComp elt [⟨.Tuple [.Name a pa, .Name b pb, .Name c pc] kk tp, iter, [], 0⟩] scope pos
/-- a turn of a comprehension with three names -/
def Turn3 {σ : Type} (prog : Program) (w : World) (A : Around) (h₀ : Heap) (L : Addr) (m : Str → Option Value) (env : Env) (elt : Expr) (a b c : Str) (scope : Scope) (cl : List (Str × Addr)) (s : Shared) (its : Array Value) (Led : σ → List (Addr × Obj)) (P : Nat → σ → List Value → Prop) : Prop :=
  ∀ i d ys v, its[i]? = some v → P i d ys → ∃ T x y z e, v = .ref T ∧ (T, ({ cls := .type "tuple", data := .seq #[x, y, z] e } : Obj)) ∈ Led d ∧ ∀ I oI C oC D m₂ h tk (E' : Value → Shared → Prop), LCg.NsObj oC m₂ → m₂ a = some x → m₂ b = some y → m₂ c = some z → Fr h₀ L h m →
    News h₀ L h ((I, oI) :: (C, oC) :: (D, LCg.lst ys) :: Led d) → (∀ p ∈ Led d, p.1 ∉ [I, C, D]) →
    wpAny (model prog w) A (eval elt (compEnvC scope cl C env)) (fun q s₄ => End2 h₀ L m { s with heap := h, toks := tk } [(I, oI), (C, oC), (D, LCg.lst ys)] Led [I, C, D] (fun d' => P (i + 1) d' (ys ++ [q])) s₄) E' { s with heap := h, toks := tk }
theorem block_three {σ : Type} {elt iter : Expr} {a b c : Str} {pa pb pc tp : Pos} {kk : Nat} {scope : Scope} {cl : List (Str × Addr)} {pos : Pos} {I ax : Addr} {its : Array Value} {ep : Nat} {Led : σ → List (Addr × Obj)} {P : Nat → σ → List Value → Prop} {RR : Value → Addr → Result → Shared → Prop} {c₀ : σ}
    (hh : A.handled = none) (hne : ax ≠ I) (hcell : ∀ y ∈ scope.names, y.2 ≠ .cell) (hkind : scope.kind = .function) (hxa : scope.names.lookup a = some .local) (hxb : scope.names.lookup b = some .local) (hxc : scope.names.lookup c = some .local) (hab : a ≠ b) (hac : a ≠ c) (hbc : b ≠ c)
    (hst : s.heap.IsListIter I ax 0 ∧ s.heap.IsList ax its) (hfp : I < s.heap.objs.size) (F : Fr h₀ L s.heap m) (N : News h₀ L s.heap (Led c₀)) (hIL : L ≠ I) (hI₀ : h₀.get? I = none) (off : ∀ p ∈ Led c₀, p.1 ≠ I)
    (hax : ∀ i d ys, P i d ys → (ax, listOf its ep) ∈ Led d) (hsz : ∀ i d ys, P i d ys → ys.length ≤ sizeLine) (T : Turn3 prog w A h₀ L m env elt a b c scope cl s its Led P) (hp : P 0 c₀ [])
    (hRR : ∀ D C h tk m' ys d, Fr h₀ L h m → News h₀ L h ((D, LCg.lst ys) :: Led d) → (∀ p ∈ Led d, p.1 ≠ D) → h.Ns C m' → h₀.get? C = none → h₀.get? D = none → C ≠ L → D ≠ L → C ≠ D → (∀ p ∈ Led d, p.1 ≠ C) → P its.size d ys → RR (.ref D) C (.ok .next) { s with heap := h, toks := tk }) :
    wpAny (model prog w) A (newList []) (fun acc s₃ => wpAny (model prog w) A (newFunctionEnv scope env.globals cl [] env.qual none .none (some env)) (fun cenv s₄ =>
      codeAny (model prog w) A (.compStart (three elt iter a b c pa pb pc tp kk scope pos) 0 (.ref I) acc { cenv with scope := relabel scope env }) (RR acc cenv.locals) s₄) E s₃) E s := by
  refine wpAny_newObj_type (wpAny_newFunctionEnv hcell (by intro y hy; simp at hy) (fun h₁ hns₁ hsb₁ => ?_) hkind)
  dsimp only at hns₁ hsb₁ ⊢
  generalize hH2 : s.heap.push { cls := .type "list", dict := none, data := .seq ([] : List Value).toArray } = H2 at hns₁ hsb₁ ⊢
  have hC : H2.objs.size = s.heap.objs.size + 1 := by rw [← hH2, Heap.size_push]
  have hDC : s.heap.objs.size ≠ H2.objs.size := by rw [hC]; exact Nat.ne_of_lt (Nat.lt_succ_self _)
  have below : ∀ b, b < s.heap.objs.size → b ≠ H2.objs.size ∧ b ≠ s.heap.objs.size := fun b hb => ⟨by rw [hC]; exact Nat.ne_of_lt (Nat.lt_succ_of_lt hb), Nat.ne_of_lt hb⟩
  have old : ∀ b o, s.heap.get? b = some o → h₁.get? b = some o := fun b o e => hsb₁.extBut b o (below b (Heap.lt_size e)).1 (Heap.get?_push_of_some _ (hH2 ▸ Heap.get?_push_of_some _ e))
  have hacc : h₁.get? s.heap.objs.size = some (LCg.lst []) := hsb₁.extBut _ _ hDC (Heap.get?_push_of_some _ (hH2 ▸ Heap.get?_push_size _ rfl))
  have W := Walks.list (prog := prog) (w := w) hh I ax hne its
  have hst₁ : h₁.IsListIter I ax 0 ∧ h₁.IsList ax its := by
    obtain ⟨⟨o, e, r⟩, ⟨o2, e2, r2⟩⟩ := hst
    exact ⟨⟨o, old _ _ e, r⟩, ⟨o2, old _ _ e2, r2⟩⟩
  have fresh : ∀ q, s.heap.objs.size ≤ q → s.heap.get? q = none := fun q hq => by
    cases e : s.heap.get? q with
    | none => rfl
    | some o' => exact absurd (Heap.lt_size e) (Nat.not_lt.mpr hq)
  have fresh₀ : ∀ q, s.heap.objs.size ≤ q → h₀.get? q = none := fun q hq => by
    cases e : h₀.get? q with
    | none => rfl
    | some o' => have := F.keep q o' e; rw [fresh q hq] at this; cases this
  have hD₀ : h₀.get? s.heap.objs.size = none := fresh₀ _ (Nat.le_refl _)
  have hC₀ : h₀.get? H2.objs.size = none := fresh₀ _ (by rw [hC]; exact Nat.le_succ _)
  have hLlt : L < s.heap.objs.size := F.ns.lt
  have hDL : s.heap.objs.size ≠ L := Ne.symm (below L hLlt).2
  have hCL : H2.objs.size ≠ L := Ne.symm (below L hLlt).1
  have hIC : I ≠ H2.objs.size := (below I hfp).1
  have hID : I ≠ s.heap.objs.size := (below I hfp).2
  have off₀ : ∀ p ∈ Led c₀, p.1 ∉ [I, H2.objs.size, s.heap.objs.size] := fun p hp hm => by
    have hlt := Heap.lt_size (N p hp).1
    simp only [List.mem_cons, List.not_mem_nil, or_false] at hm
    rcases hm with e | e | e
    · exact off p hp e
    · exact (below _ hlt).1 e
    · exact (below _ hlt).2 e
  have loop : ∀ s₃ : Shared, s₃ = { s with heap := h₁, toks := s.toks + ([] : List (Str × Value)).length } →
      codeAny (model prog w) A (.compLoop (three elt iter a b c pa pb pc tp kk scope pos) 0 (.ref I) (.ref s.heap.objs.size) (compEnvC scope cl H2.objs.size env)) (RR (.ref s.heap.objs.size) H2.objs.size) s₃ := by
    rintro s₃ rfl
    refine kcp_loop (fun k s' => ∃ h' tk i ys m' d, s' = { s with heap := h', toks := tk } ∧ i ≤ its.size ∧ k = its.size + 1 - i ∧ (h'.IsListIter I ax i ∧ h'.IsList ax its) ∧ Fr h₀ L h' m ∧ h'.Ns H2.objs.size m' ∧ News h₀ L h' ((s.heap.objs.size, LCg.lst ys) :: Led d) ∧
      (∀ p ∈ Led d, p.1 ∉ [I, H2.objs.size, s.heap.objs.size]) ∧ P i d ys) ?_ (its.size + 1) ⟨h₁, _, 0, [], _, c₀, rfl, Nat.zero_le _, rfl, hst₁, F.keeps old, hns₁, fun p hp => ?_, off₀, hp⟩
    · rintro k s' ⟨h', tk, i, ys, m', d, rfl, hi, rfl, hst', F', hn', N', off', hp'⟩
      have offI : ∀ p ∈ (s.heap.objs.size, LCg.lst ys) :: Led d, p.1 ≠ I := fun p hp => by
        rcases List.mem_cons.mp hp with rfl | hp
        · exact Ne.symm hID
        · exact fun e => off' p hp (by rw [e]; exact .head _)
      by_cases hlt : i < its.size
      · refine W.item i _ _ _ hlt hst' fun v h₂ tk₂ hPv hst₂ hk₂ => ?_
        obtain ⟨Ta, x, y, z, e9, rfl, hmT, R⟩ := T i d ys v hPv hp'
        have N₂ := news_but2 N' hk₂ offI
        have F₂ := fr_but2 F' hk₂ hIL hI₀
        refine wpAny_letOwnedTupleGo_listiter hst₂.1 ?_
        refine assign_three hh ⟨_, (N₂ _ (.tail _ hmT)).1, rfl, _, rfl⟩ (lookup_relabel_local hxa) (lookup_relabel_local hxb) (lookup_relabel_local hxc) (by simp [compEnvC, relabel, hkind]) (hn'.at' fun o e => hk₂ _ o (by simpa using Ne.symm hIC) e) fun h₃ tk₃ hn₃ he₃ => ?_
        have hCe : (compEnvC scope cl H2.objs.size env).locals = H2.objs.size := rfl
        rw [hCe] at hn₃ he₃
        obtain ⟨oI, heI⟩ : ∃ o, h₂.get? I = some o := by obtain ⟨o, e, _⟩ := hst₂.1; exact ⟨o, e⟩
        have heI3 : h₃.get? I = some oI := he₃ _ _ hIC heI
        obtain ⟨oC, heC, hoC⟩ := LCg.ns_obj hn₃
        have F₃ : Fr h₀ L h₃ m := ⟨F₂.ns.at' fun o e => he₃ L o (Ne.symm hCL) e, fun b o e => he₃ b o (fun q => by rw [q, hC₀] at e; cases e) (F₂.keep b o e), F₂.above⟩
        have N₃ : News h₀ L h₃ ((I, oI) :: (H2.objs.size, oC) :: (s.heap.objs.size, LCg.lst ys) :: Led d) := fun p hp => by
          rcases List.mem_cons.mp hp with rfl | hp
          · exact ⟨heI3, Ne.symm hIL, hI₀⟩
          rcases List.mem_cons.mp hp with rfl | hp
          · exact ⟨heC, hCL, hC₀⟩
          have q := N₂ p hp
          refine ⟨he₃ _ _ ?_ q.1, q.2⟩
          rcases List.mem_cons.mp hp with rfl | hp
          · exact hDC
          · exact fun e => off' p hp (by rw [show p.1 = H2.objs.size from e]; simp)
        refine wpAny_mono (R I oI _ oC _ _ h₃ _ _ hoC (by rw [if_neg hac, if_neg hab, if_pos rfl]) (by rw [if_neg hbc, if_pos rfl]) (by rw [if_pos rfl]) F₃ N₃ off') (fun q s₅ hq => ?_) fun _ _ e => e
        obtain ⟨d', h₅, tk₅, news', rfl, F₅, N₅, sub, off₅, hp₅⟩ := hq
        have N₅' : News h₀ L h₅ ((I, oI) :: (H2.objs.size, oC) :: (s.heap.objs.size, LCg.lst ys) :: Led d') := fun p hp => N₅ p (sub p hp)
        refine append_at (hsz := by show ys.toArray.size ≤ sizeLine; rw [List.size_toArray]; exact hsz _ _ _ hp') (N₅' (s.heap.objs.size, LCg.lst ys) (.tail _ (.tail _ (.head _)))).1 fun h₆ hs₆ hD₆ => ?_
        refine ⟨its.size + 1 - (i + 1), by omega, h₆, tk₅, i + 1, ys ++ [q], _, d', rfl, hlt, rfl, ⟨?_, ?_⟩, F₅.change hs₆ hDL hD₀, hoC.ns (hs₆.extBut _ _ (Ne.symm hDC) (N₅' (H2.objs.size, oC) (.tail _ (.head _))).1), fun p hp => ?_, off₅, hp₅⟩
        · obtain ⟨o, e, r⟩ := hst₂.1
          rw [heI] at e; cases e
          exact ⟨oI, hs₆.extBut _ _ hID (N₅' _ (.head _)).1, r⟩
        · exact ⟨_, hs₆.extBut _ _ (fun e => off₅ _ (hax _ _ _ hp₅) (by rw [show ax = s.heap.objs.size from e]; simp)) (N₅' _ (.tail _ (.tail _ (.tail _ (hax _ _ _ hp₅))))).1, rfl, _, rfl⟩
        · rcases List.mem_cons.mp hp with rfl | hp
          · exact ⟨hD₆.trans (congrArg some (LCg.lst_snoc ys q)), hDL, hD₀⟩
          · have r := N₅' p (.tail _ (.tail _ (.tail _ hp)))
            exact ⟨hs₆.extBut _ _ (fun e => off₅ p hp (by rw [show p.1 = s.heap.objs.size from e]; simp)) r.1, r.2⟩
      · obtain rfl : i = its.size := Nat.le_antisymm hi (Nat.not_lt.mp hlt)
        refine W.done _ _ _ hst' fun h₂ tk₂ hk₂ => ?_
        exact hRR _ _ h₂ tk₂ _ ys d (fr_but2 F' hk₂ hIL hI₀) (news_but2 N' hk₂ offI) (fun p hp e => off' p hp (by rw [e]; simp)) (hn'.at' fun o e => hk₂ _ o (by simpa using Ne.symm hIC) e) hC₀ hD₀ hCL hDL (Ne.symm hDC) (fun p hp e => off' p hp (by rw [e]; simp)) hp'
    · rcases List.mem_cons.mp hp with rfl | hp
      · exact ⟨hacc, hDL, hD₀⟩
      · exact ⟨old _ _ (N p hp).1, (N p hp).2⟩
  exact codeAny_compStart_list (loop _ rfl) (W.self 0 _ _ _ hst₁ (loop _ rfl))
def Src3 (prog : Program) (w : World) (A : Around) (h₀ : Heap) (L : Addr) (m : Str → Option Value) (env : Env) (elt : Expr) (a b c : Str) (scope : Scope) (cl : List (Str × Addr)) (Fin : Shared → List Value → List (Addr × Obj) → Prop) (xv : Value) (s₁ : Shared) : Prop :=
  ∃ (σ : Type) (ax : Addr) (its : Array Value) (ep : Nat) (Led : σ → List (Addr × Obj)) (P : Nat → σ → List Value → Prop) (c₀ : σ), xv = .ref ax ∧ A.handled = none ∧ Fr h₀ L s₁.heap m ∧ News h₀ L s₁.heap (Led c₀) ∧ (∀ i d ys, P i d ys → (ax, listOf its ep) ∈ Led d) ∧ (∀ i d ys, P i d ys → ys.length ≤ sizeLine) ∧ P 0 c₀ [] ∧
    (∀ s₂, (∃ h, s₂ = { s₁ with heap := h }) → Turn3 prog w A h₀ L m env elt a b c scope cl s₂ its Led P) ∧ (∀ s₂ d ys, (∃ h, s₂ = { s₁ with heap := h }) → P its.size d ys → Fin s₂ ys (Led d))
theorem off1_of3 {D : Addr} : ∀ {l : List (Addr × Obj)}, (∀ p ∈ l, p.1 ≠ D) → LCg.Off1 D l
  | [], _ => trivial
  | _ :: _, h => ⟨h _ (.head _), off1_of3 fun p hp => h p (.tail _ hp)⟩
theorem list_comp3 {elt iter : Expr} {a b c : Str} {pa pb pc tp : Pos} {kk : Nat} {scope : Scope} {cl : List (Str × Addr)} {pos : Pos} {Q : Value → Shared → Prop} (_F₀ : Fr h₀ L s.heap m)
    (hclos : closureFor scope env = pure cl) (hcell : ∀ y ∈ scope.names, y.2 ≠ .cell) (hkind : scope.kind = .function)
    (hnames : ∀ y ∈ scope.names, y.2 = .local → scope.names.lookup y.1 = some .local) (hxa : scope.names.lookup a = some .local) (hxb : scope.names.lookup b = some .local) (hxc : scope.names.lookup c = some .local) (hab : a ≠ b) (hac : a ≠ c) (hbc : b ≠ c)
    (h : wpAny (model prog w) A (eval iter env) (Src3 prog w A h₀ L m env elt a b c scope cl (fun s₂ => LCg.FinE h₀ L m s₂ Q)) E s)
    (hs : ∀ x, foldedSetIterable iter env x = pure x := by intro _; rfl) :
    wpAny (model prog w) A (eval (three elt iter a b c pa pb pc tp kk scope pos) env) Q E s := by
  rw [eval_ListComp]
  refine wpAny_comprehension_free (use := none) rfl hs hclos hkind hnames (wpAny_mono h (fun xv s₁ h₁ => ?_) fun _ _ e => e)
  obtain ⟨σ, ax, its, ep, Led, P, c₀, rfl, hh, F, N, hax, hsz, hp, T, fin⟩ := h₁
  have hm := N (ax, _) (hax _ _ _ hp)
  have hl : s₁.heap.IsList ax its := ⟨_, hm.1, rfl, _, rfl⟩
  have hlt : ax < s₁.heap.objs.size := Heap.lt_size hm.1
  refine wpAny_pyIter_list hl ?_
  have up : ∀ b o, s₁.heap.get? b = some o → (s₁.heap.push { cls := .type "list_iterator", data := .fields #[.ref ax, .int 0 0] }).get? b = some o := fun b o e => Heap.get?_push_of_some _ e
  refine block_three (I := s₁.heap.objs.size) (ax := ax) (Led := Led) (P := P) (c₀ := c₀) hh (Nat.ne_of_lt hlt) hcell hkind hxa hxb hxc hab hac hbc ⟨⟨_, Heap.get?_push_size _ rfl, rfl, rfl⟩, hl.push _⟩
    (by show s₁.heap.objs.size < (s₁.heap.push _).objs.size; rw [Heap.size_push]; exact Nat.lt_succ_self _) (F.keeps up) (N.grown up) (Nat.ne_of_lt F.ns.lt) (next_is_new F) (fun p hp => Nat.ne_of_lt (Heap.lt_size (N p hp).1)) hax hsz (T _ ⟨_, rfl⟩) hp ?_
  intro D C h tk m' ys d F' N' o1 hn hC₀ hD₀ hCL hDL hCD offC hpn
  refine ⟨m', hn, fun h'' hs'' => fin { s₁ with heap := s₁.heap.push { cls := .type "list_iterator", data := .fields #[.ref ax, .int 0 0] } } d ys ⟨_, rfl⟩ hpn D h'' tk (F'.change hs'' hCL hC₀) (fun p hp => ?_) (off1_of3 o1)⟩
  refine ⟨hs''.extBut _ _ ?_ (N' p hp).1, (N' p hp).2⟩
  rcases List.mem_cons.mp hp with rfl | hp
  · exact Ne.symm hCD
  · exact offC p hp
end
end Mine
end
section
theorem Mine.forget_MyCp : True := by
  w_top off
  trivial
open PySem PySem.W PyProof.Rows PySem.Calls PySem.Spec
set_option maxRecDepth 100000
set_option maxHeartbeats 1000000
namespace Mine
/-- a turn's end: the ledger is what it was -/
def PEnd (h₀ : Heap) (L : Addr) (m : Str → Option Value) (s : Shared) (own : List (Addr × Obj)) (P : Value → Prop) (q : Value) (s₂ : Shared) : Prop :=
  ∃ h' tk' all, s₂ = { s with heap := h', toks := tk' } ∧ Fr h₀ L h' m ∧ News h₀ L h' all ∧ (∀ p ∈ own, p ∈ all) ∧ P q
theorem PEnd.made {h₀ h' : Heap} {L : Addr} {m : Str → Option Value} {s : Shared} {own all : List (Addr × Obj)} {P : Value → Prop} {q : Value} {tk : Nat} (F : Fr h₀ L h' m) (N : News h₀ L h' all) (sub : ∀ p ∈ own, p ∈ all) (p : P q) : PEnd h₀ L m s own P q { s with heap := h', toks := tk } := ⟨h', tk, all, rfl, F, N, sub, p⟩
section
variable {prog : Program} {w : World} {A : Around} {h₀ : Heap} {L : Addr} {m : Str → Option Value} {env : Env} {elt : Expr} {x x₂ : Str} {scope : Scope} {cl : List (Str × Addr)} {s₁ : Shared} {Fin : Shared → List Value → List (Addr × Obj) → Prop} {ax : Addr} {its : List Value} {k : Nat} {news : List (Addr × Obj)}
/-- a comprehension with two names over a list of pairs; the ledger stays -/
theorem src_pairs (P : Nat → List Value → Prop) (hp : P 0 []) (hh : A.handled = none) (F : Fr h₀ L s₁.heap m) (N : News h₀ L s₁.heap news) (hm : (ax, listOf its.toArray k) ∈ news) (hsz : its.length ≤ 100)
    (turn : ∀ i ys v, its[i]? = some v → P i ys → ∃ t v₁ v₂ e, v = .ref t ∧ (t, ({ cls := .type "tuple", data := .seq #[v₁, v₂] e } : Obj)) ∈ news ∧ ∀ I oI C oC D m₂ h tk (E' : Value → Shared → Prop), LCg.NsObj oC m₂ → m₂ x = some v₁ → m₂ x₂ = some v₂ → Fr h₀ L h m → News h₀ L h ((I, oI) :: (C, oC) :: (D, LCg.lst ys) :: news) →
      wpAny (model prog w) A (eval elt (compEnvC scope cl C env)) (PEnd h₀ L m { s₁ with heap := h, toks := tk } ((I, oI) :: (C, oC) :: (D, LCg.lst ys) :: news) (fun q => P (i + 1) (ys ++ [q]))) E' { s₁ with heap := h, toks := tk })
    (fin : ∀ g ys, P its.length ys → Fin { s₁ with heap := g } ys news) : LCp.SrcLP prog w A h₀ L m env elt x x₂ scope cl Fin (.ref ax) s₁ := by
  refine LCp.SrcLP.ledger hh F N hm (by rw [List.size_toArray, PySem.sizeLine_eq]; (first | lia | omega)) fun g => ?_
  have key : ∀ (k i : Nat) (ys : List Value), i + k = its.length → P i ys → LCp.CompRestP prog w A h₀ L m env elt x x₂ scope cl { s₁ with heap := g } (LCg.SrcAt h₀ ax its.toArray) (fun i v => its.toArray[i]? = some v) (Fin { s₁ with heap := g }) k i ys news := by
    intro k
    induction k with
    | zero =>
      intro i ys hi hp
      have : i = its.length := by (first | lia | omega)
      subst this
      exact LCp.CompRestP.zero (fin g ys hp)
    | succ k ih =>
      intro i ys hi hp
      refine LCp.CompRestP.succ fun v hv => ?_
      obtain ⟨t, v₁, v₂, e, rfl, hmt, R⟩ := turn i ys v (by simpa using hv) hp
      refine ⟨t, _, v₁, v₂, e, rfl, hmt, rfl, rfl, fun I oI C oC D m₂ h tk E' hC hx hy F' N' off ne => ?_⟩
      refine wpAny_mono (R I oI C oC D m₂ h tk E' hC hx hy F' N') (fun q s₂ hq => ?_) fun _ _ e => e
      obtain ⟨h', tk', all, rfl, F₂, N₂, sub, hp₂⟩ := hq
      exact ⟨h', tk', news, rfl, F₂, fun p hp => N₂ p (sub p hp), off, .inr ⟨_, hm, rfl, _, rfl⟩, ih (i + 1) _ (by (first | lia | omega)) hp₂⟩
  have := key its.length 0 [] (by (first | lia | omega)) hp
  simpa using this
end
end Mine
end
section
theorem Mine.forget_Ch1 : True := by
  w_top off
  trivial
open PySem PySem.W PyProof.Rows PySem.Calls PySem.Spec
set_option maxRecDepth 100000
set_option maxHeartbeats 4000000
namespace Mine
theorem chg_eq : ∀ c ∈ sgs, ∀ d ∈ sgs, ((⟨#[c]⟩ : Str) == ⟨#[d]⟩) = decide (c = d) := by decide +kernel
theorem chg_in : ∀ c ∈ sgs, ∀ d ∈ sgs, ([Str.ofString "aA", Str.ofString "Aa"].any fun x => x == (⟨#[c]⟩ : Str) ++ ⟨#[d]⟩) = decide ((c = 97 ∧ d = 65) ∨ (c = 65 ∧ d = 97)) := by decide +kernel
theorem change_ctr (w : World) (p : Program) (loose : List Str) (mean : ExcName → Option Value) (mg mb : Str → Option Value) (Xt : Heap → Prop) (news : List (Addr × Obj)) (c d : Nat) (t1 t2 : Tok) :
   Ctr (PySem.Challenge.rw_pe0114_01).row.prog w (hd.heap_39 w.params) p loose mean mg mb Xt 142 3 news (c ∈ sgs ∧ d ∈ sgs) [.str ⟨#[c]⟩ t1, .str ⟨#[d]⟩ t2]
     (fun v nw => (∃ t, v = .int (chg c d) t) ∧ nw = news) := by
  k_fill
  dsimp only [Ctr]
  intros
  rename_i hXt _ _ _ _ _ _ hpre _ _ hret
  obtain ⟨hc, hd⟩ := hpre
  k_dflt cell_enter
  have he := chg_eq c hc d hd
  have hi := chg_in c hc d hd
  k_steps
  · (rename (_ == _) = true => h1)
    rw [h1] at he
    exact hret _ _ _ _ ⟨ret_int (by unfold chg; rw [if_pos (of_decide_eq_true he.symm)]; rfl), rfl⟩ (by k_asm) (by k_asm)
  · (rename (_ == _) = false => h1); (rename List.any _ _ = true => h2); (rename News _ _ _ _ => nX)
    rw [h1] at he
    rw [h2] at hi
    exact hret _ _ _ _ ⟨ret_int (by unfold chg; rw [if_neg (of_decide_eq_false he.symm), if_pos (of_decide_eq_true hi.symm)]; rfl), rfl⟩ (by k_asm) (fun p hp => nX p (.tail _ hp))
  · (rename (_ == _) = false => h1); (rename List.any _ _ = false => h2); (rename News _ _ _ _ => nX)
    rw [h1] at he
    rw [h2] at hi
    exact hret _ _ _ _ ⟨ret_int (by unfold chg; rw [if_neg (of_decide_eq_false he.symm), if_neg (of_decide_eq_false hi.symm)]; rfl), rfl⟩ (by k_asm) (fun p hp => nX p (.tail _ hp))
end Mine
end
section
theorem Mine.forget_Wo1 : True := by
  w_top off
  trivial
open PySem PySem.W PyProof.Rows PySem.Calls PySem.Spec
set_option maxRecDepth 100000
set_option maxHeartbeats 4000000
namespace Mine
/-- a tail by its number -/
def tailL (z : Int) : List Nat := (List.range (1 + z / 6 % 3).toNat).map fun k => sgs.getD (z / 18 / 6 ^ k % 6).toNat 0
def tailS (z : Int) : Str := ⟨(tailL z).toArray⟩
theorem flat_ones (f : Nat → Nat) : ∀ l : List Nat, (l.map (lst ∘ fun k => (⟨#[f k]⟩ : Str))).flatten = l.map f
  | [] => rfl
  | k :: l => by rw [List.map_cons, List.flatten_cons, flat_ones f l]; rfl
theorem wp_joinE {prog : Program} {w : World} {A : Around} {E : Value → Shared → Prop} {s : Shared} {x : Str} {D : Addr} {l : List (Str × Tok)} {t : Tok} {e : Nat} {Q : Value → Shared → Prop} (hx : x = ⟨#[]⟩) (hD : s.heap.get? D = some { cls := .type "list", data := .seq (strValues l).toArray e }) (hl : (cat l).length ≤ sizeLine)
    (h : ∀ tv k', Q (.str ⟨(cat l).toArray⟩ tv) { s with toks := k' }) : wpAny (model prog w) A (call (.builtin "str.join") [.str x t, .ref D]) Q E s := by
  subst hx; exact wp_join hD hl h
theorem drop2 {a b c : Addr × Obj} {r : List (Addr × Obj)} : ∀ p ∈ a :: r, p ∈ a :: b :: c :: r := fun p hp => (List.mem_cons.mp hp).elim (fun e => e ▸ .head _) fun h => .tail _ (.tail _ (.tail _ h))
theorem pow6 {i : Nat} (h : i ≤ 2) : (0 : Int) < 6 ^ i ∧ (6 : Int) ^ i ≤ 1000 := by
  rcases (show i = 0 ∨ i = 1 ∨ i = 2 by (first | lia | omega)) with rfl | rfl | rfl <;> decide
theorem item_sg {q : Nat} (h : q ≤ 5) : Txt.item (Str.ofString "aAb \"\\") (q : Int) = ⟨#[sgs.getD ((q : Int)).toNat 0]⟩ := by
  rcases (show q = 0 ∨ q = 1 ∨ q = 2 ∨ q = 3 ∨ q = 4 ∨ q = 5 by (first | lia | omega)) with rfl | rfl | rfl | rfl | rfl | rfl <;> decide +kernel
local macro_rules | `(tactic| k_all) => `(tactic| first | assumption | exact allLt_ne0)
local macro_rules | `(tactic| walk_at "CompSrc") => `(tactic| (refine Held.out ?_))
local macro_rules | `(tactic| walk_at "CompEnd") => `(tactic| (refine Held.out ?_))
local macro_rules | `(tactic| walk_at "exec Assign cons ListComp") => `(tactic| (refine Held.out ?_))
local macro_rules | `(tactic| walk_at "binaryOp Mod int int") => `(tactic| (refine Held.out ?_))
local macro_rules | `(tactic| walk_at "binaryOp FloorDiv int int") => `(tactic| (refine Held.out ?_))
local macro_rules | `(tactic| walk_at "binaryOp Pow int int") => `(tactic| (refine Held.out ?_))
local macro_rules | `(tactic| walk_at "call builtin:str.join") => `(tactic| (refine Held.out ?_))
theorem word_ctr (w : World) (p : Program) (loose : List Str) (mean : ExcName → Option Value) (mg mb : Str → Option Value) (Xt : Heap → Prop) (news : List (Addr × Obj)) (z : Int) (tz : Tok) :
   Ctr (PySem.Challenge.rw_pe0114_01).row.prog w (hd.heap_39 w.params) p loose mean mg mb Xt 130 3 news (0 ≤ z ∧ z < 3888) [.int z tz]
     (fun v nw => ∃ D t2 t3 t4, v = Value.ref D ∧ (∀ q ∈ news, @LT.lt Nat _ q.1 D) ∧ nw = (D, tupO [.int (z % 3) t2, .int (z / 3 % 2) t3, .str (tailS z) t4]) :: news) := by
  k_fill
  dsimp only [Ctr]
  intros
  rename_i hXt _ _ _ _ _ _ hpre _ _ hret
  obtain ⟨hz0, hz1⟩ := hpre
  k_dflt (refine' code_defC ?k1 ?k2 ?k3 ?k4 ?k5 ?kA ?kF ?kK ?k6 ?k7 ?k8 ?k9 ?kB ?kD ?_ ?c2 ?c3 ?c4; (case kA => exact rfl); (case kF => exact rfl); (case kK => assumption); (case k1 => k_asm); (case k2 => k_asm); (case k3 => k_asm); (case k4 => k_asm); (case k5 => k_asm); (case k6 => k_is); (case k7 => k_is); (case k8 => ktr_room); (case k9 => exact BindsTo.of_eq rfl); (case kB => exact rfl); (case kD => decide +kernel); (case c2 => exact rfl); (case c3 => exact rfl); (case c4 => exact rfl); k_whole; intro g' L' h' tk' cells' FG' F' N' Y' B' X' T' l1; (try k_lt l1); k_cells Y'; (try simp only [List.cons_append, List.nil_append] at N'); (try dsimp only); (try k_lift B'); (try k_fold))
  (rename Obj => cO); (rename cO.data = _ => hcO)
  replace hcO : cO.data = .cell (some (.int z tz)) := hcO
  k_steps
  refine Held.put ?_
  k_dflt (refine LCg.Assign_ListComp_U (F₀ := by k_asm) (by rfl) (by with_unfolding_all rfl) (by with_unfolding_all rfl) (by decide) (by rfl) (by decide) (by rfl) (by rfl) (by rfl) ?_)
  k_steps
  refine Held.put ?_
  refine fdivN (V := z / 6) (by decide) (by decide) rfl ?_
  intro t1
  k_steps
  refine Held.put ?_
  refine modN (V := z / 6 % 3) (by decide) rfl ?_ (by decide)
  intro t2
  obtain ⟨n, hn, hn1⟩ : ∃ n : Nat, z / 6 % 3 = (n : Int) ∧ n ≤ 2 := ⟨(z / 6 % 3).toNat, by (first | lia | omega), by (first | lia | omega)⟩
  have hnn : (1 + z / 6 % 3).toNat = n + 1 := by (first | lia | omega)
  rw [hn]
  k_steps
  refine Held.put ?_
  (rename News _ _ _ _ => nX); (rename Fr _ _ _ _ => fX)
  refine LCg.CompSrc.range (n := n + 1) rfl fX nX (by assumption) (small_one (by (first | lia | omega)) (by (first | lia | omega)) (by (first | lia | omega)) (by (first | lia | omega))) (by rw [show (1 : Int) + (n : Int) = ((n + 1 : Nat) : Int) by (first | lia | omega)]; exact rangeSize_nat _ _) (by rw [PySem.sizeLine_eq]; (first | lia | omega)) fun g1 => ?_
  refine comp_all (σ := Unit) (fun _ => (L' + 1, cO) :: news) (fun i _ ys => StrsAre ys ((List.range i).map fun k => (⟨#[sgs.getD (z / 18 / 6 ^ k % 6).toNat 0]⟩ : Str))) () .nil ?turn1 ?fin1
  case turn1 =>
    clear nX fX
    intro i u0 ys v I oI C oC D m₂ h tk E' hi hP hv hC hx F' N' off ne
    obtain ⟨ti, rfl⟩ := hv
    obtain ⟨kk, hkk⟩ := ex_eq2 (0 + (i : Int))
    rw [hkk] at hx
    k_steps
    refine Held.put ?_
    refine fdivN (V := z / 18) (by decide) (by decide) rfl ?_
    intro t3
    k_steps
    refine Held.put ?_
    have hpw := pow6 (show i ≤ 2 by (first | lia | omega))
    refine powN (V := 6 ^ i) (by decide) (by decide) (by (first | lia | omega)) (by (first | lia | omega)) (by congr 1; (first | lia | omega)) ?_
    intro t4
    k_steps
    refine Held.put ?_
    refine fdivN (V := z / 18 / 6 ^ i) hpw.1 hpw.2 rfl ?_
    intro t5
    k_steps
    refine Held.put ?_
    obtain ⟨q, hq, hq5⟩ : ∃ q : Nat, z / 18 / 6 ^ i % 6 = (q : Int) ∧ q ≤ 5 := ⟨(z / 18 / 6 ^ i % 6).toNat, by (first | lia | omega), by (first | lia | omega)⟩
    refine modN (V := (q : Int)) (by decide) hq ?_ (by decide)
    intro t6
    k_steps
    refine Held.put ?_
    (rename News _ _ _ _ => nX); (rename Fr _ _ _ _ => fX)
    refine LCg.CompEnd.intro fX nX _ (fun p hp => hp) off trivial ⟨(), rfl, ?_⟩
    have hs1 : (List.range i).map (fun k => (⟨#[sgs.getD (z / 18 / 6 ^ k % 6).toNat 0]⟩ : Str)) ++ [⟨#[sgs.getD ((q : Int)).toNat 0]⟩] = (List.range (i + 1)).map (fun k => (⟨#[sgs.getD (z / 18 / 6 ^ k % 6).toNat 0]⟩ : Str)) := by rw [List.range_succ, List.map_append, List.map_singleton, hq]
    exact strs_to hs1 (strs_snocE (item_sg hq5) hP)
  case fin1 =>
  intro u0 ys hP Dr hr9 tkr9 Fr9 Nr9 or9
  have hPk : ∀ _ : Unit, StrsAre ys _ := fun _ => hP
  have orA := off1_mem or9
  clear nX fX hP or9
  k_steps
  refine Held.put ?_
  refine modN (V := z % 3) (by decide) rfl ?_ (by decide)
  intro t7
  k_steps
  refine Held.put ?_
  refine fdivN (V := z / 3) (by decide) (by decide) rfl ?_
  intro t8
  k_steps
  refine Held.put ?_
  refine modN (V := z / 3 % 2) (by decide) rfl ?_ (by decide)
  intro t9
  k_steps
  refine Held.put ?_
  obtain ⟨l, el, hl⟩ := strs_values (hPk ())
  subst el
  have hcat : cat l = tailL z := by
    have e : cat l = ((l.map (·.1)).map lst).flatten := by unfold cat; rw [List.map_map]; rfl
    rw [e, hl, List.map_map]
    unfold tailL
    rw [hnn]
    exact flat_ones _ _
  have hcl : (cat l).length ≤ 3 := by rw [hcat]; unfold tailL; rw [List.length_map, List.length_range, hnn]; (first | lia | omega)
  (rename News _ _ _ _ => nX)
  refine wp_joinE ofEmpty ((nX (_, LCg.lst (strValues l)) (by k_mem)).1) (by rw [PySem.sizeLine_eq]; (first | lia | omega)) ?_
  intro tv k'
  rw [hcat]
  k_steps
  (rename News _ _ _ _ => nX); (rename Fr _ _ _ _ => fX); (rename (@LT.lt Nat _ _ _) ∧ _ => l9)
  exact hret _ _ _ _ ⟨_, _, _, _, rfl, fun q hq => allLt_mem l9.2.2 hq, rfl⟩ fX (fun p hp => nX p (drop2 p hp))
end Mine
end
section
theorem Mine.forget_Ro1 : True := by
  w_top off
  trivial
open PySem PySem.W PyProof.Rows PySem.Calls PySem.Spec
set_option maxRecDepth 100000
set_option maxHeartbeats 4000000
namespace Mine
theorem lst_bs : lst (Str.ofString "\\") = [92] := by decide +kernel
theorem lst_em : lst (Str.ofString "") = [] := by decide +kernel
/-- a sign as it stands in a row -/
def esc1 (c : Nat) : List Nat := if c = 32 ∨ c = 34 ∨ c = 92 then [92, c] else [c]
theorem occ_sg : ∀ c ∈ sgs, (Builtin.Str.occurrences (Str.ofString " \"\\") ⟨#[c]⟩ 0 (Str.ofString " \"\\").length 1).isEmpty = !decide (c = 32 ∨ c = 34 ∨ c = 92) := by decide +kernel
theorem esc_yes {c : Nat} (h : (!decide (c = 32 ∨ c = 34 ∨ c = 92)) = false) : Str.ofString "\\" ++ (⟨#[c]⟩ : Str) = ⟨(esc1 c).toArray⟩ := by
  have h' : c = 32 ∨ c = 34 ∨ c = 92 := by
    cases hd : decide (c = 32 ∨ c = 34 ∨ c = 92) with
    | true => exact of_decide_eq_true hd
    | false => rw [hd] at h; cases h
  unfold esc1
  rw [if_pos h']
  refine str_ext ?_
  rw [lst_append, lst_bs, lst_mk]; rfl
theorem esc_no {c : Nat} (h : (!decide (c = 32 ∨ c = 34 ∨ c = 92)) = true) : (⟨#[c]⟩ : Str) = ⟨(esc1 c).toArray⟩ := by
  have h' : ¬ (c = 32 ∨ c = 34 ∨ c = 92) := by
    cases hd : decide (c = 32 ∨ c = 34 ∨ c = 92) with
    | true => rw [hd] at h; cases h
    | false => exact of_decide_eq_false hd
  unfold esc1
  rw [if_neg h']
theorem map_snoc {l k : List Nat} {c : Nat} (h : k = l ++ [c]) : l.map (fun c => (⟨(esc1 c).toArray⟩ : Str)) ++ [⟨(esc1 c).toArray⟩] = k.map fun c => (⟨(esc1 c).toArray⟩ : Str) := by
  subst h; rw [List.map_append]; rfl
theorem esc1_len : ∀ l : List Nat, (l.flatMap esc1).length ≤ 2 * l.length
  | [] => Nat.zero_le _
  | c :: l => by
    rw [List.flatMap_cons, List.length_append, List.length_cons]
    have := esc1_len l
    have : (esc1 c).length ≤ 2 := by unfold esc1; split <;> simp
    (first | lia | omega)
theorem row_close {d : Nat} {g : Bool} {A : Str} {tl : List Nat} (hA : lst A = if g then [92] else []) : A ++ Txt.mul (Str.ofString ".") (d : Int) ++ (⟨(tl.flatMap esc1).toArray⟩ : Str) = ⟨(bodyL g d tl).toArray⟩ := by
  refine str_ext ?_
  rw [lst_append, lst_append, lst_mul1 (c := 46) (by decide +kernel), hA, lst_mk, lst_mk]
  unfold bodyL
  rw [List.append_assoc]; rfl
theorem sgs_ascii {x : Str} (h : ∀ c ∈ lst x, c ∈ sgs) : x.cps.all (· < 128) = true := by
  rw [Array.all_eq_true']
  intro c hc
  have := h c (Array.mem_toList_iff.mpr hc)
  have k : ∀ c ∈ sgs, c < 128 := by decide
  exact decide_eq_true (k c this)
local macro_rules | `(tactic| k_all) => `(tactic| first | assumption | exact allLt_ne0)
local macro_rules | `(tactic| walk_at "CompEnd") => `(tactic| (refine Held.out ?_))
local macro_rules | `(tactic| walk_at "exec Assign cons ListComp") => `(tactic| (refine Held.out ?_))
local macro_rules | `(tactic| walk_at "call builtin:str.join") => `(tactic| (refine Held.out ?_))
theorem row_ctr (w : World) (p : Program) (loose : List Str) (mean : ExcName → Option Value) (mg mb : Str → Option Value) (Xt : Heap → Prop) (news : List (Addr × Obj)) (W : Addr) (d : Nat) (g : Int) (tl : Str) (t1 t2 t3 : Tok) :
   Ctr (PySem.Challenge.rw_pe0114_01).row.prog w (hd.heap_39 w.params) p loose mean mg mb Xt 135 3 news ((W, tupO [.int (d : Int) t1, .int g t2, .str tl t3]) ∈ news ∧ d ≤ 5 ∧ 0 ≤ g ∧ g ≤ 1 ∧ (lst tl).length ≤ 3 ∧ ∀ c ∈ lst tl, c ∈ sgs) [.ref W]
     (fun v nw => (∃ t, v = .str ⟨(bodyL (decide ((d : Int) ≠ 0 ∧ g ≠ 0)) d (lst tl)).toArray⟩ t) ∧ nw = news) := by
  k_fill
  dsimp only [Ctr]
  intros
  rename_i hXt _ _ _ _ _ _ hpre _ _ hret
  obtain ⟨hmW, hd5, hg0, hg1, htl, hsg⟩ := hpre
  k_dflt cell_enter
  k_steps
  refine Held.put ?_
  k_dflt (refine' assign_compS (F₀ := by k_asm) ?xL ?xs ?xc ?xd ?xk ?xn ?xx ?xz ?xp ?_; (case xL => rfl); (case xs => with_unfolding_all rfl); (case xc => with_unfolding_all rfl); (case xd => decide); (case xk => rfl); (case xn => decide); (case xx => rfl); (case xz => rfl); (case xp => rfl))
  k_steps
  (rename News _ _ _ _ => nX); (rename Fr _ _ _ _ => fX)
  refine ⟨tl, _, _, rfl, rfl, fX, nX, ?z1, ?z2, fun g1 => ?_⟩
  case z1 => show tl.length ≤ _; rw [len_lst, PySem.sizeLine_eq]; (first | lia | omega)
  case z2 => exact sgs_ascii hsg
  refine comp_all (σ := Unit) (fun _ => _) (fun i _ ys => StrsAre ys (((lst tl).take i).map fun c => (⟨(esc1 c).toArray⟩ : Str))) () .nil ?turn1 ?fin1
  case turn1 =>
    clear nX fX
    intro i u0 ys v I oI C oC D m₂ h tk E' hi hP hv hC hx F' N' off ne
    obtain ⟨c, u, hc, rfl⟩ := hv
    have hcm : c ∈ lst tl := by
      have := Array.mem_of_getElem? hc
      exact Array.mem_toList_iff.mpr this
    have hcs := hsg c hcm
    have hts : (lst tl).take (i + 1) = (lst tl).take i ++ [c] := by
      rw [List.take_add_one]
      have : (lst tl)[i]? = some c := by rw [← hc]; simp [lst]
      rw [this]; rfl
    k_steps
    · refine Held.put ?_
      (rename News _ _ _ _ => nX); (rename Fr _ _ _ _ => fX); (rename _ = true => he)
      rw [occ_sg c hcs] at he
      refine LCg.CompEnd.intro fX nX _ (fun p hp => hp) off trivial ⟨(), rfl, ?_⟩
      exact strs_to (map_snoc hts) (strs_snocE (esc_no he) hP)
    · refine Held.put ?_
      (rename News _ _ _ _ => nX); (rename Fr _ _ _ _ => fX); (rename _ = false => he)
      rw [occ_sg c hcs] at he
      refine LCg.CompEnd.intro fX nX _ (fun p hp => hp) off trivial ⟨(), rfl, ?_⟩
      exact strs_to (map_snoc hts) (strs_snocE (esc_yes he) hP)
  case fin1 =>
  intro u0 ys hP Dr hr9 tkr9 Fr9 Nr9 or9
  have hPk : ∀ _ : Unit, StrsAre ys _ := fun _ => hP
  clear nX fX hP or9
  k_steps
  all_goals
    refine Held.put ?_
    obtain ⟨l, el, hl⟩ := strs_values (hPk ())
    subst el
    have hcat : cat l = (lst tl).flatMap esc1 := by
      have e : cat l = ((l.map (·.1)).map lst).flatten := by unfold cat; rw [List.map_map]; rfl
      have et : (lst tl).take tl.cps.size = lst tl := List.take_of_length_le (Nat.le_of_eq (by simp [lst]))
      rw [e, hl, List.map_map, et]
      rfl
    have hcl : (cat l).length ≤ 6 := by rw [hcat]; exact Nat.le_trans (esc1_len _) (by (first | lia | omega))
    (rename News _ _ _ _ => nX)
    refine wp_joinE ofEmpty ((nX (_, LCg.lst (strValues l)) (by k_mem)).1) (by rw [PySem.sizeLine_eq]; (first | lia | omega)) ?_
    intro tv k'
    rw [hcat] at hcl ⊢
    have hTl : (⟨((lst tl).flatMap esc1).toArray⟩ : Str).length ≤ 6 := by rw [len_lst, lst_mk]; exact hcl
    k_steps
    (rename News _ _ _ _ => nX); (rename Fr _ _ _ _ => fX)
    refine hret _ _ _ _ ⟨ret_str ?_, rfl⟩ fX (fun p hp => nX p (.tail _ hp))
    first
      | exact row_close (by rw [lst_bs, if_pos (decide_eq_true (by constructor <;> assumption))])
      | exact row_close (by rw [lst_em, if_neg (fun h => by have := of_decide_eq_true h; (first | lia | omega))])
end Mine
end
section
theorem Mine.forget_Ap1 : True := by
  w_top off
  trivial
open PySem PySem.W PyProof.Rows PySem.Calls PySem.Spec
set_option maxRecDepth 100000
set_option maxHeartbeats 4000000
namespace Mine
/-- where it stands in the context items are held -/
structure HoldSub : Prop where
theorem outSub {P : Prop} (h : Held P) (_m : HoldSub := by assumption) : P := Held.out h
theorem outAsT {prog : Program} {w : World} {A : Around} {E : Value → Shared → Prop} {s : Shared} {env : Env} {a : List Expr} {b} {c p q : Pos} {f : Expr} {x : List Expr} {y} {Q : Flow → Shared → Prop} (h : Held (wpAny (model prog w) A (exec (Stmt.Assign [Expr.Tuple a b c] (Expr.Call f x y p) q) env) Q E s)) (_m : True := by ((fail_if_success (rename HoldOff => hx)); trivial)) :
    wpAny (model prog w) A (exec (Stmt.Assign [Expr.Tuple a b c] (Expr.Call f x y p) q) env) Q E s := h
local macro_rules | `(tactic| k_all) => `(tactic| first | assumption | exact allLt_ne0)
local macro_rules | `(tactic| walk_at "exec Assign") => `(tactic| (refine outAsT ?_))
local macro_rules | `(tactic| walk_at "CompSrc") => `(tactic| (refine Held.out ?_))
local macro_rules | `(tactic| walk_at "CompEnd") => `(tactic| (refine Held.out ?_))
local macro_rules | `(tactic| walk_at "pyIter ref") => `(tactic| (refine Held.out ?_))
local macro_rules | `(tactic| walk_at "call builtin:list.insert") => `(tactic| (refine Held.out ?_))
local macro_rules | `(tactic| walk_at "subscriptTail Name Name ref int") => `(tactic| (refine outSub ?_))
local macro_rules | `(tactic| walk_at "subscriptTail Name BinOp ref int") => `(tactic| (refine outSub ?_))
local macro_rules | `(tactic| walk_at "subscriptTail Name Constant ref int") => `(tactic| (refine outSub ?_))
local macro_rules | `(tactic| walk_at "subscriptTail Name Name str int") => `(tactic| (refine outSub ?_))
local macro_rules | `(tactic| walk_at "subscriptTail Name Slice ref ref") => `(tactic| (refine Held.out ?_))
local macro_rules | `(tactic| walk_at "call ref") => `(tactic| (refine Held.out ?_))
local macro_rules | `(tactic| walk_at "call builtin:min") => `(tactic| (refine Held.out ?_))
local macro_rules | `(tactic| walk_at "JoinA") => `(tactic| (refine Held.out ?_))
local macro_rules | `(tactic| walk_at "exec Assign cons ListComp") => `(tactic| (refine Held.out ?_))
local macro_rules | `(tactic| walk_at "eval ListComp") => `(tactic| (refine Held.out ?_))
/-- a word as _law_apart takes it -/
abbrev wdO (d : Nat) (t : Str) (t1 t2 : Tok) : Obj := tupO [.int (d : Int) t1, .str t t2]
theorem ap_skip {a b : Addr × Obj} {r : List (Addr × Obj)} : ∀ p ∈ a :: r, p ∈ a :: b :: r := mem_blk [[a], [b], r] [0, 2] [0, 1, 2] (by decide)
theorem ap_ends {a b c : Addr × Obj} {r : List (Addr × Obj)} : ∀ p ∈ b :: a :: r, p ∈ a :: b :: c :: r := mem_blk [[a], [b], [c], r] [1, 0, 3] [0, 1, 2, 3] (by decide)
theorem ap_in1 {a b c : Addr × Obj} {r : List (Addr × Obj)} : ∀ p ∈ a :: b :: c :: r, p ∈ c :: a :: b :: r := mem_blk [[a, b], [c], r] [0, 1, 2] [1, 0, 2] (by decide)
theorem ap_in2 {a b c : Addr × Obj} {r : List (Addr × Obj)} : ∀ p ∈ b :: a :: c :: r, p ∈ c :: a :: b :: r := mem_blk [[a], [b], [c], r] [1, 0, 2, 3] [2, 0, 1, 3] (by decide)
theorem ap_out1 {a b : Addr × Obj} {r : List (Addr × Obj)} : ∀ p ∈ a :: b :: r, p ∈ a :: b :: r := fun _ h => h
theorem ap_out2 {a b : Addr × Obj} {r : List (Addr × Obj)} : ∀ p ∈ a :: b :: r, p ∈ b :: a :: r := mem_blk [[a], [b], r] [0, 1, 2] [1, 0, 2] (by decide)
/-- a row of the table -/
def rowA (x y : List Nat) (i : Nat) : List Int := (List.range (y.length + 1)).map fun j => (lev (x.drop i) (y.drop j) : Int)
theorem row_first {x y : List Nat} {ly lx : Nat} (hy : y.length = ly) (hx : x.length = lx) : (List.range (ly + 1)).map (fun j => (2 * ((ly : Int) - (j : Nat)) : Int)) = rowA x y (lx - 0) := by
  unfold rowA
  rw [hy]
  apply List.map_congr_left
  intro j hj
  have := List.mem_range.mp hj
  rw [Nat.sub_zero, List.drop_of_length_le (by (first | lia | omega)), lev_nl, List.length_drop, hy]
  (first | lia | omega)
/-- a row of the table that is half filled -/
def leftA (x y : List Nat) (i u : Nat) : List Int := (List.range (u + 1)).map fun k => (lev (x.drop i) (y.drop (y.length - u + k)) : Int)
theorem left_first {x y : List Nat} {lx i : Nat} (hx : x.length = lx) (hi : i ≤ lx) : [(2 * ((lx : Int) - i))] = leftA x y i 0 := by
  have e : y.drop (y.length - 0 + 0) = [] := List.drop_of_length_le (by (first | lia | omega))
  show _ = [(lev (x.drop i) (y.drop (y.length - 0 + 0)) : Int)]
  rw [e, lev_nr, List.length_drop, hx]
  congr 1
  (first | lia | omega)
theorem sign_at {x : Str} {i : Nat} (h : ∀ c ∈ lst x, c ∈ sgs) (hi : i < (lst x).length) : ∃ c, (lst x)[i]? = some c ∧ c ∈ sgs :=
  ⟨_, List.getElem?_eq_getElem hi, h _ (List.getElem_mem hi)⟩
theorem row_at {x y : List Nat} {i j v : Nat} (hj : j < y.length) (hv : y.length - v = j + 1) : (rowA x y (i + 1))[j]? = some (lev (x.drop (i + 1)) (y.drop j) : Int) ∧ (leftA x y i v)[0]? = some (lev (x.drop i) (y.drop (j + 1)) : Int) ∧ (rowA x y (i + 1))[j + 1]? = some (lev (x.drop (i + 1)) (y.drop (j + 1)) : Int) := by
  refine ⟨?_, ?_, ?_⟩
  · unfold rowA; rw [List.getElem?_map, List.getElem?_range (by (first | lia | omega))]; rfl
  · unfold leftA; rw [List.getElem?_map, List.getElem?_range (by (first | lia | omega)), hv]; rfl
  · unfold rowA; rw [List.getElem?_map, List.getElem?_range (by (first | lia | omega))]; rfl
theorem left_next {x y : List Nat} {i j v c d : Nat} {m : Int} (hj : j < y.length) (hv : y.length - v = j + 1) (hi : x[i]? = some c) (hd : y[j]? = some d) (hc : c ∈ sgs) (hds : d ∈ sgs)
    (hm : m = min (min ((lev (x.drop (i + 1)) (y.drop j) : Int) + 2) ((lev (x.drop i) (y.drop (j + 1)) : Int) + 2)) ((lev (x.drop (i + 1)) (y.drop (j + 1)) : Int) + chg c d)) : m :: leftA x y i v = leftA x y i (v + 1) := by
  obtain ⟨hil, hie⟩ := List.getElem?_eq_some_iff.mp hi
  obtain ⟨hjl, hje⟩ := List.getElem?_eq_some_iff.mp hd
  unfold leftA
  rw [List.range_succ_eq_map (n := v + 1), List.map_cons, List.map_map]
  have e0 : y.length - (v + 1) + 0 = j := by (first | lia | omega)
  congr 1
  · rw [hm, e0, List.drop_eq_getElem_cons hil, List.drop_eq_getElem_cons hjl, lev_cc, hie, hje]
    exact cast_three2 _ _ _ _ _ (by rw [cost_chg c hc d hds])
  · apply List.map_congr_left
    intro k _
    show _ = (lev (x.drop i) (y.drop (y.length - (v + 1) + (k + 1))) : Int)
    congr 2
    congr 1
    (first | lia | omega)
theorem left_last (x y : List Nat) (i : Nat) : leftA x y i y.length = rowA x y i := by
  unfold leftA rowA
  apply List.map_congr_left
  intro k _
  rw [Nat.sub_self, Nat.zero_add]
theorem ins_head {y : Value} {l : List Value} : kl_ins l.toArray.toList 0 y = y :: l := by simp [kl_ins]
theorem row_take (x y : List Nat) (mo : Nat) : (rowA x y 0).take (mo + 1) = (List.range (min (mo + 1) (y.length + 1))).map fun j => (lev x (y.drop j) : Int) := by
  unfold rowA
  rw [← List.map_take, List.take_range]; rfl
theorem row_min {x y : List Nat} {mo : Nat} {M : Int} (h1 : M ∈ (rowA x y 0).take (mo + 1)) (h2 : ∀ a ∈ (rowA x y 0).take (mo + 1), M ≤ a) : ∃ r : Nat, (r : Int) = 2 * mo + M ∧ ApIs mo x y r := by
  rw [row_take] at h1 h2
  obtain ⟨k, hk, rfl⟩ := List.mem_map.mp h1
  have hk := List.mem_range.mp hk
  refine ⟨2 * mo + lev x (y.drop k), by (first | lia | omega), ⟨k, by (first | lia | omega), by (first | lia | omega), rfl⟩, fun k' g1 g2 => ?_⟩
  have := h2 _ (List.mem_map_of_mem (a := k') (List.mem_range.mpr (by (first | lia | omega))))
  (first | lia | omega)
theorem row_bd {x y : List Nat} {mo : Nat} {M : Int} (h1 : M ∈ (rowA x y 0).take (mo + 1)) (hx : x.length ≤ 3) (hy : y.length ≤ 3) : 0 ≤ M ∧ M ≤ 100 := by
  rw [row_take] at h1
  obtain ⟨k, hk, rfl⟩ := List.mem_map.mp h1
  have h := lev_le ((Ed.nr x).app (Ed.nl (y.drop k)))
  rw [List.append_nil, List.nil_append, List.length_drop] at h
  (first | lia | omega)
theorem chg_le (c d : Nat) : chg c d ≤ 2 := by unfold chg; split <;> (try split) <;> decide
theorem lev_small (x y : List Nat) (i j : Nat) (hx : x.length ≤ 3) (hy : y.length ≤ 3) : lev (x.drop i) (y.drop j) ≤ 100 := by
  have h := lev_le ((Ed.nr (x.drop i)).app (Ed.nl (y.drop j)))
  rw [List.append_nil, List.nil_append, List.length_drop, List.length_drop] at h
  (first | lia | omega)
theorem dn_range {n : Nat} (h : n ≤ 3) : Builtin.Range.small ((n : Int) - 1) (-1) (-1) = true ∧ Builtin.Range.rangeSize ((n : Int) - 1) (-1) (-1) = (n : Int) := by
  rcases (show n = 0 ∨ n = 1 ∨ n = 2 ∨ n = 3 by (first | lia | omega)) with rfl | rfl | rfl | rfl <;> decide
theorem apart_ctr (w : World) (p : Program) (loose : List Str) (mean : ExcName → Option Value) (mg mb : Str → Option Value) (Xt : Heap → Prop) (news : List (Addr × Obj)) (W1 W2 : Addr) (d1 d2 : Nat) (x1 x2 : Str) (t1 t2 t3 t4 : Tok) :
   Ctr (PySem.Challenge.rw_pe0114_01).row.prog w (hd.heap_39 w.params) p loose mean mg mb Xt 147 6 ((W1, wdO d1 x1 t1 t2) :: (W2, wdO d2 x2 t3 t4) :: news) (d1 ≤ 8 ∧ d2 ≤ 8 ∧ (lst x1).length ≤ 3 ∧ (lst x2).length ≤ 3 ∧ (∀ c ∈ lst x1, c ∈ sgs) ∧ ∀ c ∈ lst x2, c ∈ sgs) [.ref W1, .ref W2]
     (fun v nw => (∃ t, v = .int (lev (List.replicate d1 46 ++ lst x1) (List.replicate d2 46 ++ lst x2)) t) ∧ nw = (W1, wdO d1 x1 t1 t2) :: (W2, wdO d2 x2 t3 t4) :: news) := by
  k_fill
  dsimp only [Ctr]
  intros
  rename_i hXt _ _ _ _ _ _ hpre _ _ hret
  obtain ⟨hd1, hd2, hl1, hl2, hs1, hs2⟩ := hpre
  k_dflt (refine' code_defC ?k1 ?k2 ?k3 ?k4 ?k5 ?kA ?kF ?kK ?k6 ?k7 ?k8 ?k9 ?kB ?kD ?_ ?c2 ?c3 ?c4; (case kA => exact rfl); (case kF => exact rfl); (case kK => assumption); (case k1 => k_asm); (case k2 => k_asm); (case k3 => k_asm); (case k4 => k_asm); (case k5 => k_asm); (case k6 => k_is); (case k7 => k_is); (case k8 => ktr_room); (case k9 => exact BindsTo.of_eq rfl); (case kB => exact rfl); (case kD => decide +kernel); (case c2 => exact rfl); (case c3 => exact rfl); (case c4 => exact rfl); k_whole; intro g' L' h' tk' cells' FG' F' N' Y' B' X' T' l1; (try k_lt l1); k_cells Y'; (try simp only [List.cons_append, List.nil_append] at N'); (try dsimp only); (try k_lift B'); (try k_fold))
  (rename Obj => cO); (rename cO.data = _ => hcO)
  k_steps
  refine Held.put ?_
  (rename News _ _ _ _ => nX); (rename Fr _ _ _ _ => fX)
  refine cut_all (σ := Addr × Addr) fX (fun _ => (L' + 1, cO) :: (W1, wdO d1 x1 t1 t2) :: (W2, wdO d2 x2 t3 t4) :: news) (fun c => [(Str.ofString "less", .ref c.1), (Str.ofString "most", .ref c.2)]) (fun c => (c.1 = W1 ∧ c.2 = W2 ∧ d1 ≤ d2) ∨ (c.1 = W2 ∧ c.2 = W1 ∧ d2 ≤ d1)) ?_ ?_
  · --{
    have ho : HoldOff := ⟨⟩
    k_steps
    with_unfolding_all refine' kat_sorted ?k1 ?k2 ?k3 ?k4 ?k5 ?_
    case k1 => k_asm
    case k2 => k_asm
    case k3 => kso_list
    case k4 => exact Nat.le_of_ble_eq_true rfl
    case k5 => exact Nat.le_of_ble_eq_true rfl
    intro D' e' h' F' N' l1
    (try k_lt l1)
    kat_kinds
    k_steps
    all_goals
      refine Held.put ?_
      first
        | exact joinA_end (W1, W2) (by assumption) (by assumption) (by kst_in) (by kst_all) (.inl ⟨rfl, rfl, by (first | lia | omega)⟩)
        | exact joinA_end (W2, W1) (by assumption) (by assumption) (by kst_in) (by kst_all) (.inr ⟨rfl, rfl, by (first | lia | omega)⟩)
    --}
  clear nX fX
  (rename Fr _ _ _ _ => oF; clear oF); (rename News _ _ _ _ => oN; clear oN)
  intro c u h tk hc F' N'
  obtain ⟨WL, WM⟩ := c
  dsimp only [kstB] at F' hc
  obtain ⟨dl, xl, tl1, tl2, dm, xm, tm1, tm2, N2, hback, hle, hdm, hll, hlm, hsl, hsm, hlev, hq1, hq2⟩ : ∃ (dl : Nat) (xl : Str) (tl1 tl2 : Tok) (dm : Nat) (xm : Str) (tm1 tm2 : Tok), News g' L' h ((WL, wdO dl xl tl1 tl2) :: (WM, wdO dm xm tm1 tm2) :: (L' + 1, cO) :: news) ∧
      (∀ p ∈ (W1, wdO d1 x1 t1 t2) :: (W2, wdO d2 x2 t3 t4) :: news, p ∈ (WL, wdO dl xl tl1 tl2) :: (WM, wdO dm xm tm1 tm2) :: news) ∧ dl ≤ dm ∧ dm ≤ 8 ∧ (lst xl).length ≤ 3 ∧ (lst xm).length ≤ 3 ∧ (∀ c ∈ lst xl, c ∈ sgs) ∧ (∀ c ∈ lst xm, c ∈ sgs) ∧
      lev (List.replicate d1 46 ++ lst x1) (List.replicate d2 46 ++ lst x2) = lev (List.replicate dm 46 ++ lst xm) (List.replicate dl 46 ++ lst xl) ∧ @LT.lt Nat _ WL L' ∧ @LT.lt Nat _ WM L' := by
    rcases hc with ⟨rfl, rfl, hle⟩ | ⟨rfl, rfl, hle⟩
    · exact ⟨d1, x1, t1, t2, d2, x2, t3, t4, fun p hp => N' p (ap_in1 p hp), ap_out1, hle, hd2, hl1, hl2, hs1, hs2, lev_comm' _ _, l1.1, l1.2.1⟩
    · exact ⟨d2, x2, t3, t4, d1, x1, t1, t2, fun p hp => N' p (ap_in2 p hp), ap_out2, hle, hd1, hl2, hl1, hs2, hs1, rfl, l1.2.1, l1.1⟩
  rw [hlev] at hret
  clear N' hc hlev
  have hAll : AllLt L' news := l1.2.2
  k_steps
  refine Held.put ?_
  obtain ⟨ly, hly⟩ := ex_eq2 (lst xl).length
  obtain ⟨lx, hlx⟩ := ex_eq2 (lst xm).length
  have hyl : xl.length = ly := by rw [len_lst, hly]
  have hxl : xm.length = lx := by rw [len_lst, hlx]
  have hly3 : ly ≤ 3 := by rw [← hly]; exact hll
  have hlx3 : lx ≤ 3 := by rw [← hlx]; exact hlm
  (rename Obj => cY); (rename cY.data = _ => hcY)
  k_dflt (refine LCg.Assign_ListComp_U (F₀ := by k_asm) (by rfl) (by with_unfolding_all rfl) (by with_unfolding_all rfl) (by decide) (by rfl) (by decide) (by rfl) (by rfl) (by rfl) ?_)
  k_steps
  refine Held.put ?_
  (rename News _ _ _ _ => nX); (rename Fr _ _ _ _ => fX)
  refine LCg.CompSrc.range (n := ly + 1) rfl fX nX (by assumption) (small_one (by (first | lia | omega)) (by (first | lia | omega)) (by (first | lia | omega)) (by (first | lia | omega))) (by rw [show (xl.length : Int) + 1 = ((ly + 1 : Nat) : Int) by (first | lia | omega)]; exact rangeSize_nat _ _) (by rw [PySem.sizeLine_eq]; (first | lia | omega)) fun g1 => ?_
  refine comp_all (σ := Unit) (fun _ => _) (fun i _ ys => IntsAre ys ((List.range i).map fun j => (2 * ((ly : Int) - (j : Nat)) : Int))) () .nil ?turn1 ?fin1
  case turn1 =>
    clear nX fX
    intro i u0 ys v I oI C oC D m₂ h tk E' hi hP hv hC hx F' N' off ne
    obtain ⟨ti, rfl⟩ := hv
    obtain ⟨kk, hkk⟩ := ex_eq2 (0 + (i : Int))
    rw [hkk] at hx
    have hk0 : 0 ≤ kk := by (first | lia | omega)
    have hk3 : kk ≤ 3 := by (first | lia | omega)
    k_steps
    refine Held.put ?_
    (rename News _ _ _ _ => nX); (rename Fr _ _ _ _ => fX)
    refine LCg.CompEnd.intro fX nX _ (fun p hp => hp) off trivial ⟨(), rfl, ?_⟩
    exact ints_to (by rw [List.range_succ, List.map_append]; rfl) (ints_snocE (y := 2 * ((ly : Int) - (i : Nat))) (by rw [hyl]; (first | lia | omega)) hP)
  case fin1 =>
  intro u0 ys hP De he9 tke9 Fe9 Ne9 oe9
  have hEk : ∀ _ : Unit, IntsAre ys _ := fun _ => hP
  have oBase : ∀ p ∈ (WL, wdO dl xl tl1 tl2) :: (WM, wdO dm xm tm1 tm2) :: (L' + 1, cY) :: news, p.1 ≠ De := fun p hp => off1_mem oe9 p (.tail _ hp)
  clear nX fX hP oe9
  k_steps
  refine Held.put ?_
  (rename News _ _ _ _ => nX); (rename Fr _ _ _ _ => fX)
  have hdn := dn_range hlx3
  have nE : News _ _ _ ((De, LCg.lst _) :: (WL, wdO dl xl tl1 tl2) :: (WM, wdO dm xm tm1 tm2) :: (L' + 1, cY) :: news) := fun p hp => nX p (ap_skip p hp)
  refine range_down (σ := Addr × List Value × Nat × Tok) (n := lx) (fun c => (c.1, listOf c.2.1.toArray c.2.2.1) :: (WL, wdO dl xl tl1 tl2) :: (WM, wdO dm xm tm1 tm2) :: (L' + 1, cY) :: news)
    (fun c => [(Str.ofString "ends", .ref c.1), (Str.ofString "x", .str xm tm2), (Str.ofString "more", .int ((dm : Int) - dl) c.2.2.2)])
    (fun t c => IntsAre c.2.1 (rowA (lst xm) (lst xl) (lx - t)) ∧ ∀ p ∈ (WL, wdO dl xl tl1 tl2) :: (WM, wdO dm xm tm1 tm2) :: (L' + 1, cY) :: news, p.1 ≠ c.1) (De, _, _, _) rfl (by assumption) (by rw [hxl]; exact hdn.1) (by rw [hxl]; exact hdn.2) fX nE (by kst_all) ⟨?_, oBase⟩ ?turn2 ?done2
  · exact ints_to (row_first hly hlx) (hEk ())
  case turn2 =>
    clear nX nE fX oBase
    intro c t ti u h tk I it ht ho5 hP F' N'
    obtain ⟨E, vs, e5, tM⟩ := c
    dsimp only [kstB] at F' hP N' ho5
    obtain ⟨hV, hoE⟩ := hP
    replace F' : Fr g' L' h _ := F'
    replace N' : News g' L' h _ := N'
    rw [hxl] at F'
    obtain ⟨i, hi⟩ : ∃ i : Nat, (lx : Int) - 1 - (t : Int) = (i : Int) := ⟨lx - 1 - t, by (first | lia | omega)⟩
    rw [hi] at F'
    have hi3 : i < lx := by (first | lia | omega)
    k_steps
    refine Held.put ?_
    (rename News _ _ _ _ => nX); (rename Fr _ _ _ _ => fX); (rename (@LT.lt Nat _ _ _) ∧ _ => l9)
    have hdn2 := dn_range hly3
    have hrow : rowA (lst xm) (lst xl) (lx - t) = rowA (lst xm) (lst xl) (i + 1) := by congr 1; (first | lia | omega)
    rw [hrow] at hV
    have hVk : ∀ _ : Unit, IntsAre vs (rowA (lst xm) (lst xl) (i + 1)) := fun _ => hV
    clear hV hrow
    refine range_down (σ := Addr × List Value × Nat) (n := ly) (fun c => (c.1, listOf c.2.1.toArray c.2.2) :: (I, it) :: (E, listOf vs.toArray e5) :: (WL, wdO dl xl tl1 tl2) :: (WM, wdO dm xm tm1 tm2) :: (L' + 1, cY) :: news)
      (fun c => [(Str.ofString "left", .ref c.1), (Str.ofString "ends", .ref E), (Str.ofString "x", .str xm tm2), (Str.ofString "i", .int (i : Int) ti), (Str.ofString "more", .int ((dm : Int) - dl) tM)])
      (fun v c => IntsAre c.2.1 (leftA (lst xm) (lst xl) i v) ∧ ∀ p ∈ (I, it) :: (E, listOf vs.toArray e5) :: (WL, wdO dl xl tl1 tl2) :: (WM, wdO dm xm tm1 tm2) :: (L' + 1, cY) :: news, p.1 ≠ c.1) (_, [_], _) rfl (by assumption) (by rw [hyl]; exact hdn2.1) (by rw [hyl]; exact hdn2.2) fX nX (by kst_all) ⟨?_, allLt_ne (l := (I, it) :: (E, listOf vs.toArray e5) :: (WL, wdO dl xl tl1 tl2) :: (WM, wdO dm xm tm1 tm2) :: (L' + 1, cY) :: news) l9 (Nat.le_refl _)⟩ ?turn3 ?done3
    · exact ints_to (left_first hlx (by (first | lia | omega))) (ints_snocE (vs := []) (ys := []) (y := 2 * ((lx : Int) - i)) (by rw [hxl]) .nil)
    case turn3 =>
      clear nX fX l9
      intro c v tj u h tk J jt hv hoJ hP F' N'
      obtain ⟨Lf, ws, e6⟩ := c
      dsimp only [kstB] at F' hP N' hoJ
      obtain ⟨hW, hoL⟩ := hP
      replace F' : Fr g' L' h _ := F'
      replace N' : News g' L' h _ := N'
      rw [hyl] at F'
      obtain ⟨j, hj⟩ : ∃ j : Nat, (ly : Int) - 1 - (v : Int) = (j : Int) := ⟨ly - 1 - v, by (first | lia | omega)⟩
      rw [hj] at F'
      have hj3 : j < ly := by (first | lia | omega)
      obtain ⟨c, hc, hcs⟩ := sign_at (i := i) hsm (by (first | lia | omega))
      obtain ⟨d, hd, hds⟩ := sign_at (i := j) hsl (by (first | lia | omega))
      obtain ⟨r1, r2, r3⟩ := row_at (y := lst xl) (i := i) (j := j) (v := v) (x := lst xm) (by (first | lia | omega)) (by (first | lia | omega))
      have hWk : ∀ _ : Unit, IntsAre ws (leftA (lst xm) (lst xl) i v) := fun _ => hW
      have hHs : HoldSub := ⟨⟩
      clear hW
      k_steps
      refine Held.put ?_
      (rename News _ _ _ _ => nX)
      refine item_ints (nX.isList (by k_mem)) (hVk ()) rfl r1 (by (first | lia | omega)) ?_
      intro ta
      k_steps
      refine Held.put ?_
      (rename News _ _ _ _ => nX)
      refine item_ints (n := 0) (nX.isList (by k_mem)) (hWk ()) rfl r2 (by (first | lia | omega)) ?_
      intro tb
      k_steps
      refine Held.put ?_
      (rename News _ _ _ _ => nX)
      refine item_ints (n := j + 1) (nX.isList (by k_mem)) (hVk ()) (by (first | lia | omega)) r3 (by (first | lia | omega)) ?_
      intro tc
      k_steps
      refine Held.put ?_
      refine item_sign rfl hc (by (first | lia | omega)) ?_
      intro td k8
      k_steps
      refine Held.put ?_
      refine item_sign rfl hd (by (first | lia | omega)) ?_
      intro te k9
      k_steps
      refine Held.put ?_
      (rename News _ _ _ _ => nX)
      k_dflt (refine' ctr_use (change_ctr _ _ _ _ _ _ Xt _ c d _ _) hXt ?k1 ?k2 ?k3 nX ?k5 ?kK ?kp ?kd ?ku ?_; (case k1 => k_asm); (case k2 => k_asm); (case k3 => k_asm); (case k5 => k_asm); (case kK => first | exact rfl | assumption); (case kd => ktr_room); (case ku => ktr_units))
      case kp => exact ⟨hcs, hds⟩
      clear nX
      intro v6 nw6 h6 tk6 hr6 F6 N6
      obtain ⟨⟨tf, rfl⟩, rfl⟩ := hr6
      have hcg := chg_le c d
      have hl1 := lev_small (lst xm) (lst xl) (i + 1) j hlm hll
      have hl2 := lev_small (lst xm) (lst xl) i (j + 1) hlm hll
      have hl3 := lev_small (lst xm) (lst xl) (i + 1) (j + 1) hlm hll
      obtain ⟨q1, hq1⟩ := ex_eq2 (lev ((lst xm).drop (i + 1)) ((lst xl).drop j))
      obtain ⟨q2, hq2⟩ := ex_eq2 (lev ((lst xm).drop i) ((lst xl).drop (j + 1)))
      obtain ⟨q3, hq3⟩ := ex_eq2 (lev ((lst xm).drop (i + 1)) ((lst xl).drop (j + 1)))
      rw [hq1] at hl1
      rw [hq2] at hl2
      rw [hq3] at hl3
      rw [hq3]
      k_steps
      refine Held.put ?_
      (rename News _ _ _ _ => nX); (rename Fr _ _ _ _ => fX)
      refine min3_N rfl fX nX ?_
      intro mn tn h7 tk7 hm7 F7 N7
      clear nX fX
      have o1 : @Ne Nat J Lf := Ne.symm (hoJ (Lf, _) (.head _))
      have o2 : @Ne Nat I Lf := hoL _ (.head _)
      have o3 : @Ne Nat E Lf := hoL _ (.tail _ (.head _))
      have o4 : @Ne Nat WL Lf := hoL _ (.tail _ (.tail _ (.head _)))
      have o5 : @Ne Nat WM Lf := hoL _ (.tail _ (.tail _ (.tail _ (.head _))))
      have o6 : @Ne Nat (L' + 1) Lf := hoL _ (.tail _ (.tail _ (.tail _ (.tail _ (.head _)))))
      have o7 : ∀ p ∈ news, p.1 ≠ Lf := fun p hp => hoL p (.tail _ (.tail _ (.tail _ (.tail _ (.tail _ hp)))))
      have hwl : ws.length ≤ 10 := by rw [ints_len (hWk ())]; unfold leftA; rw [List.length_map, List.length_range]; (first | lia | omega)
      k_steps
      refine Held.put ?_
      (rename News _ _ _ _ => nX); (rename Fr _ _ _ _ => fX)
      k_dflt (refine' kl_insert (l := .int mn tn :: ws) fX nX ?xf ?xe ?xU ?xz ?_; (case xf => exact rfl); (case xe => exact ins_head); (case xU => k_upd); (case xz => (show ws.length ≤ _; rw [PySem.sizeLine_eq]; (first | lia | omega))))
      intro h8 F8 N8
      clear nX fX
      k_steps
      dsimp only [EndG]
      (rename News _ _ _ _ => nX); (rename Fr _ _ _ _ => fX)
      refine joinA_end (Lf, .int mn tn :: ws, e6 + 1) fX nX (fun p hp => hp) (by kst_all) ⟨fun p hp => (List.mem_cons.mp hp).elim (fun e => by subst e; exact (show Lf ≠ J from hoJ (Lf, listOf ws.toArray e6) (.head _))) fun h => hoJ p (.tail _ h), ?_, hoL⟩
      exact ints_to (left_next (by (first | lia | omega)) (by (first | lia | omega)) hc hd hcs hds (by rw [hm7, hq3])) (.cons mn tn (hWk ()))
    case done3 =>
    clear nX fX l9
    intro c u h tk hP F' N'
    obtain ⟨Lf, ws, e6⟩ := c
    dsimp only [kstB] at F' hP N'
    obtain ⟨hW, hoL⟩ := hP
    replace F' : Fr g' L' h _ := F'
    replace N' : News g' L' h _ := N'
    have hWk : ∀ _ : Unit, IntsAre ws (rowA (lst xm) (lst xl) i) := fun _ => ints_to (by rw [← hly]; exact left_last _ _ _) hW
    clear hW
    k_steps
    dsimp only [EndG]
    (rename News _ _ _ _ => nX); (rename Fr _ _ _ _ => fX)
    refine joinA_end (Lf, ws, e6, tM) fX nX ap_ends (by kst_all) ⟨fun p hp => ?_, ?_, fun p hp => hoL p (.tail _ (.tail _ hp))⟩
    · rcases List.mem_cons.mp hp with rfl | hp
      · exact Ne.symm (hoL (I, it) (.head _))
      · exact ho5 p (.tail _ hp)
    · have ei : lx - (t + 1) = i := by (first | lia | omega)
      rw [ei]
      exact hWk ()
  case done2 =>
  clear nX nE fX oBase
  intro c u h tk hP F' N'
  obtain ⟨E, vs, e5, tM⟩ := c
  dsimp only [kstB] at F' hP N'
  obtain ⟨hV, hoE⟩ := hP
  replace F' : Fr g' L' h _ := F'
  replace N' : News g' L' h _ := N'
  have hVk : ∀ _ : Unit, IntsAre vs (rowA (lst xm) (lst xl) 0) := fun _ => by rw [Nat.sub_self] at hV; exact hV
  clear hV
  obtain ⟨mo, hmo⟩ : ∃ mo : Nat, dm - dl = mo := ⟨_, rfl⟩
  have hmI : (dm : Int) - dl = (mo : Int) := by (first | lia | omega)
  rw [hmI] at F'
  have hmo8 : mo ≤ 8 := by (first | lia | omega)
  have hvl : vs.length = ly + 1 := by rw [ints_len (hVk ())]; unfold rowA; rw [List.length_map, List.length_range, hly]
  k_steps
  refine Held.put ?_
  k_dflt (refine' kmk_slice_lit ?xF ?xN ?xl ?xp ?xq (pick_takeI (n := mo + 1) ?xk) ?_ ?xs ?xt ?xz; (case xF => k_asm); (case xN => k_asm); (case xl => kmk_list); (case xp => exact IsPart.none); (case xq => exact IsPart.int _ _); (case xs => with_unfolding_all rfl); (case xt => kmk_pure); (case xz => (rw [List.size_toArray, hvl, PySem.sizeLine_eq]; (first | lia | omega))); (case xk => (first | lia | omega)))
  intro Ds hs9 Fs9 Ns9 ls9
  k_steps
  refine Held.put ?_
  (rename News _ _ _ _ => nX); (rename Fr _ _ _ _ => fX)
  refine kso_min fX nX (nX.isList (by k_mem)) (ints_take (hVk ()) (mo + 1)) (by rw [List.length_take, ← ints_len (hVk ()), hvl]; (first | lia | omega)) rfl ?_
  clear nX fX
  intro h9 M t9 tk9 F9 N9 hM1 hM2
  obtain ⟨r, hr, hap⟩ := row_min hM1 hM2
  rw [← hmo] at hap
  have hfin := apart_lev hle hsl hap
  have hr0 : 0 ≤ M ∧ M ≤ 100 := row_bd hM1 hlm hll
  obtain ⟨hM3, hM4⟩ := hr0
  k_steps
  (rename News _ _ _ _ => nX); (rename Fr _ _ _ _ => fX)
  exact hret _ _ _ _ ⟨ret_int (by rw [hfin]; (first | lia | omega)), rfl⟩ fX (fun p hp => nX p (by
    have := hback p hp
    simp only [List.mem_cons] at this ⊢
    rcases this with h | h | h <;> simp only [h, true_or, or_true]))
end Mine
end
section
theorem Mine.forget_Lw1h : True := by
  w_top off
  trivial
open PySem PySem.W PyProof.Rows PySem.Calls PySem.Spec
set_option maxRecDepth 100000
set_option maxHeartbeats 1000000
namespace Mine
theorem draws_four (ns : List Int) : ∃ a b c d, (List.map (fun k' : Int => k'.fmod 3888) (List.take 4 ns) ++ List.drop ((List.take 4 ns).length : Int).toNat [115, 244, 438, 469]) = [a, b, c, d] ∧ ∀ z ∈ [a, b, c, d], 0 ≤ z ∧ z < 3888 := by
  have m : ∀ x : Int, 0 ≤ x.fmod 3888 ∧ x.fmod 3888 < 3888 := fun x => by rw [Int.fmod_eq_emod_of_nonneg _ (by decide)]; (first | lia | omega)
  have fin : ∀ l : List Int, (∀ z ∈ l, 0 ≤ z ∧ z < 3888) → l.length = 4 → ∃ a b c d, l = [a, b, c, d] ∧ ∀ z ∈ [a, b, c, d], 0 ≤ z ∧ z < 3888 := by
    intro l h hl
    match l, hl with
    | [a, b, c, d], _ => exact ⟨a, b, c, d, rfl, h⟩
  refine fin _ ?_ ?_
  · intro z hz
    rcases List.mem_append.mp hz with hz | hz
    · obtain ⟨x, _, rfl⟩ := List.mem_map.mp hz; exact m x
    · have := List.mem_of_mem_drop hz
      simp only [List.mem_cons, List.not_mem_nil, or_false] at this
      rcases this with rfl | rfl | rfl | rfl <;> decide
  · simp; (first | lia | omega)
theorem draws_of4 {ws : List Value} {ns : List Int} (h : IntsAre ws (List.map (fun k' : Int => k'.fmod 3888) (List.take 4 ns) ++ List.drop ((List.take 4 ns).length : Int).toNat [115, 244, 438, 469])) : ∃ a b c d ta tb tc td, ws = [.int a ta, .int b tb, .int c tc, .int d td] ∧ ∀ z ∈ [a, b, c, d], 0 ≤ z ∧ z < 3888 := by
  obtain ⟨a, b, c, d, eq, r⟩ := draws_four ns
  rw [eq] at h
  cases h with
  | cons _ ta h => cases h with
    | cons _ tb h => cases h with
      | cons _ tc h => cases h with
        | cons _ td h => cases h; exact ⟨a, b, c, d, ta, tb, tc, td, rfl, r⟩
/-- the dots of a word by its number -/
def dotN (z : Int) : Nat := (z % 3).toNat
/-- the tuple of a word -/
def WdIs (z : Int) (o : Obj) : Prop := ∃ t2 t3 t4, o = tupO [.int (dotN z : Int) t2, .int (z / 3 % 2) t3, .str (tailS z) t4]
theorem three_ofL {α : Type} {l : List α} (h : l.length = 3) : ∃ a b c, l = [a, b, c] := by
  match l, h with
  | [a, b, c], _ => exact ⟨a, b, c, rfl⟩
theorem cell_int {o : Obj} {x y : Int} {t : Tok} (h : o.data = .cell (some (.int x t))) (e : x = y) : ∃ t', o.data = .cell (some (.int y t')) := ⟨t, e ▸ h⟩
/-- a word by its number -/
def wdZ (z : Int) : Wd := (decide ((dotN z : Int) ≠ 0 ∧ z / 3 % 2 ≠ 0), dotN z, tailL z)
/-- the row of the word k -/
def rowK (zs : List Int) (hw : Int) (k : Nat) : List Nat := (wdZ (zs.getD k 0)).body ++ eolL (hw / 3 ^ (k + 1) % 3).toNat
theorem wd_at {W0 W1 W2 : Addr} {p0 p1 p2 : Obj} {z0 z1 z2 : Int} (h0 : WdIs z0 p0) (h1 : WdIs z1 p1) (h2 : WdIs z2 p2) {i : Nat} (h : i < 3) : ∃ Wi zi ta tb tc, [Value.ref W0, .ref W1, .ref W2][i]? = some (.ref Wi) ∧ [z0, z1, z2][i]? = some zi ∧
    (Wi, tupO [.int (dotN zi : Int) ta, .int (zi / 3 % 2) tb, .str (tailS zi) tc]) ∈ [(W0, p0), (W1, p1), (W2, p2)] := by
  obtain ⟨t0, u0, v0, rfl⟩ := h0
  obtain ⟨t1, u1, v1, rfl⟩ := h1
  obtain ⟨t2, u2, v2, rfl⟩ := h2
  rcases (show i = 0 ∨ i = 1 ∨ i = 2 by (first | lia | omega)) with rfl | rfl | rfl
  · exact ⟨W0, z0, t0, u0, v0, rfl, rfl, .head _⟩
  · exact ⟨W1, z1, t1, u1, v1, rfl, rfl, .tail _ (.head _)⟩
  · exact ⟨W2, z2, t2, u2, v2, rfl, rfl, .tail _ (.tail _ (.head _))⟩
theorem itemV_at {prog : Program} {w : World} {A : Around} {E : Value → Shared → Prop} {s : Shared} {value slice : PySem.Expr} {l : Addr} {vs : List Value} {k : Int} {u : Tok} {v : Value} {Q : Value → Shared → Prop}
    (hl : s.heap.IsList l vs.toArray) (h0 : 0 ≤ k) (hhi : k < 2 ^ 63) (hx : vs[k.toNat]? = some v) (h : Q v s)
    (hs : subscripted slice false (.ref l) (.int k u) = operate [.ref l, .int k u] (getItem (.ref l) (.int k u)) := by with_unfolding_all rfl) :
    wpAny (model prog w) A (subscriptTail value slice (.ref l) (.int k u)) Q E s :=
  tail_any hl.typeIs slot_list_getitem.lookup (wpAny_getItem_list hl h0 hhi (by simpa using hx) h) hs
theorem lw_mem {p : Addr × Obj} {as bs : List (Addr × Obj)} (h : p ∈ bs) : p ∈ as ++ bs := List.mem_append_right _ h
theorem dotN_le (z : Int) : dotN z ≤ 2 := by unfold dotN; (first | lia | omega)
theorem tail_ok (z : Int) : (lst (tailS z)).length ≤ 3 ∧ (∀ c ∈ lst (tailS z), c ∈ sgs) ∧ lst (tailS z) = tailL z := by
  have e : lst (tailS z) = tailL z := by unfold tailS; rw [lst_mk]
  rw [e]
  refine ⟨?_, fun c hc => ?_, rfl⟩
  · unfold tailL; rw [List.length_map, List.length_range]; (first | lia | omega)
  · unfold tailL at hc
    obtain ⟨k, _, rfl⟩ := List.mem_map.mp hc
    have h : ∀ q ∈ List.range 6, sgs.getD q 0 ∈ sgs := by decide
    exact h _ (List.mem_range.mpr (by (first | lia | omega)))
theorem pow3 {i : Nat} (h : i ≤ 2) : (0 : Int) < 3 ^ (i + 1) ∧ (3 : Int) ^ (i + 1) ≤ 1000 := by
  rcases (show i = 0 ∨ i = 1 ∨ i = 2 by (first | lia | omega)) with rfl | rfl | rfl <;> decide
theorem range_snoc {α : Type} {f : Nat → α} {i : Nat} : (List.range i).map f ++ [f i] = (List.range (i + 1)).map f := by rw [List.range_succ, List.map_append]; rfl
theorem rowK_close {bw : List Nat} {zs : List Int} {hw zi : Int} {i e : Nat} {B : Str} (hz : zs[i]? = some zi) (hb : (wdZ zi).body = bw) (he : hw / 3 ^ (i + 1) % 3 = (e : Int)) (hB : lst B = eolL e) : (⟨bw.toArray⟩ : Str) ++ B = ⟨(rowK zs hw i).toArray⟩ := by
  refine str_ext ?_
  rw [lst_append, hB, lst_mk, lst_mk]
  unfold rowK
  rw [he, List.getD_eq_getElem?_getD, hz]
  show _ = (wdZ zi).body ++ _
  rw [hb]; rfl
theorem lst_nl : lst (Str.ofString "\n") = [10] := by decide +kernel
theorem lst_cr : lst (Str.ofString "\r") = [13] := by decide +kernel
theorem lst_cl : lst (Str.ofString "\r\n") = [13, 10] := by decide +kernel
/-- words and line ends -/
def wds1 (z0 z1 z2 hw : Int) : List (Wd × Nat) := [(wdZ z0, (hw / 3 ^ (0 + 1) % 3).toNat), (wdZ z1, (hw / 3 ^ (1 + 1) % 3).toNat), (wdZ z2, (hw / 3 ^ (2 + 1) % 3).toNat)]
/-- the words as they are sent -/
def wdsN (hp : Nat) (zs : List Int) : List Wd := zs.map fun z => (wdZ z).sent hp
theorem cat_rows3 {l : List (Str × Tok)} {z0 z1 z2 hw : Int} (h : l.map (·.1) = [(⟨(rowK [z0, z1, z2] hw 0).toArray⟩ : Str), ⟨(rowK [z0, z1, z2] hw 1).toArray⟩, ⟨(rowK [z0, z1, z2] hw 2).toArray⟩]) : cat l = rowsT ((wds1 z0 z1 z2 hw).map fun w => (w.1.body, w.2)) := by
  have e : cat l = ((l.map (·.1)).map lst).flatten := by unfold cat; rw [List.map_map]; rfl
  rw [e, h]
  show (lst ⟨_⟩ ++ (lst ⟨_⟩ ++ (lst ⟨_⟩ ++ []))) = _
  rw [lst_mk, lst_mk, lst_mk]
  rfl
theorem wdZ_ok (z : Int) : (wdZ z).ok := by
  have h := tail_ok z
  refine ⟨fun c hc => ?_, fun e => ⟨fun e2 => ?_, ?_⟩⟩
  · have hs : c ∈ sgs := h.2.1 c (by rw [h.2.2]; exact hc)
    have k : ∀ c ∈ sgs, c ≠ 10 ∧ c ≠ 13 ∧ c ≠ 9 ∧ c ≠ 46 := by decide
    exact k c hs
  · have e3 : (tailL z).length = 0 := by rw [show tailL z = [] from e2]; rfl
    unfold tailL at e3
    rw [List.length_map, List.length_range] at e3
    (first | lia | omega)
  · have e4 : dotN z = 0 := e
    unfold wdZ
    dsimp only
    rw [e4]; rfl
theorem wdZ_len (z : Int) : (wdZ z).body.length ≤ 9 := by
  have h1 := body_len (wdZ z)
  have h2 : (wdZ z).2.1 ≤ 2 := dotN_le z
  have h3 : (wdZ z).2.2.length ≤ 3 := by rw [show (wdZ z).2.2 = tailL z from rfl, ← (tail_ok z).2.2]; exact (tail_ok z).1
  (first | lia | omega)
theorem rows_len (z0 z1 z2 hw : Int) : (rowsT ((wds1 z0 z1 z2 hw).map fun w => (w.1.body, w.2))).length ≤ 40 := by
  have he : ∀ e, (eolL e).length ≤ 2 := fun e => by unfold eolL; split <;> simp
  have h0 := wdZ_len z0
  have h1 := wdZ_len z1
  have h2 := wdZ_len z2
  have a0 := he (hw / 3 ^ (0 + 1) % 3).toNat
  have a1 := he (hw / 3 ^ (1 + 1) % 3).toNat
  have a2 := he (hw / 3 ^ (2 + 1) % 3).toNat
  show (((wdZ z0).body ++ eolL _) ++ (((wdZ z1).body ++ eolL _) ++ (((wdZ z2).body ++ eolL _) ++ []))).length ≤ 40
  simp only [List.length_append, List.length_nil]
  (first | lia | omega)
theorem quotN_eq (n : Nat) (l : List Nat) : quotN n l = quotMN n l := by
  induction n with
  | zero => rfl
  | succ n ih => rw [quotN, quotMN, ih]; rfl
theorem sent_text1 {hp : Nat} {z0 z1 z2 hw : Int} (h1 : 1 ≤ hp) (_h : ∀ z ∈ [z0, z1, z2], 0 ≤ z ∧ z < 3888) : quotN hp (rowsT ((wds1 z0 z1 z2 hw).map fun w => (w.1.body, w.2))) = rowsC ((wdsN hp [z0, z1, z2]).map Wd.body) := by
  obtain ⟨k, rfl⟩ : ∃ k, hp = k + 1 := ⟨hp - 1, by (first | lia | omega)⟩
  rw [quotN_eq]
  have := quotN_rows (ws := wds1 z0 z1 z2 hw) (fun w hw' => by
    simp only [wds1, List.mem_cons, List.not_mem_nil, or_false] at hw'
    rcases hw' with rfl | rfl | rfl <;> exact wdZ_ok _) k
  rw [this]; rfl
theorem lw_pick2 {r w d e c1 c2 c3 c4 c5 c6 c7 t p0 p1 p2 : Addr × Obj} : ∀ p ∈ t :: w :: c1 :: c2 :: c3 :: c4 :: c5 :: c6 :: c7 :: p0 :: p1 :: [p2], p ∈ r :: w :: d :: e :: c1 :: c2 :: c3 :: c4 :: c5 :: c6 :: c7 :: t :: p0 :: p1 :: [p2] := mem_blk [[r], [w], [d, e], [c1, c2, c3, c4, c5, c6, c7], [t], [p0, p1, p2]] [4, 1, 3, 5] [0, 1, 2, 3, 4, 5] (by decide)
theorem sent_len1 {hp : Nat} {zs : List Int} (h3 : hp ≤ 3) (hl : zs.length = 3 := by rfl) : (rowsC ((wdsN hp zs).map Wd.body)).length ≤ 1000 := by
  have h := rowsC_len ((wdsN hp zs).map Wd.body) 12 (fun b hb => by
    obtain ⟨w, hw, rfl⟩ := List.mem_map.mp hb
    obtain ⟨z, _, rfl⟩ := List.mem_map.mp hw
    have h1 := body_len ((wdZ z).sent hp)
    have h4 : ((wdZ z).sent hp).2.1 ≤ (wdZ z).2.1 + hp := grow_le _ _ _
    have h5 : (wdZ z).2.1 ≤ 2 := dotN_le z
    have h6 : ((wdZ z).sent hp).2.2.length ≤ 3 := by rw [show ((wdZ z).sent hp).2.2 = tailL z from rfl, ← (tail_ok z).2.2]; exact (tail_ok z).1
    (first | lia | omega))
  have e : (wdsN hp zs).length = 3 := by rw [wdsN, List.length_map, hl]
  rw [List.length_map, e] at h
  (first | lia | omega)
/-- the lexer's ledger holds the same addresses whatever it holds -/
theorem led_adr {C : Addr} {x : Lx} {y y' : Ls} {rest : List (Addr × Obj)} {D : Addr} (h : ∀ p ∈ x.led C y ++ rest, p.1 ≠ D) : ∀ p ∈ x.led C y' ++ rest, p.1 ≠ D := by
  have e : (x.led C y ++ rest).map (·.1) = (x.led C y' ++ rest).map (·.1) := rfl
  intro p hp
  have hm : p.1 ∈ (x.led C y ++ rest).map (·.1) := by rw [e]; exact List.mem_map_of_mem hp
  obtain ⟨q, hq, e2⟩ := List.mem_map.mp hm
  rw [← e2]; exact h q hq
theorem lt_adr {d : Addr} {l l' : List (Addr × Obj)} (h : ∀ q ∈ l, @LT.lt Nat _ q.1 d) (e : l'.map (·.1) = l.map (·.1)) : ∀ q ∈ l', @LT.lt Nat _ q.1 d := by
  intro q hq
  have h1 : q.1 ∈ l.map (·.1) := e ▸ List.mem_map_of_mem hq
  obtain ⟨p, hp, e2⟩ := List.mem_map.mp h1
  rw [← e2]; exact h p hp
theorem led_ne {x : Lx} (h : x.Ord) (h1 : @LT.lt Nat _ x.cTx x.c1) (h2 : @LT.lt Nat _ x.cTx x.c2) {d : Nat} (hd : @LT.lt Nat _ d x.cTx) : @Ne Nat x.rd d ∧ @Ne Nat x.c1 d ∧ @Ne Nat x.atL d ∧ @Ne Nat x.cAt d ∧ @Ne Nat x.cTx d ∧ @Ne Nat x.pbL d ∧ @Ne Nat x.lx d ∧ @Ne Nat x.dx d ∧ @Ne Nat x.sd d ∧ @Ne Nat x.st d ∧ @Ne Nat x.c2 d := by
  obtain ⟨a1, a2, a3, a4, a5, a6, a7, a8, a9, a10⟩ := h
  have b1 := Nat.lt_trans hd a1
  have b2 := Nat.lt_trans b1 a2
  have b3 := Nat.lt_trans b2 a3
  have b5 := Nat.lt_trans b3 a5
  have b7 := Nat.lt_trans b5 a7
  have b8 := Nat.lt_trans b7 a8
  have b9 := Nat.lt_trans b8 a9
  have b10 := Nat.lt_trans b9 a10
  exact ⟨Nat.ne_of_gt b3, Nat.ne_of_gt (Nat.lt_trans hd h1), Nat.ne_of_gt b2, Nat.ne_of_gt b1, Nat.ne_of_gt hd, Nat.ne_of_gt b10, Nat.ne_of_gt b9, Nat.ne_of_gt b8, Nat.ne_of_gt b7, Nat.ne_of_gt b5, Nat.ne_of_gt (Nat.lt_trans hd h2)⟩
theorem off3_led {I C D : Addr} {K : Addr} {x : Lx} {y y' : Ls} {rest : List (Addr × Obj)} (h : LCg.Off3 I C D (x.led K y ++ rest)) : LCg.Off3 I C D (x.led K y' ++ rest) := by
  have h2 := h.mem
  exact LCg.Off3.of fun p hp => ⟨led_adr (y := y) (fun p hp => (h2 p hp).1) p hp, led_adr (y := y) (fun p hp => (h2 p hp).2.1) p hp, led_adr (y := y) (fun p hp => (h2 p hp).2.2) p hp⟩
theorem ring_in3 {A : List (Addr × Obj)} {a b c : Addr × Obj} {rest : List (Addr × Obj)} : ∀ p ∈ A ++ a :: b :: c :: rest, p ∈ a :: b :: c :: (A ++ rest) := mem_blk [A, [a, b, c], rest] [0, 1, 2] [1, 0, 2] (by decide)
theorem ring_out3 {A : List (Addr × Obj)} {a b c : Addr × Obj} {rest : List (Addr × Obj)} : ∀ p ∈ a :: b :: c :: (A ++ rest), p ∈ A ++ a :: b :: c :: rest := mem_blk [A, [a, b, c], rest] [1, 0, 2] [0, 1, 2] (by decide)
theorem tokL_len (ws : List Wd) : (tokL ws).length = ws.length + 1 := by unfold tokL; simp
theorem dot_int {z : Int} (h : 0 ≤ z) : z % 3 = (dotN z : Int) := by unfold dotN; (first | lia | omega)
theorem lw_fold {h₀ h : Heap} {L : Addr} {n i c d a b : Addr × Obj} {B B' T : List (Addr × Obj)} (e : B' = B) (N : News h₀ L h (n :: i :: c :: d :: a :: b :: (B' ++ T))) : News h₀ L h (n :: i :: c :: d :: a :: b :: (B ++ T)) := e ▸ N
theorem lw_in {n i c d a b : Addr × Obj} {B T : List (Addr × Obj)} : ∀ p ∈ i :: c :: d :: a :: b :: (B ++ (T ++ [n])), p ∈ n :: i :: c :: d :: a :: b :: (B ++ T) := mem_blk [[n], [i, c, d, a, b], B, T] [1, 2, 3, 0] [0, 1, 2, 3] (by decide)
theorem lw_pick1 {a b t1 t2 t3 t4 t5 : Addr × Obj} {r : List (Addr × Obj)} : ∀ p ∈ a :: b :: r, p ∈ a :: b :: t1 :: t2 :: t3 :: t4 :: t5 :: r := mem_blk [[a, b], [t1, t2, t3, t4, t5], r] [0, 2] [0, 1, 2] (by decide)
/-- a word as it is read, by its number -/
def tk1 (hp : Nat) (z : Int) : List Nat := ((wdZ z).sent hp).tok
/-- the dots of a word sent -/
def mvD (hp : Nat) (z : Int) : Nat := ((wdZ z).sent hp).2.1
theorem tk1_eq (hp : Nat) (z : Int) : tk1 hp z = List.replicate (mvD hp z) 46 ++ lst (tailS z) := by rw [(tail_ok z).2.2]; rfl
theorem mvD_le {hp : Nat} (z : Int) (h : hp ≤ 3) : mvD hp z ≤ 5 := by
  have h4 : ((wdZ z).sent hp).2.1 ≤ (wdZ z).2.1 + hp := grow_le _ _ _
  have h5 : (wdZ z).2.1 ≤ 2 := dotN_le z
  unfold mvD; (first | lia | omega)
theorem tk1_len {hp : Nat} (z : Int) (h : hp ≤ 3) : (tk1 hp z).length ≤ 8 := by
  rw [tk1_eq, List.length_append, List.length_replicate]
  have := (tail_ok z).1
  have := mvD_le z h
  (first | lia | omega)
theorem mvD_zero {hp : Nat} {z : Int} (h : (dotN z : Int) = 0) : mvD hp z = dotN z := by
  have h0 : dotN z = 0 := by (first | lia | omega)
  show grow _ _ (dotN z) = _
  unfold grow; rw [h0]; simp
theorem mvD_guard {hp : Nat} {z : Int} (h : (dotN z : Int) ≠ 0) (hg : z / 3 % 2 ≠ 0) : mvD hp z = dotN z := by
  show grow (decide _) _ (dotN z) = _
  unfold grow
  rw [if_pos (.inl (by rw [decide_eq_true_iff]; exact ⟨h, hg⟩))]
theorem mvD_grow {hp : Nat} {z : Int} (h : (dotN z : Int) ≠ 0) (hg : z / 3 % 2 = 0) : mvD hp z = dotN z + hp := by
  show grow (decide _) _ (dotN z) = _
  unfold grow
  rw [if_neg (fun e => e.elim (fun e => by rw [decide_eq_true_iff] at e; exact e.2 hg) (fun e => h (by (first | lia | omega))))]
theorem tok_ok1 {c : Nat} (h : c ∈ sgs ∨ c = 46) : c < 0x110000 := by
  have k : ∀ c ∈ sgs, c < 0x110000 := by decide
  rcases h with h | h
  · exact k c h
  · (first | lia | omega)
theorem tk1_mem {hp : Nat} {z : Int} {c : Nat} (h : c ∈ tk1 hp z) : c ∈ sgs ∨ c = 46 := by
  rw [tk1_eq] at h
  rcases List.mem_append.mp h with h | h
  · exact .inr (List.eq_of_mem_replicate h)
  · exact .inl ((tail_ok z).2.1 c h)
theorem toks_three (hp : Nat) (z0 z1 z2 : Int) : tokL (wdsN hp [z0, z1, z2]) = [⟨(tk1 hp z0).toArray⟩, ⟨(tk1 hp z1).toArray⟩, ⟨(tk1 hp z2).toArray⟩, ⟨#[]⟩] := by
  unfold tokL; rfl
theorem toks_ok {hp : Nat} {z0 z1 z2 : Int} : ∀ y ∈ tokL (wdsN hp [z0, z1, z2]), PyData.strOk y = true := by
  have k : ∀ z, PyData.strOk ⟨(tk1 hp z).toArray⟩ = true := fun z => by
    unfold PyData.strOk
    rw [Array.all_eq_true']
    intro x hx
    have h := tok_ok1 (tk1_mem (List.mem_toArray.mp hx))
    exact decide_eq_true h
  rw [toks_three]
  intro y hy
  simp only [List.mem_cons, List.not_mem_nil, or_false] at hy
  rcases hy with rfl | rfl | rfl | rfl
  · exact k _
  · exact k _
  · exact k _
  · unfold PyData.strOk; simp
/-- the pairs -/
def prs : List (Nat × Nat) := [(0, 1), (0, 2), (1, 2)]
/-- the dues -/
def dueN (hp : Nat) (zs : List Int) (q : Nat × Nat) : Int := (lev (tk1 hp (zs.getD q.1 0)) (tk1 hp (zs.getD q.2 0)) : Nat)
theorem prs_at {h₀ h : Heap} {L : Addr} {l : Addr × Obj} {R : List (Addr × Obj)} {P0 P1 P2 : Addr} {k0 k1 k2 e0 e1 e2 : Tok} {i : Nat} {v : Value} (_N : News h₀ L h (l :: (P2, tupO [.int 1 k2, .int 2 e2]) :: (P1, tupO [.int 0 k1, .int 2 e1]) :: (P0, tupO [.int 0 k0, .int 1 e0]) :: R)) (h : [Value.ref P0, .ref P1, .ref P2][i]? = some v) :
    ∃ (a b : Nat) (Pi : Addr) (ta tb : Tok), v = .ref Pi ∧ a < 3 ∧ b < 3 ∧ prs[i]? = some (a, b) ∧ (Pi, tupO [.int (a : Int) ta, .int (b : Int) tb]) ∈ l :: (P2, tupO [.int 1 k2, .int 2 e2]) :: (P1, tupO [.int 0 k1, .int 2 e1]) :: (P0, tupO [.int 0 k0, .int 1 e0]) :: R := by
  match i, h with
  | 0, h => cases h; exact ⟨0, 1, P0, k0, e0, rfl, by decide, by decide, rfl, .tail _ (.tail _ (.tail _ (.head _)))⟩
  | 1, h => cases h; exact ⟨0, 2, P1, k1, e1, rfl, by decide, by decide, rfl, .tail _ (.tail _ (.head _))⟩
  | 2, h => cases h; exact ⟨1, 2, P2, k2, e2, rfl, by decide, by decide, rfl, .tail _ (.head _)⟩
theorem ints_step {ys : List Value} {f : Nat × Nat → Int} {i : Nat} {q : Nat × Nat} {r : Int} {t : Tok} (hq : prs[i]? = some q) (hr : r = f q) (h : IntsAre ys ((prs.take i).map f)) : IntsAre (ys ++ [.int r t]) ((prs.take (i + 1)).map f) := by
  rw [List.take_add_one, hq, List.map_append]
  exact ints_snocE hr h
theorem lev_top (x y : List Nat) : lev x y ≤ 2 * x.length + 2 * y.length := by
  have h := (Ed.nr x).app (Ed.nl y)
  rw [List.append_nil, List.nil_append] at h
  exact lev_le h
theorem far_is {a b : Str} {r : Int} (h : LevOk a b 99 r) (ha : (lst a).length ≤ 8) (hb : (lst b).length ≤ 8) : r = (lev (lst a) (lst b) : Nat) := by
  have := lev_top (lst a) (lst b)
  rcases h with h | h <;> (first | lia | omega)
theorem near_is {a b : Str} {bd r : Int} (h : LevOk a b bd r) : min r (bd + 1) = min ((lev (lst b) (lst a) : Nat) : Int) (bd + 1) := by
  rw [lev_comm']
  rcases h with h | h <;> (first | lia | omega)
theorem tail_len (z : Int) : (tailS z).length ≤ 3 := by rw [len_lst]; exact (tail_ok z).1
theorem heard_at {ysH : List Value} {hp : Nat} {z0 z1 z2 : Int} {a : Nat} (h : a < 3) (hH : StrsAre ysH (tokL (wdsN hp [z0, z1, z2]))) : ∃ t, ysH[a]? = some (.str ⟨(tk1 hp ([z0, z1, z2].getD a 0)).toArray⟩ t) := by
  rw [toks_three] at hH
  cases hH with
  | cons _ t0 hH => cases hH with
    | cons _ t1 hH => cases hH with
      | cons _ t2 hH =>
        rcases (show a = 0 ∨ a = 1 ∨ a = 2 by (first | lia | omega)) with rfl | rfl | rfl
        · exact ⟨t0, rfl⟩
        · exact ⟨t1, rfl⟩
        · exact ⟨t2, rfl⟩
/-- the tuple of a word sent -/
def MvIs (hp : Nat) (z : Int) (o : Obj) : Prop := ∃ t1 t2, o = wdO (mvD hp z) (tailS z) t1 t2
theorem mv_at {M0 M1 M2 : Addr} {hp : Nat} {z0 z1 z2 : Int} {m0 m1 m2 : Obj} (h0 : MvIs hp z0 m0) (h1 : MvIs hp z1 m1) (h2 : MvIs hp z2 m2) {a : Nat} (h : a < 3) : ∃ (Mi : Addr) (ta tb : Tok), [Value.ref M0, .ref M1, .ref M2][a]? = some (.ref Mi) ∧
    (Mi, wdO (mvD hp ([z0, z1, z2].getD a 0)) (tailS ([z0, z1, z2].getD a 0)) ta tb) ∈ [(M0, m0), (M1, m1), (M2, m2)] := by
  obtain ⟨s0, u0, rfl⟩ := h0
  obtain ⟨s1, u1, rfl⟩ := h1
  obtain ⟨s2, u2, rfl⟩ := h2
  rcases (show a = 0 ∨ a = 1 ∨ a = 2 by (first | lia | omega)) with rfl | rfl | rfl
  · exact ⟨M0, s0, u0, rfl, .head _⟩
  · exact ⟨M1, s1, u1, rfl, .tail _ (.head _)⟩
  · exact ⟨M2, s2, u2, rfl, .tail _ (.tail _ (.head _))⟩
theorem mv_snoc {hp : Nat} {zs : List Int} {c : List (Addr × Obj)} {i : Nat} {z : Int} {a : Addr} {o : Obj} (hl : c.length = i) (hz : zs[i]? = some z) (ho : MvIs hp z o)
    (h : ∀ (j : Nat) (q : Addr × Obj) (z : Int), c[j]? = some q → zs[j]? = some z → MvIs hp z q.2) : ∀ (j : Nat) (q : Addr × Obj) (z : Int), (c ++ [(a, o)])[j]? = some q → zs[j]? = some z → MvIs hp z q.2 := by
  intro j q z' hj hz'
  rcases Nat.lt_or_ge j c.length with h1 | h1
  · rw [List.getElem?_append_left h1] at hj
    exact h j q z' hj hz'
  · rw [List.getElem?_append_right h1, hl] at hj
    have hj0 : j = i := by
      rcases Nat.lt_or_ge (j - i) 1 with h2 | h2
      · (first | lia | omega)
      · rw [List.getElem?_eq_none (by simpa using h2)] at hj; cases hj
    subst hj0
    rw [Nat.sub_self] at hj
    cases hj
    rw [hz] at hz'
    cases hz'
    exact ho
theorem mv_perm {a : Addr × Obj} {X R : List (Addr × Obj)} : ∀ p ∈ a :: (R ++ (X ++ [])), p ∈ a :: (X ++ R) := by
  intro p hp
  rw [List.append_nil] at hp
  exact mem_blk [[a], X, R] [0, 2, 1] [0, 1, 2] (by decide) p hp
theorem mv_in {n i c d a : Addr × Obj} {R X T : List (Addr × Obj)} : ∀ p ∈ [i, c, d] ++ (a :: (R ++ (X ++ (T ++ [n])))), p ∈ n :: i :: c :: d :: a :: (R ++ (X ++ T)) := mem_blk [[n], [i, c, d], [a], R, X, T] [1, 2, 3, 4, 5, 0] [0, 1, 2, 3, 4, 5] (by decide)
theorem mv_off {a n : Addr × Obj} {R X T : List (Addr × Obj)} {ds : List Addr} (h : ∀ p ∈ a :: (R ++ (X ++ T)), p.1 ∉ ds) (hn : n.1 ∉ ds) : ∀ p ∈ a :: (R ++ (X ++ (T ++ [n]))), p.1 ∉ ds := by
  intro p hp
  have hp' : p ∈ (a :: (R ++ (X ++ T))) ++ [n] := by simpa [or_assoc] using hp
  rcases List.mem_append.mp hp' with hp | hp
  · exact h p hp
  · rw [List.mem_singleton.mp hp]; exact hn
theorem mv_fold {h₀ h : Heap} {L : Addr} {n i c d a : Addr × Obj} {R' R T : List (Addr × Obj)} (e : R' = R) (N : News h₀ L h (n :: i :: c :: d :: a :: (R' ++ T))) : News h₀ L h (n :: i :: c :: d :: a :: (R ++ T)) := e ▸ N
theorem mv_is {hp : Nat} {z k : Int} {t u : Tok} (e : k = (mvD hp z : Nat)) : MvIs hp z { cls := .type "tuple", data := .seq #[.int k t, .str (tailS z) u] } := by subst e; exact ⟨_, _, rfl⟩
theorem not_three {a I C D : Nat} (h1 : @Ne Nat a I) (h2 : @Ne Nat a C) (h3 : @Ne Nat a D) : a ∉ [I, C, D] := by
  intro h
  simp only [List.mem_cons, List.not_mem_nil, or_false] at h
  rcases h with h | h | h
  · exact h1 h
  · exact h2 h
  · exact h3 h
theorem val_at3 {α : Type} {a b c v : α} {i : Nat} (h : [a, b, c][i]? = some v) : i < 3 := by
  have := (List.getElem?_eq_some_iff.mp h).1
  simpa using this
theorem mv_out {d a : Addr × Obj} {R X T : List (Addr × Obj)} : ∀ p ∈ d :: a :: (R ++ (T ++ X)), p ∈ d :: a :: (R ++ (X ++ T)) := mem_blk [[d], [a], R, X, T] [0, 1, 2, 4, 3] [0, 1, 2, 3, 4] (by decide)
theorem led_far {C : Addr} {x : Lx} {y : Ls} (h : x.Ord) (h1 : @LT.lt Nat _ x.cTx x.c1) (h2 : @LT.lt Nat _ x.cTx x.c2) {d : Nat} (hd : @LT.lt Nat _ d x.cTx) : ∀ p ∈ x.led C y, @Ne Nat p.1 d := by
  obtain ⟨q1, q2, q3, q4, q5, q6, q7, q8, q9, q10, q11⟩ := led_ne h h1 h2 hd
  intro p hp
  simp at hp
  rcases hp with rfl | rfl | rfl | rfl | rfl | rfl | rfl | rfl | rfl | rfl | rfl <;> first | exact q1 | exact q2 | exact q3 | exact q4 | exact q5 | exact q6 | exact q7 | exact q8 | exact q9 | exact q10 | exact q11
theorem strs_len {vs : List Value} {ys : List Str} (h : StrsAre vs ys) : vs.length = ys.length := by
  induction h with
  | nil => rfl
  | cons _ _ _ ih => rw [List.length_cons, List.length_cons, ih]
theorem item_eol {prog : Program} {w : World} {A : Around} {E : Value → Shared → Prop} {s : Shared} {value slice : PySem.Expr} {l : Addr} {a b c u : Tok} {e : Nat} {Q : Value → Shared → Prop} (hl : s.heap.IsList l #[.str (Str.ofString "\n") a, .str (Str.ofString "\r") b, .str (Str.ofString "\r\n") c]) (he : e ≤ 2)
    (h : ∀ B tB, lst B = eolL e → B.length ≤ 2 → Q (.str B tB) s) (hs : subscripted slice false (.ref l) (.int (e : Int) u) = operate [.ref l, .int (e : Int) u] (getItem (.ref l) (.int (e : Int) u)) := by with_unfolding_all rfl) :
    wpAny (model prog w) A (subscriptTail value slice (.ref l) (.int (e : Int) u)) Q E s := by
  have key : ∀ B tB, [Value.str (Str.ofString "\n") a, .str (Str.ofString "\r") b, .str (Str.ofString "\r\n") c][e]? = some (.str B tB) → lst B = eolL e → B.length ≤ 2 → wpAny (model prog w) A (subscriptTail value slice (.ref l) (.int (e : Int) u)) Q E s := fun B tB h1 h2 h3 =>
    itemV_at (vs := [.str (Str.ofString "\n") a, .str (Str.ofString "\r") b, .str (Str.ofString "\r\n") c]) hl (Int.natCast_nonneg _) (by (first | lia | omega)) (by rw [Int.toNat_natCast]; exact h1) (h B tB h2 h3) hs
  rcases (show e = 0 ∨ e = 1 ∨ e = 2 by (first | lia | omega)) with rfl | rfl | rfl
  · exact key _ _ rfl lst_nl (by decide +kernel)
  · exact key _ _ rfl lst_cr (by decide +kernel)
  · exact key _ _ rfl lst_cl (by decide +kernel)
theorem mul_dots1 {prog : Program} {w : World} {A : Around} {E : Value → Shared → Prop} {s : Shared} {m : Nat} {i : Int} {t u : Tok} {Q : Value → Shared → Prop} (hm : m ≤ 5) (hi : i = m) (h : ∀ B t' k', lst B = List.replicate m 46 → B.length ≤ 5 → Q (.str B t') { s with toks := k' }) : wpAny (model prog w) A (binaryOp .Mult (.str (Str.ofString ".") t) (.int i u)) Q E s := by
  refine SB.mul (mulOk_of 16 1048576 (by decide) (by (first | lia | omega)) (by (first | lia | omega)) (by decide) (by decide)) ?_
  intro t' k'
  have e : lst (Txt.mul (Str.ofString ".") i) = List.replicate m 46 := by rw [lst_mul1 (c := 46) (by decide +kernel), hi]; simp
  exact h _ t' k' e (by rw [len_lst, e, List.length_replicate]; exact hm)
theorem tok_join {hp : Nat} {z : Int} {B : Str} (h : lst B = List.replicate (mvD hp z) 46) : B ++ tailS z = ⟨(tk1 hp z).toArray⟩ := by
  refine str_ext ?_
  rw [lst_append, h, lst_mk, tk1_eq]
theorem toks_at {hp : Nat} {z0 z1 z2 : Int} {i : Nat} {ys : List Value} {B : Str} {t : Tok} (h : i < 3) (hB : B = ⟨(tk1 hp ([z0, z1, z2].getD i 0)).toArray⟩) (hP : StrsAre ys ((tokL (wdsN hp [z0, z1, z2])).take i)) : StrsAre (ys ++ [.str B t]) ((tokL (wdsN hp [z0, z1, z2])).take (i + 1)) := by
  subst hB
  rw [toks_three] at hP ⊢
  rcases (show i = 0 ∨ i = 1 ∨ i = 2 by (first | lia | omega)) with rfl | rfl | rfl <;> exact strs_snoc hP
theorem toks_end {hp : Nat} {z0 z1 z2 : Int} {ys : List Value} {t : Tok} (hP : StrsAre ys ((tokL (wdsN hp [z0, z1, z2])).take 3)) : StrsAre (ys ++ [.str (Str.ofString "") t]) (tokL (wdsN hp [z0, z1, z2])) := by
  rw [toks_three] at hP ⊢
  exact strs_snocE ofEmpty hP
theorem mv_mem {a b c d e1 e2 e3 e4 e5 e6 e7 w0 w1 w2 q m0 m1 m2 : Addr × Obj} {X : List (Addr × Obj)} (h : q ∈ [m0, m1, m2]) : q ∈ a :: b :: c :: d :: e1 :: e2 :: e3 :: e4 :: e5 :: e6 :: e7 :: w0 :: w1 :: w2 :: m0 :: m1 :: m2 :: X := by
  have e : q ∈ [a, b, c, d, e1, e2, e3, e4, e5, e6, e7, w0, w1, w2] ++ ([m0, m1, m2] ++ X) := List.mem_append_right _ (List.mem_append_left _ h)
  exact e
theorem mv_pick {a1 a2 a3 d h t w c7 c6 c5 c4 c3 c2 c1 w0 w1 w2 m0 m1 m2 : Addr × Obj} {X : List (Addr × Obj)} : ∀ p ∈ d :: h :: t :: c7 :: c6 :: c5 :: c4 :: m0 :: m1 :: m2 :: X, p ∈ a1 :: a2 :: a3 :: d :: h :: t :: w :: c7 :: c6 :: c5 :: c4 :: c3 :: c2 :: c1 :: w0 :: w1 :: w2 :: m0 :: m1 :: m2 :: X :=
  mem_blk [[a1, a2, a3], [d, h, t], [w], [c7, c6, c5, c4], [c3, c2, c1, w0, w1, w2], [m0, m1, m2], X] [1, 3, 5, 6] [0, 1, 2, 3, 4, 5, 6] (by decide)
theorem ite_ff {P Q : Prop} (h : Q) : if false = true then P else Q := by simpa using h
theorem two_more {h₀ h : Heap} {L : Addr} {a b : Addr × Obj} {R : List (Addr × Obj)} (N : News h₀ L h R) (ha : a ∈ R) (hb : b ∈ R) : News h₀ L h (a :: b :: R) := fun p hp => by
  rcases List.mem_cons.mp hp with rfl | hp
  · exact N _ ha
  rcases List.mem_cons.mp hp with rfl | hp
  · exact N _ hb
  · exact N _ hp
theorem due_mem {q m0 m1 m2 : Addr × Obj} {as X : List (Addr × Obj)} (h : q ∈ [m0, m1, m2]) : q ∈ as ++ (m0 :: m1 :: m2 :: X) := List.mem_append_right _ (List.mem_append_left (as := [m0, m1, m2]) X h)
theorem due_is (hp : Nat) (zs : List Int) (a b : Nat) : ((lev (List.replicate (mvD hp (zs.getD a 0)) 46 ++ lst (tailS (zs.getD a 0))) (List.replicate (mvD hp (zs.getD b 0)) 46 ++ lst (tailS (zs.getD b 0))) : Nat) : Int) = dueN hp zs (a, b) := by
  unfold dueN; rw [tk1_eq, tk1_eq]
theorem due_pre {hp : Nat} (h : hp ≤ 3) (z z' : Int) : mvD hp z ≤ 8 ∧ mvD hp z' ≤ 8 ∧ (lst (tailS z)).length ≤ 3 ∧ (lst (tailS z')).length ≤ 3 ∧ (∀ c ∈ lst (tailS z), c ∈ sgs) ∧ ∀ c ∈ lst (tailS z'), c ∈ sgs := by
  have h1 := mvD_le (hp := hp) z h
  have h2 := mvD_le (hp := hp) z' h
  exact ⟨by (first | lia | omega), by (first | lia | omega), (tail_ok z).1, (tail_ok z').1, (tail_ok z).2.1, (tail_ok z').2.1⟩
theorem tk_str {hp : Nat} (h : hp ≤ 3) (z : Int) : (⟨(tk1 hp z).toArray⟩ : Str).length ≤ 40 := by
  have := tk1_len z h
  rw [len_lst, lst_mk]; (first | lia | omega)
theorem far_eq {hp : Nat} (h : hp ≤ 3) {zs : List Int} {a b : Nat} {r : Int} (hl : LevOk ⟨(tk1 hp (zs.getD a 0)).toArray⟩ ⟨(tk1 hp (zs.getD b 0)).toArray⟩ 99 r) : r = dueN hp zs (a, b) := by
  have := far_is hl (by rw [lst_mk]; exact tk1_len _ h) (by rw [lst_mk]; exact tk1_len _ h)
  rw [this, lst_mk, lst_mk]; rfl
theorem near_eq {hp : Nat} {zs : List Int} {a b : Nat} {bd : Int} {r k : Int} (hl : LevOk ⟨(tk1 hp (zs.getD b 0)).toArray⟩ ⟨(tk1 hp (zs.getD a 0)).toArray⟩ bd r) (hk : k = min r (bd + 1)) : k = min (dueN hp zs (a, b)) (bd + 1) := by
  rw [hk, near_is hl, lst_mk, lst_mk]; rfl
theorem min2_N {prog : Program} {w : World} {A : Around} {E : Value → Shared → Prop} {s : Shared} {h₀ : Heap} {L : Addr} {m : Str → Option Value} {news : List (Addr × Obj)} {a b : Int} {t u : Tok} {Q : Value → Shared → Prop} (hh : A.handled = none) (F : Fr h₀ L s.heap m) (N : News h₀ L s.heap news)
    (h : ∀ k t' h' tk, k = min a b → Fr h₀ L h' m → News h₀ L h' news → Q (.int k t') { s with heap := h', toks := tk }) : wpAny (model prog w) A (call (.builtin "min") [.int a t, .int b u]) Q E s := by
  refine min_two_ints hh fun h' tk hk => ?_
  have F' := F.keeps hk
  have N' : News h₀ L h' news := fun p hp => ⟨hk _ _ (N p hp).1, (N p hp).2⟩
  split <;> exact h _ _ h' tk (by (first | lia | omega)) F' N'
theorem mv_move {d l p2 p1 p0 : Addr × Obj} {R : List (Addr × Obj)} : ∀ p ∈ l :: p2 :: p1 :: p0 :: d :: R, p ∈ d :: l :: p2 :: p1 :: p0 :: R := mem_blk [[d], [l, p2, p1, p0], R] [1, 0, 2] [0, 1, 2] (by decide)
theorem line_end {ws : List Wd} (hwok : ∀ w ∈ ws, w.ok) (hwn : ws.length = 3) {ln : Int} (h : ln + nls (restS ws 4) = 1 + nls (restS ws 0)) : ln = 4 := by
  have hn3 : nls (restS ws 0) = (3 : Int) := by
    show nls (restR ws 0) = _
    rw [nls_rest hwok 0, hwn]; simp
  have hn0 : nls (restS ws 4) = (0 : Int) := by
    unfold restS
    rw [if_neg (by (first | lia | omega))]; rfl
  rw [hn3, hn0] at h
  (first | lia | omega)
theorem eq_int4 {prog : Program} {w : World} {A : Around} {E : Value → Shared → Prop} {s : Shared} {ln : Int} {t u : Tok} {Q : Value → Shared → Prop} (h : ln = 4) (hq : Q (.bool true) s) : wpAny (model prog w) A (compareOp .Eq (.int ln t) (.int 4 u)) Q E s := by
  subst h
  exact PySem.IsLeap.wpAny_eq_int' hq
theorem ite_tt {P Q : Prop} (h : P) : if true = true then P else Q := by simpa using h
theorem eq_ints_same {prog : Program} {w : World} {A : Around} {E : Value → Shared → Prop} {s : Shared} {a b : Addr} {xs ys : List Value} {ns ms : List Int} {Q : Value → Shared → Prop} (ha : s.heap.IsList a xs.toArray) (hb : s.heap.IsList b ys.toArray) (hi : IntsAre xs ns) (hj : IntsAre ys ms) (e : ns = ms) (hu : A.units + 64 < cLine) (h : Q (.bool true) s) :
    wpAny (model prog w) A (compareOp .Eq (.ref a) (.ref b)) Q E s := by
  subst e
  refine ke_eq_ints ha hb hi hj hu ?_
  rw [decide_eq_true rfl]
  exact h
/-- the prices at the bound -/
theorem price_step {dl : List Int} {ys : List Value} {bd : Int} {i : Nat} {y k : Int} {t : Tok} (hy : dl[i]? = some y) (hk : k = min y (bd + 1)) (h : IntsAre ys ((dl.take i).map fun p => min p (bd + 1))) : IntsAre (ys ++ [.int k t]) ((dl.take (i + 1)).map fun p => min p (bd + 1)) := by
  rw [List.take_add_one, hy, List.map_append]
  exact ints_snocE hk h
/-! inequalities of addresses, told once -/
theorem ol1 {k a : Nat} (h : @LT.lt Nat _ k a) : @Ne Nat (a + 1) k := by (first | lia | omega)
theorem ol2 {k a : Nat} (h : @LT.lt Nat _ k a) : @Ne Nat (a + 1 + 1) k := by (first | lia | omega)
theorem ol3 {k a : Nat} (h : @LT.lt Nat _ k a) : @Ne Nat (a + 1 + 1 + 1) k := by (first | lia | omega)
theorem ol4 {k a : Nat} (h : @LT.lt Nat _ k a) : @Ne Nat (a + 1 + 1 + 1 + 1) k := by (first | lia | omega)
theorem ol5 {k a : Nat} (h : @LT.lt Nat _ k a) : @Ne Nat (a + 1 + 1 + 1 + 1 + 1) k := by (first | lia | omega)
theorem ol6 {k a : Nat} (h : @LT.lt Nat _ k a) : @Ne Nat (a + 1 + 1 + 1 + 1 + 1 + 1) k := by (first | lia | omega)
theorem ol7 {k a : Nat} (h : @LT.lt Nat _ k a) : @Ne Nat (a + 1 + 1 + 1 + 1 + 1 + 1 + 1) k := by (first | lia | omega)
theorem hi_lo {w k a : Nat} (h : @LT.lt Nat _ k a) (h2 : @LT.lt Nat _ (a + 1 + 1 + 1 + 1 + 1 + 1 + 1) w) : @Ne Nat w k := by (first | lia | omega)
/-- the end of a walk by a name: the walk's terms stay small -/
theorem abs_post {α : Type} {prog : Program} {w : World} {A : Around} {t : Sem α} {Q : α → Shared → Prop} {E : Value → Shared → Prop} {s : Shared} (h : ∀ (Q' : α → Shared → Prop) (E' : Value → Shared → Prop), (∀ v s', Q v s' → Q' v s') → (∀ e s', E e s' → E' e s') → wpAny (model prog w) A t Q' E' s) : wpAny (model prog w) A t Q E s :=
  h Q E (fun _ _ h => h) (fun _ _ h => h)
end Mine
end
section
theorem Mine.forget_Lw1 : True := by
  w_top off
  trivial
open PySem PySem.W PyProof.Rows PySem.Calls PySem.Spec
set_option maxRecDepth 100000
set_option maxHeartbeats 200000000
namespace Mine
/-- where it stands in the context remainders are told by % -/
structure HoldMod : Prop where
/-- where it stands in the context products of texts are held -/
structure HoldMul : Prop where
theorem outMod {P : Prop} (h : Held P) (_m : HoldMod := by assumption) : P := Held.out h
theorem outMul {P : Prop} (h : Held P) (_m : HoldMul := by assumption) : P := Held.out h
theorem outOff {P : Prop} (h : Held P) (_m : HoldOff := by assumption) : P := Held.out h
local macro_rules | `(tactic| k_all) => `(tactic| first | assumption | exact allLt_ne0)
local macro_rules | `(tactic| walk_at "call builtin:len") => `(tactic| (refine Held.out ?_))
local macro_rules | `(tactic| walk_at "subscriptTail List cons Slice ref ref") => `(tactic| (refine Held.out ?_))
local macro_rules | `(tactic| walk_at "subscriptTail Name Name ref int") => `(tactic| (refine Held.out ?_))
local macro_rules | `(tactic| walk_at "binaryOp Pow int int") => `(tactic| (refine Held.out ?_))
local macro_rules | `(tactic| walk_at "exec Assign cons ListComp") => `(tactic| (refine Held.out ?_))
local macro_rules | `(tactic| walk_at "binaryOp Mod int int") => `(tactic| (refine outMod ?_))
local macro_rules | `(tactic| walk_at "binaryOp FloorDiv int int") => `(tactic| (refine outMod ?_))
local macro_rules | `(tactic| walk_at "call builtin:str.join") => `(tactic| (refine Held.out ?_))
local macro_rules | `(tactic| walk_at "SrcLP") => `(tactic| (refine Held.out ?_))
local macro_rules | `(tactic| walk_at "binaryOp Mult str int") => `(tactic| (refine outMul ?_))
local macro_rules | `(tactic| walk_at "binaryOp Add ref ref") => `(tactic| (refine outMul ?_))
local macro_rules | `(tactic| walk_at "call builtin:min") => `(tactic| (refine Held.out ?_))
local macro_rules | `(tactic| walk_at "compareOp Eq int int") => `(tactic| (refine outMul ?_))
local macro_rules | `(tactic| walk_at "subscriptTail List cons BinOp ref int") => `(tactic| (refine Held.out ?_))
local macro_rules | `(tactic| walk_at "call ref") => `(tactic| (refine Held.out ?_))
local macro_rules | `(tactic| walk_at "compareOp NotEq ref ref") => `(tactic| (refine Held.out ?_))
local macro_rules | `(tactic| walk_at "compareOp Eq ref ref") => `(tactic| (refine Held.out ?_))
local macro_rules | `(tactic| walk_at "subscriptTail Name Slice ref ref") => `(tactic| (refine outMod ?_))
local macro_rules | `(tactic| walk_at "CompSrc") => `(tactic| (refine outOff ?_))
local macro_rules | `(tactic| walk_at "CompEnd") => `(tactic| (refine outOff ?_))
theorem law1 : PySem.Challenge.rw_pe0114_01.Holds := hd (by
  k_go0
  all_goals (try k_fold)
  rename_i ww sh0 sh1 mg mb G Y fa oo pm cd doc ho' hcd hg X V T B TE TW ns hs hlay0 hL1 hr1 hl2 w7 w6 scr svs w3 hL ra w1 r0 hI hr hc1 hc2 hDf h1_ tk1_ o7 o6 o5 o4 o3 o2 o1 ho7 ho6 ho5 ho4 ho3 ho2 ho1 X0 X1 T1 K1 F1 N1 l0
  have hsz : @LT.lt Nat _ 113 sh1.heap.objs.size := by (first | lia | omega)
  refine abs_post ?_
  intro Qz Ez hQz hEz
  k_steps
  refine Held.put ?_
  (rename News _ _ _ _ => nX); (rename IntsAre _ _ => iX)
  k_dflt (refine len_ints nX (by k_mem) iX (by (first | lia | omega)) ?_)
  intro t9 k9
  k_steps
  refine Held.put ?_
  k_dflt (refine' slice_tmp ?xF ?xN ?xl ?xi ?x0 ?_ ?xs ?xz; (case xF => k_asm); (case xN => k_asm); (case xl => kmk_list); (case xi => exact (.cons _ _ (.cons _ _ (.cons _ _ (.cons _ _ .nil))))); (case x0 => exact Int.natCast_nonneg _); (case xs => with_unfolding_all rfl); (case xz => kmk_size))
  intro D29 ws29 h29 F29 N29 l29 hI29
  (try k_lt l29)
  k_steps
  refine Held.put ?_
  rename IntsAre _ (List.map _ (List.take 4 _) ++ _) => hIr
  obtain ⟨z0, z1, z2, hw, t0, t1, t2, t3, rfl, hdr⟩ := draws_of4 hIr
  clear hIr
  have hIr : IntsAre [Value.int z0 t0, .int z1 t1, .int z2 t2, .int hw t3] [z0, z1, z2, hw] := .cons _ _ (.cons _ _ (.cons _ _ (.cons _ _ .nil)))
  have ho : HoldOff := ⟨⟩
  refine wpAny_Assign_Name ?_ (by with_unfolding_all rfl)
  (rename Fr _ _ _ _ => fX)
  k_dflt (refine LCg.ListComp_U (F₀ := by k_asm) (by with_unfolding_all rfl) (by decide) (by rfl) (by decide) (by rfl) ?_)
  k_steps
  refine Held.put ?_
  (rename News _ _ _ _ => nX); (rename Fr _ _ _ _ => fX)
  have nB : News _ _ _ _ := fun p hp => nX p (lw_pick1 p hp)
  clear nX
  obtain ⟨B0, hB0⟩ := ex_eq2 ([(sh1.heap.objs.size + 1 + 1 + 1 + 1 + 1 + 1 + 1, o7), (sh1.heap.objs.size + 1 + 1 + 1 + 1 + 1 + 1, o6), (sh1.heap.objs.size + 1 + 1 + 1 + 1 + 1, o5), (sh1.heap.objs.size + 1 + 1 + 1 + 1, o4), (sh1.heap.objs.size + 1 + 1 + 1, o3), (sh1.heap.objs.size + 1 + 1, o2), (sh1.heap.objs.size + 1, o1), (113, tabObj #[])] : List (Addr × Obj))
  rw [hB0] at nB
  have nB4 := nB
  rw [← List.append_nil B0] at nB4
  refine LCg.CompSrc.ledger rfl fX nB4 (.head _) (by show 3 ≤ _; rw [PySem.sizeLine_eq]; decide) fun g1 => ?_
  refine comp_all (σ := List (Addr × Obj)) (fun c => _ :: _ :: (B0 ++ c)) (fun i (c : List (Addr × Obj)) ys => c.length = i ∧ ys = c.map (fun q => Value.ref q.1) ∧ (∀ q ∈ c, ∀ p ∈ B0, @LT.lt Nat _ p.1 q.1) ∧ ∀ (j : Nat) (q : Addr × Obj) (z : Int), c[j]? = some q → [z0, z1, z2][j]? = some z → WdIs z q.2) [] ⟨rfl, rfl, (fun q hq => nomatch hq), fun j q z hq => by simp at hq⟩ ?turn1 ?fin1
  case turn1 =>
    --{
    clear nB nB4 fX
    intro i c ys v I oI C oC D m₂ h tk E' hi hP hv hC hx F' N' off ne
    obtain ⟨hcl, hys, hcb, hcw⟩ := hP
    have hIr3 : IntsAre [Value.int z0 t0, .int z1 t1, .int z2 t2] [z0, z1, z2] := .cons _ _ (.cons _ _ (.cons _ _ .nil))
    have hv' : [Value.int z0 t0, .int z1 t1, .int z2 t2][i]? = some v := by simpa using hv
    obtain ⟨z, tz, hz, rfl⟩ := ints_at hIr3 hv'
    have hzb : 0 ≤ z ∧ z < 3888 := hdr z (by
      have := List.mem_of_getElem? hz
      simp only [List.mem_cons, List.not_mem_nil, or_false] at this ⊢
      rcases this with h | h | h <;> simp [h])
    clear hv hv' hIr3
    rw [← hB0] at N'
    dsimp only [List.cons_append, List.nil_append] at N'
    k_steps
    refine Held.put ?_
    (rename News _ _ _ _ => nX)
    k_dflt (refine' ctr_use (word_ctr _ _ _ _ _ _ (fun h => CodeHd h 117 113) _ z _) codeHd ?k1 ?k2 ?k3 nX ?k5 ?kK ?kp ?kd ?ku ?_; (case k1 => k_asm); (case k2 => k_asm); (case k3 => k_asm); (case k5 => k_asm); (case kK => first | exact rfl | assumption); (case kd => ktr_room); (case ku => ktr_units))
    case kp => exact hzb
    clear nX
    intro v6 nw6 h6 tk6 hr6 F6 N6
    obtain ⟨D1, ta, tb, tc, rfl, hD1, rfl⟩ := hr6
    k_steps
    refine Held.put ?_
    have N7 := lw_fold hB0 N6
    have hD1' : ∀ q ∈ (I, oI) :: (C, oC) :: (D, LCg.lst ys) :: _ :: _ :: (B0 ++ c), @LT.lt Nat _ q.1 D1 := fun q hq => hD1 q (by rw [← hB0] at hq; exact hq)
    refine LCg.CompEnd.intro F6 N7 (_ :: _ :: (B0 ++ (c ++ [(D1, _)]))) lw_in ?off1 (.inr ⟨_, .head _, rfl, _, rfl⟩) ⟨c ++ [(D1, _)], rfl, by rw [List.length_append, hcl]; rfl, by rw [hys, List.map_append]; rfl, ?_, ?_⟩
    case off1 =>
      refine LCg.Off3.of fun p hp => ?_
      rw [← List.append_assoc, ← List.cons_append, ← List.cons_append] at hp
      rcases List.mem_append.mp hp with hp | hp
      · exact off.mem p hp
      · rw [List.mem_singleton.mp hp]
        exact ⟨Nat.ne_of_gt (hD1' (I, oI) (.head _)), Nat.ne_of_gt (hD1' (C, oC) (.tail _ (.head _))), Nat.ne_of_gt (hD1' (D, LCg.lst ys) (.tail _ (.tail _ (.head _))))⟩
    · intro q hq p hp
      rcases List.mem_append.mp hq with hq | hq
      · exact hcb q hq p hp
      · rw [List.mem_singleton.mp hq]
        exact hD1' p (.tail _ (.tail _ (.tail _ (.tail _ (.tail _ (List.mem_append_left _ hp))))))
    · intro j q z' hj hz'
      rcases Nat.lt_or_ge j c.length with h | h
      · rw [List.getElem?_append_left h] at hj
        exact hcw j q z' hj hz'
      · rw [List.getElem?_append_right h, hcl] at hj
        have hj0 : j = i := by
          rcases Nat.lt_or_ge (j - i) 1 with h2 | h2
          · (first | lia | omega)
          · rw [List.getElem?_eq_none (by simpa using h2)] at hj; cases hj
        subst hj0
        rw [Nat.sub_self] at hj
        cases hj
        rw [hz] at hz'
        cases hz'
        exact ⟨ta, tb, tc, by rw [dot_int hzb.1]⟩
    --}
  case fin1 =>
  intro c ys hP Dw hw9 tkw9 Fw9 Nw9 ow9
  obtain ⟨hcl, hys, hcb, hcw⟩ := hP
  clear nB nB4 fX
  have hcl3 : c.length = 3 := hcl
  clear hcl
  obtain ⟨q0, q1, q2, hc3⟩ := three_ofL hcl3
  subst hc3
  obtain ⟨W0, p0⟩ := q0
  obtain ⟨W1, p1⟩ := q1
  obtain ⟨W2, p2⟩ := q2
  have eW0 : WdIs z0 p0 := hcw 0 _ _ rfl rfl
  have eW1 : WdIs z1 p1 := hcw 1 _ _ rfl rfl
  have eW2 : WdIs z2 p2 := hcw 2 _ _ rfl rfl
  have b0 := hcb (W0, _) (.head _)
  have b1 := hcb (W1, _) (.tail _ (.head _))
  have b2 := hcb (W2, _) (.tail _ (.tail _ (.head _)))
  subst hys
  clear hcw hcb hcl3
  have w0 : @LT.lt Nat _ (sh1.heap.objs.size + 1 + 1 + 1 + 1 + 1 + 1 + 1) W0 := b0 (_, o7) (by rw [← hB0]; exact .head _)
  have w1 : @LT.lt Nat _ (sh1.heap.objs.size + 1 + 1 + 1 + 1 + 1 + 1 + 1) W1 := b1 (_, o7) (by rw [← hB0]; exact .head _)
  have w2 : @LT.lt Nat _ (sh1.heap.objs.size + 1 + 1 + 1 + 1 + 1 + 1 + 1) W2 := b2 (_, o7) (by rw [← hB0]; exact .head _)
  have hoD := off1_mem ow9
  rw [← hB0] at Nw9 hoD
  have v7 : @Ne Nat Dw (sh1.heap.objs.size + 1 + 1 + 1 + 1 + 1 + 1 + 1) := Ne.symm (hoD _ (.tail _ (.tail _ (List.mem_append_left _ (.head _)))))
  have v6 : @Ne Nat Dw (sh1.heap.objs.size + 1 + 1 + 1 + 1 + 1 + 1) := Ne.symm (hoD _ (.tail _ (.tail _ (List.mem_append_left _ (.tail _ (.head _))))))
  have v5 : @Ne Nat Dw (sh1.heap.objs.size + 1 + 1 + 1 + 1 + 1) := Ne.symm (hoD _ (.tail _ (.tail _ (List.mem_append_left _ (.tail _ (.tail _ (.head _)))))))
  have v4 : @Ne Nat Dw (sh1.heap.objs.size + 1 + 1 + 1 + 1) := Ne.symm (hoD _ (.tail _ (.tail _ (List.mem_append_left _ (.tail _ (.tail _ (.tail _ (.head _))))))))
  have v3 : @Ne Nat Dw (sh1.heap.objs.size + 1 + 1 + 1) := Ne.symm (hoD _ (.tail _ (.tail _ (List.mem_append_left _ (.tail _ (.tail _ (.tail _ (.tail _ (.head _)))))))))
  have v2 : @Ne Nat Dw (sh1.heap.objs.size + 1 + 1) := Ne.symm (hoD _ (.tail _ (.tail _ (List.mem_append_left _ (.tail _ (.tail _ (.tail _ (.tail _ (.tail _ (.head _))))))))))
  have v1 : @Ne Nat Dw (sh1.heap.objs.size + 1) := Ne.symm (hoD _ (.tail _ (.tail _ (List.mem_append_left _ (.tail _ (.tail _ (.tail _ (.tail _ (.tail _ (.tail _ (.head _)))))))))))
  have v0 : @Ne Nat Dw 113 := Ne.symm (hoD _ (.tail _ (.tail _ (List.mem_append_left _ (.tail _ (.tail _ (.tail _ (.tail _ (.tail _ (.tail _ (.tail _ (.head _))))))))))))
  clear hoD ow9 b0 b1 b2
  dsimp only [List.cons_append, List.nil_append, List.map_cons, List.map_nil] at Nw9
  obtain ⟨hp, hhp, hp1, hp3⟩ : ∃ h : Nat, 1 + ([z0, z1, z2, hw].getD (Int.toNat 3) 0).fmod 3 = (h : Int) ∧ 1 ≤ h ∧ h ≤ 3 := by
    have e : [z0, z1, z2, hw].getD (Int.toNat 3) 0 = hw := rfl
    rw [e, Int.fmod_eq_emod_of_nonneg _ (by decide)]
    exact ⟨(1 + hw % 3).toNat, by (first | lia | omega), by (first | lia | omega), by (first | lia | omega)⟩
  obtain ⟨bd, hbd, hbd1⟩ : ∃ h : Nat, (([z0, z1, z2, hw].getD (Int.toNat 3) 0).fdiv 81).fmod 12 = (h : Int) ∧ h ≤ 11 := by
    have e : [z0, z1, z2, hw].getD (Int.toNat 3) 0 = hw := rfl
    rw [e, Int.fmod_eq_emod_of_nonneg _ (by decide)]
    exact ⟨((hw.fdiv 81) % 12).toNat, by (first | lia | omega), by (first | lia | omega)⟩
  show wpAny _ _ (storeName _ _ _) _ _ _
  k_steps
  refine Held.put ?_
  rename_i hh3 cWd dWd tHw hh2 cHw dHw hh1 cHp dHp hh0 cBd nF nN dBd
  obtain ⟨tHp, dHp⟩ := cell_int dHp hhp
  obtain ⟨tBd, dBd⟩ := cell_int dBd hbd
  obtain ⟨tHw2, dHw⟩ := cell_int dHw (y := hw) rfl
  have hhw : 0 ≤ hw ∧ hw < 3888 := hdr hw (by simp)
  k_dflt (refine LCg.Assign_ListComp_U (F₀ := by k_asm) (by rfl) (by with_unfolding_all rfl) (by with_unfolding_all rfl) (by decide) (by rfl) (by decide) (by rfl) (by rfl) (by rfl) ?_)
  k_steps
  refine Held.put ?_
  (rename News _ _ _ _ => nX); (rename Fr _ _ _ _ => fX)
  have hz3 : ∀ z ∈ [z0, z1, z2], 0 ≤ z ∧ z < 3888 := fun z h => hdr z (by
    simp only [List.mem_cons, List.not_mem_nil, or_false] at h ⊢
    rcases h with h | h | h <;> simp [h])
  refine LCg.CompSrc.range (n := 3) rfl fX nX (by assumption) (small_one (by (first | lia | omega)) (by (first | lia | omega)) (by (first | lia | omega)) (by (first | lia | omega))) (rangeSize_nat _ _) (by rw [PySem.sizeLine_eq]; (first | lia | omega)) fun g2 => ?_
  refine comp_all (σ := Unit) (fun _ => _) (fun i _ ys => StrsAre ys ((List.range i).map fun k => (⟨(rowK [z0, z1, z2] hw k).toArray⟩ : Str))) () .nil ?turn2 ?fin2
  case turn2 =>
    --{
    clear nX fX
    intro i u0 ys v I oI C oC D m₂ h tk E' hi hP hv hC hx F' N' off ne
    obtain ⟨ti, rfl⟩ := hv
    obtain ⟨Wi, zi, ta, tb, tc, hWi, hzi, hmi⟩ := wd_at (W0 := W0) (W1 := W1) (W2 := W2) eW0 eW1 eW2 hi
    have hzb := hz3 zi (List.mem_of_getElem? hzi)
    obtain ⟨kk, hkk⟩ := ex_eq2 (0 + (i : Int))
    rw [hkk] at hx
    k_steps
    refine Held.put ?_
    (rename News _ _ _ _ => nX)
    have hk9 : kk.toNat = i := by (first | lia | omega)
    k_dflt (refine' itemV_at (vs := [.ref W0, .ref W1, .ref W2]) ?xl ?x0 ?x1 ?x2 ?_ ?xs; (case xl => exact nX.isList (by k_mem)); (case x0 => (first | lia | omega)); (case x1 => (first | lia | omega)); (case x2 => (rw [hk9]; exact hWi)); (case xs => with_unfolding_all rfl))
    have hm : HoldMod := ⟨⟩
    have htl := tail_ok zi
    have hdn := dotN_le zi
    k_steps
    refine Held.put ?_
    (rename News _ _ _ _ => nX)
    k_dflt (refine' ctr_use (row_ctr _ _ _ _ _ _ (fun h => CodeHd h 117 113) _ Wi (dotN zi) (zi / 3 % 2) (tailS zi) ta tb tc) codeHd ?k1 ?k2 ?k3 nX ?k5 ?kK ?kp ?kd ?ku ?_; (case k1 => k_asm); (case k2 => k_asm); (case k3 => k_asm); (case k5 => k_asm); (case kK => first | exact rfl | assumption); (case kd => ktr_room); (case ku => ktr_units))
    case kp => exact ⟨lw_mem (as := [_, _, _, _, _, _, _, _, _, _, _, _, _, _]) hmi, by (first | lia | omega), by (first | lia | omega), by (first | lia | omega), htl.1, htl.2.1⟩
    clear nX
    intro v6 nw6 h6 tk6 hr6 F6 N6
    obtain ⟨⟨td, rfl⟩, rfl⟩ := hr6
    have hbody : bodyL (decide ((dotN zi : Int) ≠ 0 ∧ zi / 3 % 2 ≠ 0)) (dotN zi) (lst (tailS zi)) = (wdZ zi).body := by rw [htl.2.2]; rfl
    obtain ⟨bw, hbw⟩ := ex_eq2 (wdZ zi).body
    have hbl : bw.length ≤ 20 := by
      rw [← hbw]
      have h1 := body_len (wdZ zi)
      have h2 : (wdZ zi).2.1 ≤ 2 := hdn
      have h3 : (wdZ zi).2.2.length ≤ 3 := by rw [show (wdZ zi).2.2 = tailL zi from rfl, ← htl.2.2]; exact htl.1
      (first | lia | omega)
    rw [hbody, hbw]
    have hbS : (⟨bw.toArray⟩ : Str).length ≤ 20 := by rw [len_lst, lst_mk]; exact hbl
    have hpw := pow3 (show i ≤ 2 by (first | lia | omega))
    k_steps
    refine Held.put ?_
    refine powN (V := 3 ^ (i + 1)) (by decide) (by decide) (by (first | lia | omega)) (by (first | lia | omega)) (by congr 1; (first | lia | omega)) ?_
    intro te
    k_steps
    refine Held.put ?_
    refine fdivN (V := hw / 3 ^ (i + 1)) hpw.1 hpw.2 rfl ?_
    intro tf
    k_steps
    refine Held.put ?_
    obtain ⟨e, he, he2⟩ : ∃ e : Nat, hw / 3 ^ (i + 1) % 3 = (e : Int) ∧ e ≤ 2 := ⟨(hw / 3 ^ (i + 1) % 3).toNat, by (first | lia | omega), by (first | lia | omega)⟩
    refine modN (V := (e : Int)) (by decide) he ?_ (by decide)
    intro tg
    k_steps
    refine Held.put ?_
    (rename News _ _ _ _ => nX)
    refine item_eol (nX.isList (by k_mem)) he2 ?_
    intro B tB hB hB3
    k_steps
    refine Held.put ?_
    (rename News _ _ _ _ => nX); (rename Fr _ _ _ _ => fX)
    refine LCg.CompEnd.intro fX nX _ (fun p hp => .tail _ hp) off trivial ⟨(), rfl, ?_⟩
    exact strs_to range_snoc (strs_snocE (rowK_close hzi hbw he hB) hP)
    --}
  case fin2 =>
  intro u0 ys hP Dr hr9 tkr9 Fr9 Nr9 or9
  have hRows : ∀ _ : Unit, StrsAre ys [(⟨(rowK [z0, z1, z2] hw 0).toArray⟩ : Str), ⟨(rowK [z0, z1, z2] hw 1).toArray⟩, ⟨(rowK [z0, z1, z2] hw 2).toArray⟩] := fun _ => hP
  have hoR := off1_mem or9
  clear nX fX hP or9
  k_steps
  refine Held.put ?_
  obtain ⟨l, el, hl⟩ := strs_values (hRows ())
  subst el
  have hrl := rows_len z0 z1 z2 hw
  (rename News _ _ _ _ => nX)
  refine wp_joinE ofEmpty ((nX (_, LCg.lst (strValues l)) (by k_mem)).1) (by rw [cat_rows3 hl, PySem.sizeLine_eq]; (first | lia | omega)) ?_
  intro tv k'
  rw [cat_rows3 hl]
  obtain ⟨Wt, hWt⟩ := ex_eq2 (rowsT ((wds1 z0 z1 z2 hw).map fun w => (w.1.body, w.2)))
  have hsent := sent_text1 (hw := hw) hp1 hz3
  rw [hWt] at hrl hsent ⊢
  k_steps
  refine Held.put ?_
  (rename News _ _ _ _ => nX)
  k_dflt (refine' ctr_use (sent_ctr _ _ _ _ _ _ (fun h => CodeHd h 117 113) _ ⟨Wt.toArray⟩ _ hp _) codeHd ?k1 ?k2 ?k3 nX ?k5 ?kK ?kp ?kd ?ku ?_; (case k1 => k_asm); (case k2 => k_asm); (case k3 => k_asm); (case k5 => k_asm); (case kK => first | exact rfl | assumption); (case kd => ktr_room); (case ku => ktr_units))
  case kp => exact ⟨by rw [len_lst, lst_mk]; (first | lia | omega), hp3⟩
  clear nX
  intro v5 nw5 h5 tk5 hr5 F5 N5
  obtain ⟨⟨t5, hv5⟩, rfl⟩ := hr5
  rw [lst_mk, hsent] at hv5
  subst hv5
  k_steps
  refine Held.put ?_
  (rename News _ _ _ _ => nX)
  have N6 : News _ _ _ _ := fun p hp => nX p (lw_pick2 p hp)
  clear nX
  k_dflt (refine' ctr_use (lexer_ctr _ _ _ _ _ _ _ ⟨(rowsC ((wdsN hp [z0, z1, z2]).map Wd.body)).toArray⟩ _) codeHd ?k1 ?k2 ?k3 N6 ?k5 ?kK ?kp ?kd ?ku ?_; (case k1 => k_asm); (case k2 => k_asm); (case k3 => k_asm); (case k5 => k_asm); (case kK => first | exact rfl | assumption); (case kd => ktr_room); (case ku => ktr_units))
  case kp =>
    refine ⟨by rw [len_lst, lst_mk]; exact sent_len1 hp3, fun p hp => ?_⟩
    simp only [List.mem_cons, List.not_mem_nil, or_false] at hp
    rcases hp with rfl | rfl | rfl | rfl | rfl | rfl | rfl | rfl | rfl | rfl | rfl <;> first | exact v0 | exact ol1 hsz | exact ol2 hsz | exact ol3 hsz | exact ol4 hsz | exact ol5 hsz | exact ol6 hsz | exact ol7 hsz | exact hi_lo hsz w0 | exact hi_lo hsz w1 | exact hi_lo hsz w2 | exact Nat.ne_of_gt (by dsimp only; (first | lia | omega))
  clear N6
  intro v5 nw5 h5 tk5 hr5 F5 N5
  obtain ⟨x, xtp, xtl, xea, xep, _, _, rfl, hOrd, hRd, hxl, _, _, hcc, _, rfl⟩ := hr5
  have hx5 : @LT.lt Nat _ (sh1.heap.objs.size + 1 + 1 + 1 + 1 + 1) x.cTx := hxl _ (.tail _ (.tail _ (.tail _ (.tail _ (.head _)))))
  dsimp only [List.cons_append, List.nil_append] at N5
  have hcl := hcc rfl
  obtain ⟨q1, q2, q3, q4, q5, q6, q7, q8, q9, q10, q11⟩ := led_ne hOrd hcl.1 hcl.2 hx5
  k_steps
  refine Held.put ?_
  clear q1 q2 q3 q4 q5 q6 q7 q8 q9 q10 q11
  rename Obj => cL
  refine wpAny_Assign_Name ?_ (by with_unfolding_all rfl)
  (rename Fr _ _ _ _ => fX)
  k_dflt (refine LCg.ListComp_U (F₀ := by k_asm) (by with_unfolding_all rfl) (by decide) (by rfl) (by decide) (by rfl) ?_)
  k_steps
  refine Held.put ?_
  (rename News _ _ _ _ => nX); (rename Fr _ _ _ _ => fX)
  have hwok : ∀ w ∈ wdsN hp [z0, z1, z2], w.ok := fun w hw => by
    obtain ⟨z, _, rfl⟩ := List.mem_map.mp hw
    exact (wdZ_ok z).sent hp
  have hwn : (wdsN hp [z0, z1, z2]).length = 3 := rfl
  have hTL : (⟨(rowsC ((wdsN hp [z0, z1, z2]).map Wd.body)).toArray⟩ : Str).length ≤ 1000 := by rw [len_lst, lst_mk]; exact sent_len1 hp3
  have hlst : lst ⟨(rowsC ((wdsN hp [z0, z1, z2]).map Wd.body)).toArray⟩ = restS (wdsN hp [z0, z1, z2]) 0 := by rw [lst_mk]; rfl
  obtain ⟨TX, hTX⟩ := ex_eq2 (⟨(rowsC ((wdsN hp [z0, z1, z2]).map Wd.body)).toArray⟩ : Str)
  rw [hTX] at hTL hlst hRd
  obtain ⟨R0, hR0⟩ := ex_eq2 ([(113, tabObj (tabFull 0x6b 0x6f x.c1 x.c2)), (Dw, LCg.lst [Value.ref W0, Value.ref W1, Value.ref W2]), (sh1.heap.objs.size + 1 + 1 + 1 + 1 + 1 + 1 + 1, o7), (sh1.heap.objs.size + 1 + 1 + 1 + 1 + 1 + 1, o6), (sh1.heap.objs.size + 1 + 1 + 1 + 1 + 1, cL), (sh1.heap.objs.size + 1 + 1 + 1 + 1, cBd), (sh1.heap.objs.size + 1 + 1 + 1, cHp), (sh1.heap.objs.size + 1 + 1, cHw), (sh1.heap.objs.size + 1, cWd), (W0, p0), (W1, p1), (W2, p2)] : List (Addr × Obj))
  have hR0lt : ∀ q ∈ R0, @LT.lt Nat _ q.1 x.cTx := by rw [← hR0]; exact lt_adr hxl rfl
  obtain ⟨a1, a2, a3, a4, a5, a6, a7, a8, a9, a10⟩ := id hOrd
  have hAt : @LT.lt Nat _ x.cTx x.atL := Nat.lt_trans a1 a2
  have hDx : @LT.lt Nat _ x.cTx x.dx := Nat.lt_trans hAt (Nat.lt_trans a3 (Nat.lt_trans a5 (Nat.lt_trans a7 a8)))
  have nX' := nX
  change News _ _ _ (x.led 76 ⟨0, 1, #[], xtp, xea, xtl, xep⟩ ++ [(113, tabObj (tabFull 0x6b 0x6f x.c1 x.c2)), (Dw, LCg.lst [Value.ref W0, Value.ref W1, Value.ref W2]), (sh1.heap.objs.size + 1 + 1 + 1 + 1 + 1 + 1 + 1, o7), (sh1.heap.objs.size + 1 + 1 + 1 + 1 + 1 + 1, o6), (sh1.heap.objs.size + 1 + 1 + 1 + 1 + 1, cL), (sh1.heap.objs.size + 1 + 1 + 1 + 1, cBd), (sh1.heap.objs.size + 1 + 1 + 1, cHp), (sh1.heap.objs.size + 1 + 1, cHw), (sh1.heap.objs.size + 1, cWd), (W0, p0), (W1, p1), (W2, p2)]) at nX'
  rw [hR0] at nX'
  refine LCg.CompSrc.range (n := 4) rfl fX nX' (by assumption) (small_one (by (first | lia | omega)) (by (first | lia | omega)) (by (first | lia | omega)) (by (first | lia | omega))) (rangeSize_nat _ _) (by rw [PySem.sizeLine_eq]; (first | lia | omega)) fun g3 => ?_
  refine comp_all (σ := Int × Int × Tok × Tok) (fun c => x.led 76 ⟨c.1, c.2.1, #[], c.2.2.1, xea, c.2.2.2, xep⟩ ++ R0)
    (fun i c ys => 0 ≤ c.1 ∧ c.1 ≤ TX.length ∧ txR TX c.1 = restS (wdsN hp [z0, z1, z2]) i ∧ 0 ≤ c.2.1 ∧ c.2.1 + nls (restS (wdsN hp [z0, z1, z2]) i) = 1 + nls (restS (wdsN hp [z0, z1, z2]) 0) ∧ StrsAre ys ((tokL (wdsN hp [z0, z1, z2])).take i)) (0, 1, xtp, xtl)
    ⟨Int.le_refl _, Int.natCast_nonneg _, hlst, (by show (0 : Int) ≤ 1; decide), rfl, .nil⟩ ?turn3 ?fin3
  case turn3 =>
    --{
    clear nX nX' fX
    intro i c ys v I oI C oC D m₂ h tk E' hi hP hv hC hx F' N' off ne
    obtain ⟨ps, ln, tp9, tl9⟩ := c
    dsimp only at hP N' off
    obtain ⟨hp0, hp1, hpx, hl0, hls, hys⟩ := hP
    rw [← hR0] at N'
    dsimp only [List.cons_append, List.nil_append] at N'
    k_steps
    refine Held.put ?_
    (rename News _ _ _ _ => nX)
    change News _ _ _ ((I, oI) :: (C, oC) :: (D, LCg.lst ys) :: (x.led 76 ⟨ps, ln, #[], tp9, xea, tl9, xep⟩ ++ [(113, tabObj (tabFull 0x6b 0x6f x.c1 x.c2)), (Dw, LCg.lst [Value.ref W0, Value.ref W1, Value.ref W2]), (sh1.heap.objs.size + 1 + 1 + 1 + 1 + 1 + 1 + 1, o7), (sh1.heap.objs.size + 1 + 1 + 1 + 1 + 1 + 1, o6), (sh1.heap.objs.size + 1 + 1 + 1 + 1 + 1, cL), (sh1.heap.objs.size + 1 + 1 + 1 + 1, cBd), (sh1.heap.objs.size + 1 + 1 + 1, cHp), (sh1.heap.objs.size + 1 + 1, cHw), (sh1.heap.objs.size + 1, cWd), (W0, p0), (W1, p1), (W2, p2)])) at nX
    rw [hR0] at nX
    have N5 : News _ _ _ (x.led 76 ⟨ps, ln, #[], tp9, xea, tl9, xep⟩ ++ (I, oI) :: (C, oC) :: (D, LCg.lst ys) :: R0) := fun p hp => nX p (ring_in3 p hp)
    have hoff := off.mem
    have hoA := hoff (x.atL, _) (List.mem_append_left _ (.tail _ (.tail _ (.head _))))
    have hoD := hoff (x.dx, _) (List.mem_append_left _ (List.mem_append_right _ (.tail _ (.tail _ (.head _)))))
    have hrA : ∀ q ∈ (I, oI) :: (C, oC) :: (D, LCg.lst ys) :: R0, q.1 ≠ x.atL := fun q hq => by
      rcases List.mem_cons.mp hq with rfl | hq
      · exact Ne.symm hoA.1
      rcases List.mem_cons.mp hq with rfl | hq
      · exact Ne.symm hoA.2.1
      rcases List.mem_cons.mp hq with rfl | hq
      · exact Ne.symm hoA.2.2
      · exact Nat.ne_of_lt (Nat.lt_trans (hR0lt q hq) hAt)
    have hrD : ∀ q ∈ (I, oI) :: (C, oC) :: (D, LCg.lst ys) :: R0, q.1 ≠ x.dx := fun q hq => by
      rcases List.mem_cons.mp hq with rfl | hq
      · exact Ne.symm hoD.1
      rcases List.mem_cons.mp hq with rfl | hq
      · exact Ne.symm hoD.2.1
      rcases List.mem_cons.mp hq with rfl | hq
      · exact Ne.symm hoD.2.2
      · exact Nat.ne_of_lt (Nat.lt_trans (hR0lt q hq) hDx)
    k_dflt (refine' ctr_use (get_token_ctr _ _ _ _ _ _ (fun h => CodeHd h 117 113) x ps ln tp9 xea tl9 xep TX ((I, oI) :: (C, oC) :: (D, LCg.lst ys) :: R0)) codeHd ?k1 ?k2 ?k3 N5 ?k5 ?kK ?kp ?kd ?ku ?_; (case k1 => k_asm); (case k2 => k_asm); (case k3 => k_asm); (case k5 => k_asm); (case kK => first | exact rfl | assumption); (case kd => ktr_room); (case ku => ktr_units))
    case kp =>
      have hn1 := nls_nonneg (restS (wdsN hp [z0, z1, z2]) i)
      have hn2 := nls_rest hwok 0
      have hn3 : nls (restS (wdsN hp [z0, z1, z2]) 0) = (3 : Int) := by
        show nls (restR (wdsN hp [z0, z1, z2]) 0) = _
        rw [hn2, hwn]; simp
      exact ⟨hOrd, hRd, hTL, hp0, hp1, hl0, by rw [hn3] at hls; clear ne; (first | lia | omega), hrA, hrD, by rw [hpx]; exact okTok_S hwok i⟩
    clear nX N5
    intro v6 nw6 h6 tk6 hr6 F6 N6
    obtain ⟨ps2, ln2, tp2, tl2, tv2, rfl, hq0, hq1, hqx, hqn, hql, rfl⟩ := hr6
    have N7 : News _ _ _ _ := fun p hp => N6 p (ring_out3 p hp)
    clear N6
    k_steps
    refine Held.put ?_
    have hgt := gtok_S hwok (i := i) (by (first | lia | omega))
    rw [hpx, hgt] at hqx
    refine LCg.CompEnd.intro F6 N7 (x.led 76 ⟨ps2, ln2, #[], tp2, xea, tl2, xep⟩ ++ R0) (fun p hp => hp) (off3_led off) trivial ⟨(ps2, ln2, tp2, tl2), rfl, hq0, hq1, hqx, hql, ?_, ?_⟩
    · rw [hpx, hgt] at hqn
      dsimp only at hqn ⊢
      rw [hqn, hls]
    · rw [tokL_take (by rw [hwn]; exact hi)]
      refine strs_snocE ?_ hys
      rw [hpx, hgt]
    --}
  case fin3 =>
  intro c ysH hP Dh hh9 tkh9 Fh9 Nh9 oh9
  obtain ⟨ps, ln, tp9, tl9⟩ := c
  dsimp only at hP Nh9 oh9
  obtain ⟨hp0, hp1', hpx, hl0, hls, hys⟩ := hP
  rw [List.take_of_length_le (by rw [tokL_len, hwn]; exact Nat.le_refl _)] at hys
  have hHk : ∀ _ : Unit, StrsAre ysH (tokL (wdsN hp [z0, z1, z2])) := fun _ => hys
  have hoh := off1_mem oh9
  have hx6 : @LT.lt Nat _ (sh1.heap.objs.size + 1 + 1 + 1 + 1 + 1 + 1) x.cTx := hR0lt (_, o6) (by rw [← hR0]; exact .tail _ (.tail _ (.tail _ (.head _))))
  have hx7 : @LT.lt Nat _ (sh1.heap.objs.size + 1 + 1 + 1 + 1 + 1 + 1 + 1) x.cTx := hR0lt (_, o7) (by rw [← hR0]; exact .tail _ (.tail _ (.head _)))
  obtain ⟨q1, q2, q3, q4, q5, q6, q7, q8, q9, q10, q11⟩ := led_ne hOrd hcl.1 hcl.2 hx6
  have u6 : @Ne Nat Dh (sh1.heap.objs.size + 1 + 1 + 1 + 1 + 1 + 1) := Ne.symm (hoh (_, o6) (List.mem_append_right _ (by rw [← hR0]; exact .tail _ (.tail _ (.tail _ (.head _))))))
  have u7 : @Ne Nat Dh (sh1.heap.objs.size + 1 + 1 + 1 + 1 + 1 + 1 + 1) := Ne.symm (hoh (_, o7) (List.mem_append_right _ (by rw [← hR0]; exact .tail _ (.tail _ (.head _)))))
  clear nX nX' fX hys oh9 hoh
  rw [← hR0] at Nh9
  dsimp only [List.cons_append, List.nil_append] at Nh9
  show wpAny _ _ (storeName _ _ _) _ _ _
  k_steps
  refine Held.put ?_
  clear q1 q2 q3 q4 q5 q6 q7 q8 q9 q10 q11
  refine wpAny_Assign_Name ?_ (by with_unfolding_all rfl)
  (rename Fr _ _ _ _ => fX)
  k_dflt (refine' list_comp3 fX ?xc ?xd ?xk ?xn ?xx ?xy ?xz ?n1 ?n2 ?n3 ?_; (case xc => with_unfolding_all rfl); (case xd => decide); (case xk => rfl); (case xn => decide); (case xx => rfl); (case xy => rfl); (case xz => rfl); (case n1 => decide); (case n2 => decide); (case n3 => decide))
  k_steps
  (rename News _ _ _ _ => nX); (rename Fr _ _ _ _ => fX)
  rename Obj => cHd
  have nXm := nX
  change News _ _ _ ((Dh, LCg.lst ysH) :: (x.led 76 ⟨ps, ln, #[], tp9, xea, tl9, xep⟩ ++ [(113, tabObj (tabFull 0x6b 0x6f x.c1 x.c2)), (Dw, LCg.lst [Value.ref W0, Value.ref W1, Value.ref W2]), (sh1.heap.objs.size + 1 + 1 + 1 + 1 + 1 + 1 + 1, o7), (sh1.heap.objs.size + 1 + 1 + 1 + 1 + 1 + 1, cHd), (sh1.heap.objs.size + 1 + 1 + 1 + 1 + 1, cL), (sh1.heap.objs.size + 1 + 1 + 1 + 1, cBd), (sh1.heap.objs.size + 1 + 1 + 1, cHp), (sh1.heap.objs.size + 1 + 1, cHw), (sh1.heap.objs.size + 1, cWd), (W0, p0), (W1, p1), (W2, p2)])) at nXm
  obtain ⟨R1, hR1⟩ := ex_eq2 ([(113, tabObj (tabFull 0x6b 0x6f x.c1 x.c2)), (Dw, LCg.lst [Value.ref W0, Value.ref W1, Value.ref W2]), (sh1.heap.objs.size + 1 + 1 + 1 + 1 + 1 + 1 + 1, o7), (sh1.heap.objs.size + 1 + 1 + 1 + 1 + 1 + 1, cHd), (sh1.heap.objs.size + 1 + 1 + 1 + 1 + 1, cL), (sh1.heap.objs.size + 1 + 1 + 1 + 1, cBd), (sh1.heap.objs.size + 1 + 1 + 1, cHp), (sh1.heap.objs.size + 1 + 1, cHw), (sh1.heap.objs.size + 1, cWd), (W0, p0), (W1, p1), (W2, p2)] : List (Addr × Obj))
  obtain ⟨XL, hXL⟩ := ex_eq2 (x.led 76 ⟨ps, ln, #[], tp9, xea, tl9, xep⟩)
  rw [hR1, hXL] at nXm
  have nX9 : News _ _ _ _ := fun p hp => nXm p (mv_perm p hp)
  clear nXm
  refine ⟨List (Addr × Obj), Dw, #[Value.ref W0, Value.ref W1, Value.ref W2], 3, (fun c => (Dh, LCg.lst ysH) :: (R1 ++ (XL ++ c))), (fun i (c : List (Addr × Obj)) ys => i ≤ 3 ∧ c.length = i ∧ ys = c.map (fun q => Value.ref q.1) ∧ (∀ q ∈ c, @Ne Nat q.1 (sh1.heap.objs.size + 1 + 1 + 1 + 1 + 1 + 1 + 1)) ∧ ∀ (j : Nat) (q : Addr × Obj) (z : Int), c[j]? = some q → [z0, z1, z2][j]? = some z → MvIs hp z q.2), [], rfl, rfl, fX, nX9, ?hax5, ?hsz5, ⟨Nat.zero_le _, rfl, rfl, (fun q hq => nomatch hq), fun j q z hq => by simp at hq⟩, ?turn5, ?fin5⟩
  case hax5 => exact fun i c ys _ => .tail _ (List.mem_append_left _ (by rw [← hR1]; exact .tail _ (.head _)))
  case hsz5 =>
    rintro i c ys ⟨hi, hl, rfl, _⟩
    rw [List.length_map, hl, PySem.sizeLine_eq]
    (first | lia | omega)
  case turn5 =>
    --{
    clear nX nX9 fX
    intro s2 hs2 i c ys v hv hP
    obtain ⟨g5, rfl⟩ := hs2
    obtain ⟨hi3, hcl5, hys, hcb, hcw⟩ := hP
    have hv' : [Value.ref W0, .ref W1, .ref W2][i]? = some v := by simpa using hv
    have hi := val_at3 hv'
    obtain ⟨Wi, zi, ta, tb, tc, hWi, hzi, hmi⟩ := wd_at (W0 := W0) (W1 := W1) (W2 := W2) eW0 eW1 eW2 hi
    rw [hWi] at hv'
    cases hv'
    refine ⟨Wi, _, _, _, _, rfl, .tail _ (List.mem_append_left _ (by rw [← hR1]; exact lw_mem (as := [_, _, _, _, _, _, _, _, _]) hmi)), ?_⟩
    intro I oI C oC D m₂ h tk E' hC hx hy hz F' N' off
    rw [← hR1] at N'
    dsimp only [List.cons_append, List.nil_append] at N'
    k_steps
    all_goals (rename_i D1 h1 F1 N1 l1; have N7 := mv_fold hR1 N1; refine ⟨c ++ [(D1, _)], h1, _, _, rfl, F1, N7, mv_in, mv_off off (not_three (Nat.ne_of_gt l1.1) (Nat.ne_of_gt l1.2.1) (Nat.ne_of_gt l1.2.2.1)), ⟨hi, by rw [List.length_append, hcl5]; rfl, by rw [hys, List.map_append]; rfl, fun q hq => ?_, mv_snoc hcl5 hzi (mv_is ?_) hcw⟩⟩)
    all_goals try (rcases List.mem_append.mp hq with hq | hq; exact hcb q hq; rw [List.mem_singleton.mp hq]; exact Nat.ne_of_gt l1.2.2.2.2.2.2.1)
    · rw [mvD_guard (by assumption) (by assumption)]
    · rw [mvD_grow (by assumption) (by assumption)]; push_cast; rfl
    · rw [mvD_zero (by assumption)]
    --}
  case fin5 =>
  rintro s5 c ys5 ⟨g5, rfl⟩ hP Dm h5 tk5 F5 N5 o5
  obtain ⟨_, hcl5, hys, hcb, hcw⟩ := hP
  clear nX nX9 fX
  have hcl3 : c.length = 3 := hcl5
  clear hcl5
  obtain ⟨q0, q1, q2, hc3⟩ := three_ofL hcl3
  subst hc3
  obtain ⟨M0, m0⟩ := q0
  obtain ⟨M1, m1⟩ := q1
  obtain ⟨M2, m2⟩ := q2
  have eM0 : MvIs hp z0 m0 := hcw 0 _ _ rfl rfl
  have eM1 : MvIs hp z1 m1 := hcw 1 _ _ rfl rfl
  have eM2 : MvIs hp z2 m2 := hcw 2 _ _ rfl rfl
  have w70 : @Ne Nat M0 (sh1.heap.objs.size + 1 + 1 + 1 + 1 + 1 + 1 + 1) := hcb (M0, _) (.head _)
  have w71 : @Ne Nat M1 (sh1.heap.objs.size + 1 + 1 + 1 + 1 + 1 + 1 + 1) := hcb (M1, _) (.tail _ (.head _))
  have w72 : @Ne Nat M2 (sh1.heap.objs.size + 1 + 1 + 1 + 1 + 1 + 1 + 1) := hcb (M2, _) (.tail _ (.tail _ (.head _)))
  subst hys
  clear hcw hcb hcl3
  have ho5 := off1_mem o5
  have u57 : @Ne Nat Dm (sh1.heap.objs.size + 1 + 1 + 1 + 1 + 1 + 1 + 1) := Ne.symm (ho5 (_, o7) (.tail _ (List.mem_append_left _ (by rw [← hR1]; exact .tail _ (.tail _ (.head _))))))
  have hXL7 : ∀ p ∈ XL, @Ne Nat p.1 (sh1.heap.objs.size + 1 + 1 + 1 + 1 + 1 + 1 + 1) := by
    rw [← hXL]
    exact led_far hOrd hcl.1 hcl.2 hx7
  clear o5 ho5
  have N6 : News _ _ _ _ := fun p hp => N5 p (mv_out p hp)
  clear N5
  rw [← hR1] at N6
  dsimp only [List.cons_append, List.nil_append, List.map_cons, List.map_nil] at N6
  show wpAny _ _ (storeName _ _ _) _ _ _
  k_steps
  refine Held.put ?_
  (rename News _ _ _ _ => nX); (rename Fr _ _ _ _ => fX)
  refine src_pairs (its := [.ref M0, .ref M1, .ref M2]) (k := 3) (fun i ys => StrsAre ys ((tokL (wdsN hp [z0, z1, z2])).take i)) .nil rfl fX nX (.head _) (by show 3 ≤ 100; decide) ?turn6 ?fin6
  case turn6 =>
    --{
    clear nX fX
    intro i ys v hv hP
    have hi := val_at3 hv
    obtain ⟨Mi, ta, tb, hMi, hmi⟩ := mv_at (M0 := M0) (M1 := M1) (M2 := M2) eM0 eM1 eM2 hi
    rw [hMi] at hv
    cases hv
    refine ⟨Mi, _, _, _, rfl, mv_mem hmi, ?_⟩
    intro I oI C oC D m₂ h tk E' hC hx hy F' N'
    have hzl := tail_len ([z0, z1, z2].getD i 0)
    have hzd := mvD_le (hp := hp) ([z0, z1, z2].getD i 0) hp3
    have hm3 : HoldMul := ⟨⟩
    k_steps
    refine Held.put ?_
    refine mul_dots1 hzd rfl ?_
    intro B t8 k8 hB hBl
    k_steps
    (rename News _ _ _ _ => nX); (rename Fr _ _ _ _ => fX)
    exact PEnd.made fX nX (fun p hp => hp) (toks_at hi (tok_join hB) hP)
    --}
  case fin6 =>
  intro g6 ys6 hP
  have hP6 : ∀ _ : Unit, StrsAre ys6 ((tokL (wdsN hp [z0, z1, z2])).take 3) := fun _ => hP
  have hl6 : ys6.length = 3 := by rw [strs_len hP, toks_three]; rfl
  clear nX fX hP
  intro D6 h6 tk6 F6 N6 o6
  clear o6
  have hm6 : HoldMul := ⟨⟩
  k_steps
  refine Held.put ?_
  (rename HoldMul => hm6); clear hm6
  (rename News _ _ _ _ => nX); (rename Fr _ _ _ _ => fX)
  refine kmk_add_lit fX nX (nX.isList (by k_mem)) (nX.isList (by k_mem)) rfl ?_ (by show ys6.length + 1 ≤ _; rw [hl6, PySem.sizeLine_eq]; (first | lia | omega))
  clear nX fX
  intro Da ha9 Fa9 Na9 la9
  k_steps
  refine Held.put ?_
  (rename News _ _ _ _ => nX)
  refine (strs_same nX (by k_mem) (by k_mem) (hHk ()) (toks_end (hP6 ())) toks_ok (by ke_room)).1 _ ?_
  have N8 : News _ _ _ _ := fun p hp => nX p (mv_pick p hp)
  clear nX la9
  walk1
  refine ite_ff ?_
  k_steps
  refine Held.put ?_
  k_dflt (refine LCp.Assign_ListComp_P (F₀ := by k_asm) (by rfl) (by with_unfolding_all rfl) (by with_unfolding_all rfl) (by decide) (by rfl) (by decide) (by rfl) (by rfl) (by decide) (by rfl) (by rfl) ?_)
  k_steps
  refine Held.put ?_
  (rename News _ _ _ _ => nX); (rename Fr _ _ _ _ => fX)
  refine src_pairs (its := [_, _, _]) (k := 0) (fun i ys => IntsAre ys ((prs.take i).map (dueN hp [z0, z1, z2]))) .nil rfl fX nX (.head _) (by show 3 ≤ 100; decide) ?turn7 ?fin7
  case turn7 =>
    --{
    intro i ys v hv hP
    obtain ⟨a, b, Pi, ta, tb, rfl, ha, hb, hq, hmi⟩ := prs_at nX hv
    clear nX fX
    refine ⟨Pi, _, _, _, rfl, hmi, ?_⟩
    intro I oI C oC D m₂ h tk E' hC hx hy F' N'
    obtain ⟨Ma, ma, na, hMa, hma⟩ := mv_at (M0 := M0) (M1 := M1) (M2 := M2) eM0 eM1 eM2 ha
    obtain ⟨Mb, mb, nb, hMb, hmb⟩ := mv_at (M0 := M0) (M1 := M1) (M2 := M2) eM0 eM1 eM2 hb
    k_steps
    refine Held.put ?_
    (rename News _ _ _ _ => nX)
    k_dflt (refine' itemV_at (vs := [.ref M0, .ref M1, .ref M2]) ?xl ?x0 ?x1 ?x2 ?_ ?xs; (case xl => exact nX.isList (by k_mem)); (case x0 => (first | lia | omega)); (case x1 => (first | lia | omega)); (case x2 => (rw [Int.toNat_natCast]; exact hMa)); (case xs => with_unfolding_all rfl))
    k_steps
    refine Held.put ?_
    k_dflt (refine' itemV_at (vs := [.ref M0, .ref M1, .ref M2]) ?xl ?x0 ?x1 ?x2 ?_ ?xs; (case xl => exact nX.isList (by k_mem)); (case x0 => (first | lia | omega)); (case x1 => (first | lia | omega)); (case x2 => (rw [Int.toNat_natCast]; exact hMb)); (case xs => with_unfolding_all rfl))
    k_steps
    refine Held.put ?_
    (rename News _ _ _ _ => nX)
    have N5 := two_more nX (due_mem (as := [_, _, _, _, _, _, _, _, _, _, _, _, _, _]) hma) (due_mem (as := [_, _, _, _, _, _, _, _, _, _, _, _, _, _]) hmb)
    k_dflt (refine' ctr_use (apart_ctr _ _ _ _ _ _ (fun h => CodeHd h 117 113) _ _ _ _ _ _ _ _ _ _ _) codeHd ?k1 ?k2 ?k3 N5 ?k5 ?kK ?kp ?kd ?ku ?_; (case k1 => k_asm); (case k2 => k_asm); (case k3 => k_asm); (case k5 => k_asm); (case kK => first | exact rfl | assumption); (case kd => ktr_room); (case ku => ktr_units))
    case kp => exact due_pre hp3 _ _
    clear nX N5
    intro v6 nw6 h6 tk6 hr6 F6 N6
    obtain ⟨⟨t, rfl⟩, rfl⟩ := hr6
    have N7 : News _ _ _ _ := fun p hp => N6 p (.tail _ (.tail _ hp))
    clear N6
    k_steps
    (rename News _ _ _ _ => nX); (rename Fr _ _ _ _ => fX)
    exact PEnd.made fX nX (fun p hp => hp) (ints_step hq (due_is _ _ _ _) hP)
    --}
  case fin7 =>
  intro g7 ys7 hP
  have hI7 : ∀ _ : Unit, IntsAre ys7 ((prs.take 3).map (dueN hp [z0, z1, z2])) := fun _ => hP
  clear nX fX hP
  intro D7 h7 tk7 F7 N7 o7
  clear o7
  have N7' : News _ _ _ _ := fun p hp => N7 p (mv_move p hp)
  clear N7
  k_steps
  refine Held.put ?_
  k_dflt (refine LCp.Assign_ListComp_P (F₀ := by k_asm) (by rfl) (by with_unfolding_all rfl) (by with_unfolding_all rfl) (by decide) (by rfl) (by decide) (by rfl) (by rfl) (by decide) (by rfl) (by rfl) ?_)
  k_steps
  refine Held.put ?_
  (rename News _ _ _ _ => nX); (rename Fr _ _ _ _ => fX)
  refine src_pairs (its := [_, _, _]) (k := 0) (fun i ys => IntsAre ys ((prs.take i).map (dueN hp [z0, z1, z2]))) .nil rfl fX nX (.head _) (by show 3 ≤ 100; decide) ?turn8 ?fin8
  case turn8 =>
    --{
    intro i ys v hv hP
    obtain ⟨a, b, Pi, ta, tb, rfl, ha, hb, hq, hmi⟩ := prs_at nX hv
    clear nX fX
    refine ⟨Pi, _, _, _, rfl, hmi, ?_⟩
    intro I oI C oC D m₂ h tk E' hC hx hy F' N'
    obtain ⟨ua, hHa⟩ := heard_at ha (hHk ())
    obtain ⟨ub, hHb⟩ := heard_at hb (hHk ())
    k_steps
    refine Held.put ?_
    (rename News _ _ _ _ => nX)
    k_dflt (refine' itemV_at (vs := ysH) ?xl ?x0 ?x1 ?x2 ?_ ?xs; (case xl => exact nX.isList (by k_mem)); (case x0 => (first | lia | omega)); (case x1 => (first | lia | omega)); (case x2 => (rw [Int.toNat_natCast]; exact hHa)); (case xs => with_unfolding_all rfl))
    k_steps
    refine Held.put ?_
    k_dflt (refine' itemV_at (vs := ysH) ?xl ?x0 ?x1 ?x2 ?_ ?xs; (case xl => exact nX.isList (by k_mem)); (case x0 => (first | lia | omega)); (case x1 => (first | lia | omega)); (case x2 => (rw [Int.toNat_natCast]; exact hHb)); (case xs => with_unfolding_all rfl))
    k_steps
    refine Held.put ?_
    (rename News _ _ _ _ => nX)
    k_dflt (refine' ctr_use (lev_ctr _ _ _ _ _ _ (fun h => CodeHd h 117 113) _ _ _ 99 _ _ _) codeHd ?k1 ?k2 ?k3 ?k4 ?k5 ?kK ?kp ?kd ?ku ?_; (case k1 => k_asm); (case k2 => k_asm); (case k3 => k_asm); (case k4 => exact nX); (case k5 => k_asm); (case kK => first | exact rfl | assumption); (case kd => ktr_room); (case ku => ktr_units))
    case kp => exact ⟨tk_str hp3 _, tk_str hp3 _, by decide, by decide⟩
    clear nX
    intro v6 nw6 h6 tk6 hr6 F6 N6
    obtain ⟨⟨r, t, rfl, hok⟩, rfl⟩ := hr6
    have hre := far_eq hp3 hok
    clear hok
    k_steps
    (rename News _ _ _ _ => nX); (rename Fr _ _ _ _ => fX)
    exact PEnd.made fX nX (fun p hp => hp) (ints_step hq hre hP)
    --}
  case fin8 =>
  intro g8 ys8 hP
  have hI8 : ∀ _ : Unit, IntsAre ys8 ((prs.take 3).map (dueN hp [z0, z1, z2])) := fun _ => hP
  clear nX fX hP
  intro D8 h8 tk8 F8 N8 o8
  clear o8
  have N8' : News _ _ _ _ := fun p hp => N8 p (mv_move p hp)
  clear N8
  k_steps
  refine Held.put ?_
  k_dflt (refine LCp.Assign_ListComp_P (F₀ := by k_asm) (by rfl) (by with_unfolding_all rfl) (by with_unfolding_all rfl) (by decide) (by rfl) (by decide) (by rfl) (by rfl) (by decide) (by rfl) (by rfl) ?_)
  k_steps
  refine Held.put ?_
  (rename News _ _ _ _ => nX); (rename Fr _ _ _ _ => fX)
  refine src_pairs (its := [_, _, _]) (k := 0) (fun i ys => IntsAre ys ((prs.take i).map fun q => min (dueN hp [z0, z1, z2] q) ((bd : Int) + 1))) .nil rfl fX nX (.head _) (by show 3 ≤ 100; decide) ?turn9 ?fin9
  case turn9 =>
    --{
    intro i ys v hv hP
    obtain ⟨a, b, Pi, ta, tb, rfl, ha, hb, hq, hmi⟩ := prs_at nX hv
    clear nX fX
    refine ⟨Pi, _, _, _, rfl, hmi, ?_⟩
    intro I oI C oC D m₂ h tk E' hC hx hy F' N'
    obtain ⟨ua, hHa⟩ := heard_at ha (hHk ())
    obtain ⟨ub, hHb⟩ := heard_at hb (hHk ())
    k_steps
    refine Held.put ?_
    (rename News _ _ _ _ => nX)
    k_dflt (refine' itemV_at (vs := ysH) ?xl ?x0 ?x1 ?x2 ?_ ?xs; (case xl => exact nX.isList (by k_mem)); (case x0 => (first | lia | omega)); (case x1 => (first | lia | omega)); (case x2 => (rw [Int.toNat_natCast]; exact hHb)); (case xs => with_unfolding_all rfl))
    k_steps
    refine Held.put ?_
    k_dflt (refine' itemV_at (vs := ysH) ?xl ?x0 ?x1 ?x2 ?_ ?xs; (case xl => exact nX.isList (by k_mem)); (case x0 => (first | lia | omega)); (case x1 => (first | lia | omega)); (case x2 => (rw [Int.toNat_natCast]; exact hHa)); (case xs => with_unfolding_all rfl))
    k_steps
    refine Held.put ?_
    (rename News _ _ _ _ => nX)
    k_dflt (refine' ctr_use (lev_ctr _ _ _ _ _ _ (fun h => CodeHd h 117 113) _ _ _ (bd : Int) _ _ _) codeHd ?k1 ?k2 ?k3 ?k4 ?k5 ?kK ?kp ?kd ?ku ?_; (case k1 => k_asm); (case k2 => k_asm); (case k3 => k_asm); (case k4 => exact nX); (case k5 => k_asm); (case kK => first | exact rfl | assumption); (case kd => ktr_room); (case ku => ktr_units))
    case kp => exact ⟨tk_str hp3 _, tk_str hp3 _, by (first | lia | omega), by (first | lia | omega)⟩
    clear nX
    intro v6 nw6 h6 tk6 hr6 F6 N6
    obtain ⟨⟨r, t, rfl, hok⟩, rfl⟩ := hr6
    have hnr : ∀ k : Int, k = min r ((bd : Int) + 1) → k = min (dueN hp [z0, z1, z2] (a, b)) ((bd : Int) + 1) := fun k hk => near_eq hok hk
    clear hok
    k_steps
    refine Held.put ?_
    (rename News _ _ _ _ => nX); (rename Fr _ _ _ _ => fX)
    refine min2_N rfl fX nX ?_
    clear nX fX
    intro k t7 h7 tk7 hk7 F7 N7
    have hk8 := hnr k hk7
    clear hk7 hnr
    k_steps
    (rename News _ _ _ _ => nX); (rename Fr _ _ _ _ => fX)
    exact PEnd.made fX nX (fun p hp => hp) (ints_step hq hk8 hP)
    --}
  case fin9 =>
  intro g9 ys9 hP
  have hI9 : ∀ _ : Unit, IntsAre ys9 ((prs.take 3).map fun q => min (dueN hp [z0, z1, z2] q) ((bd : Int) + 1)) := fun _ => hP
  clear nX fX hP
  intro D9 h9 tk9 F9 N9 o9
  clear o9
  rw [← hXL] at N9
  have hln : ln = 4 := line_end hwok hwn hls
  have hm6 : HoldMul := ⟨⟩
  k_steps
  refine Held.put ?_
  (rename HoldMul => hm6); clear hm6
  refine eq_int4 hln ?_
  walk1
  refine ite_tt ?_
  k_steps
  refine Held.put ?_
  (rename News _ _ _ _ => nX)
  refine eq_ints_same (nX.isList (by k_mem)) (nX.isList (by k_mem)) (hI8 ()) (hI7 ()) rfl (by ke_room) ?_
  walk1
  refine ite_tt ?_
  k_steps
  refine Held.put ?_
  (rename News _ _ _ _ => nX); (rename Fr _ _ _ _ => fX)
  have hl7 : ys7.length = 3 := by rw [ints_len (hI7 ())]; rfl
  refine LCg.CompSrc.ledger rfl fX nX (by k_mem) (by rw [List.size_toArray, hl7, PySem.sizeLine_eq]; decide) fun g10 => ?_
  refine comp_all (σ := Unit) (fun _ => _) (fun i _ ys => IntsAre ys ((((prs.take 3).map (dueN hp [z0, z1, z2])).take i).map fun p => min p ((bd : Int) + 1))) () .nil ?turn10 ?fin10
  case turn10 =>
    clear nX fX
    intro i u0 ys v I oI C oC D m₂ h tk E' hi hP hv hC hx F' N' off ne
    have hv' : ys7[i]? = some v := by simpa using hv
    obtain ⟨y, ty, hyi, rfl⟩ := ints_at (hI7 ()) hv'
    k_steps
    refine Held.put ?_
    (rename News _ _ _ _ => nX); (rename Fr _ _ _ _ => fX)
    refine min2_N rfl fX nX ?_
    clear nX fX
    intro k t7 h7 tk7 hk7 F7 N7
    k_steps
    refine Held.put ?_
    (rename News _ _ _ _ => nX); (rename Fr _ _ _ _ => fX)
    exact LCg.CompEnd.intro fX nX _ (fun p hp => hp) off (.inr ⟨_, by k_mem, rfl, _, rfl⟩) ⟨(), rfl, price_step hyi hk7 hP⟩
  case fin10 =>
  intro u0 ys10 hP D10 h10 tk10 F10 N10 o10
  clear o10 nX fX
  rw [List.size_toArray, hl7] at hP
  k_steps
  refine Held.put ?_
  (rename News _ _ _ _ => nX)
  refine eq_ints_same (nX.isList (by k_mem)) (nX.isList (by k_mem)) (hI9 ()) hP rfl (by ke_room) ?_
  refine hQz _ _ ?_
  refine ⟨⟨.inl ⟨_, .bool true, [], rfl, ?g1, ?g2, ?g3, fun _ => ⟨List.nodup_nil, fun _ h => nomatch h⟩⟩, ?g4, ?g5, ?g6⟩, ?g7⟩
  case g1 => intro cls; rfl
  case g2 => constructor
  case g3 => first | exact postW_of (X := true) (by rfl) (by rfl) rfl | exact postW_of (X := true) (by with_unfolding_all rfl) (by with_unfolding_all rfl) rfl | (refine postW_of (X := true) ?_ ?_ rfl <;> kernel_rfl) | (refine postW_of (X := true) ?_ ?_ rfl <;> simp +decide)
  case g4 => exact Fr.keep (by k_asm)
  case g5 => rfl
  case g6 => exact hg
  case g7 =>
    refine And.intro ?_ trivial
    exact GrownAt.of nX (show (113, tabObj (tabFull 0x6b 0x6f x.c1 x.c2)) ∈ _ by k_mem))
end Mine
end
theorem PySem.Challenge.cw_pe0114_01_holds : PySem.Challenge.rw_pe0114_01.Holds :=
  Mine.law1
