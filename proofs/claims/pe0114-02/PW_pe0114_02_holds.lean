import PyProof.Rows.All
import Wide.All
import OpenK.AllK
import Wide.FinOn
import PyProof.Walk
import PyProof.WalkLemmas
import PyProof.StrLawsIn
import PySem.Challenge.RW_pe0114_02
set_option Elab.async false
set_option linter.unusedVariables false
section
theorem Mine.forget_Top2 : True := by
  w_top off
  trivial
open PySem PySem.W PyProof.Rows
namespace Mine
set_option maxRecDepth 100000
set_option maxHeartbeats 8000000
open_top hd for PySem.Challenge.rw_pe0114_02
end Mine
end
section
theorem Mine.forget_MyK : True := by
  w_top off
  trivial
open PySem PySem.W PyProof.Rows PySem.Calls PySem.Spec
set_option maxRecDepth 100000
namespace Mine
/-- a goal that the walk leaves where it stands -/
def Held (P : Prop) : Prop := P
theorem Held.out {P : Prop} (h : Held P) : P := h
theorem Held.put {P : Prop} (h : P) : Held P := h
/-- where it stands in the context the walk does not hold -/
structure HoldOff : Prop where
/-- the frame, told anew by the names that count -/
theorem tidy {h₀ h : Heap} {L : Addr} {m : Str → Option Value} (F : Fr h₀ L h m) (ps : List (Str × Value)) (hk : ∀ p ∈ ps, m p.1 = some p.2) : ∃ u, Fr h₀ L h (kstB u ps) := by
  refine ⟨m, ?_⟩
  have em : kstB m ps = m := by
    funext y
    exact kstB_eq hk fun _ => rfl
  rw [em]
  exact F
/-- where the ways out of a loop meet -/
def JoinA {σ : Type} (h₀ : Heap) (L : Addr) (s : Shared) (Led : σ → List (Addr × Obj)) (ps : σ → List (Str × Value)) (Post : σ → Prop) (s₂ : Shared) : Prop :=
  ∃ (c' : σ) (h' : Heap) (tk : Nat) (m' : Str → Option Value) (news' : List (Addr × Obj)), s₂ = { s with heap := h', toks := tk } ∧ Fr h₀ L h' m' ∧ News h₀ L h' news' ∧ (∀ p ∈ Led c', p ∈ news') ∧ (∀ p ∈ ps c', m' p.1 = some p.2) ∧ Post c'
def EndA {σ : Type} (h₀ : Heap) (L : Addr) (s : Shared) (Led : σ → List (Addr × Obj)) (ps : σ → List (Str × Value)) (P : σ → Prop) (μ : σ → Nat) (Post : σ → Prop) (Q : Flow → Shared → Prop) (c : σ) (f : Flow) (s₂ : Shared) : Prop :=
  match f with
  | .ret v => Q (.ret v) s₂
  | .brk => JoinA h₀ L s Led ps Post s₂
  | _ => JoinA h₀ L s Led ps (fun c' => P c' ∧ μ c' < μ c) s₂
theorem joinA_end {σ : Type} {h₀ : Heap} {L : Addr} {s : Shared} {Led : σ → List (Addr × Obj)} {ps : σ → List (Str × Value)} {m' : Str → Option Value} {Post : σ → Prop} {h' : Heap} {tk : Nat} {news' : List (Addr × Obj)} (c' : σ)
    (F : Fr h₀ L h' m') (N : News h₀ L h' news') (hn : ∀ p ∈ Led c', p ∈ news') (hk : ∀ p ∈ ps c', m' p.1 = some p.2) (hp : Post c') :
    JoinA h₀ L s Led ps Post { s with heap := h', toks := tk } := ⟨c', h', tk, m', news', rfl, F, N, hn, hk, hp⟩
section
variable {prog : Program} {w : World} {A : Around} {E : Value → Shared → Prop} {Q : Flow → Shared → Prop} {s : Shared} {env : Env} {h₀ : Heap} {L : Addr}
theorem while_all {σ : Type} {test : Expr} {body : List Stmt} {pos : Pos} {m₀ : Str → Option Value} (Led : σ → List (Addr × Obj)) (ps : σ → List (Str × Value)) (P : σ → Prop) (μ : σ → Nat) (Post : σ → Prop) (c₀ : σ)
    (F : Fr h₀ L s.heap m₀) (N : News h₀ L s.heap (Led c₀)) (hk : ∀ p ∈ ps c₀, m₀ p.1 = some p.2) (hp : P c₀)
    (turn : ∀ (c : σ) (u : Str → Option Value) h tk, P c → Fr h₀ L h (kstB u (ps c)) → News h₀ L h (Led c) →
      wpAny (model prog w) A (isTrue test env (eval test env)) (fun b s₂ =>
        if b = true then wpAny (model prog w) A (execs body env) (EndA h₀ L s Led ps P μ Post Q c) E s₂ else JoinA h₀ L s Led ps Post s₂) E { s with heap := h, toks := tk })
    (next : ∀ (c : σ) (u : Str → Option Value) h tk, Post c → Fr h₀ L h (kstB u (ps c)) → News h₀ L h (Led c) → Q .next { s with heap := h, toks := tk })
    (hE : PassesOwn (model prog w) A env E := by passes_own) :
    wpAny (model prog w) A (exec (.While test body [] pos) env) Q E s := by
  have fin : ∀ s₂, JoinA h₀ L s Led ps Post s₂ → Q .next s₂ := by
    rintro _ ⟨c', h', tk, m', news', rfl, F, N, hn, hk, hp⟩
    refine next c' m' h' tk hp ?_ fun p q => N p (hn p q)
    have em : kstB m' (ps c') = m' := funext fun y => kstB_eq hk fun _ => rfl
    rw [em]; exact F
  refine While_inv2 (fun n m nx => ∃ c : σ, nx = Led c ∧ μ c = n ∧ (∀ p ∈ ps c, m p.1 = some p.2) ∧ P c) F N ⟨c₀, rfl, rfl, hk, hp⟩ ?_ hE
  rintro n m₁ nx h tk F₁ N₁ ⟨c, hnx, hsz, h1, hp'⟩
  rw [hnx] at N₁
  rw [← hsz]
  have em : kstB m₁ (ps c) = m₁ := funext fun y => kstB_eq h1 fun _ => rfl
  refine wpAny_mono (turn c m₁ h tk hp' (by rw [em]; exact F₁) N₁) (fun b s₂ p => ?_) fun _ _ x => x
  cases b with
  | false => simp only [Bool.false_eq_true, if_false] at p ⊢; exact fin _ p
  | true =>
    simp only [if_true] at p ⊢
    refine wpAny_mono p (fun f s₃ q => ?_) fun _ _ x => x
    cases f with
    | ret v => exact q
    | brk => exact fin _ q
    | next =>
      obtain ⟨c', h', tk', m', news', rfl, F', N', hn, hk9, hp9, hm9⟩ := q
      exact ⟨h', tk', m', Led c', μ c', rfl, F', fun p hp => N' p (hn p hp), hm9, c', rfl, rfl, hk9, hp9⟩
    | cont =>
      obtain ⟨c', h', tk', m', news', rfl, F', N', hn, hk9, hp9, hm9⟩ := q
      exact ⟨h', tk', m', Led c', μ c', rfl, F', fun p hp => N' p (hn p hp), hm9, c', rfl, rfl, hk9, hp9⟩
/-- a cut: the ways of a tree meet -/
theorem cut_all {σ : Type} {t : Sem Flow} {m₀ : Str → Option Value} (_F : Fr h₀ L s.heap m₀) (Led : σ → List (Addr × Obj)) (ps : σ → List (Str × Value)) (Post : σ → Prop)
    (hw : wpAny (model prog w) A t (fun f s₂ => match f with | .next => JoinA h₀ L s Led ps Post s₂ | f => Q f s₂) E s)
    (next : ∀ (c : σ) (u : Str → Option Value) h tk, Post c → Fr h₀ L h (kstB u (ps c)) → News h₀ L h (Led c) → Q .next { s with heap := h, toks := tk }) :
    wpAny (model prog w) A t Q E s := by
  refine wpAny_mono hw (fun f s₂ j => ?_) fun _ _ x => x
  cases f with
  | next =>
    obtain ⟨c', h', tk, m', news', rfl, F, N, hn, hk, hp⟩ := j
    refine next c' m' h' tk hp ?_ fun p q => N p (hn p q)
    have em : kstB m' (ps c') = m' := funext fun y => kstB_eq hk fun _ => rfl
    rw [em]; exact F
  | _ => exact j
end
end Mine
end
section
theorem Mine.forget_MyS : True := by
  w_top off
  trivial
open PySem PySem.W PyProof.Rows PySem.Calls PySem.Spec PySem.Builtin PySem.Builtin.Str
namespace Mine
abbrev lst (x : Str) : List Nat := x.cps.toList
theorem len_lst (x : Str) : x.length = (lst x).length := by simp [Str.length, lst]
theorem str_ext {x y : Str} (h : lst x = lst y) : x = y := by
  cases x; cases y; simp [lst] at h; subst h; rfl
theorem lst_mk (l : List Nat) : lst ⟨l.toArray⟩ = l := by simp [lst]
theorem lst_append (x y : Str) : lst (x ++ y) = lst x ++ lst y := by
  show (x.cps ++ y.cps).toList = _
  simp [lst]
theorem lst_from {x : Str} {i : Int} (h0 : 0 ≤ i) (h1 : i ≤ x.length) : lst (Txt.slice x (some i) none) = (lst x).drop i.toNat := by
  rw [slice_from_eq h0 h1 rfl, lst_mk]
  apply List.take_of_length_le
  rw [List.length_drop, ← len_lst]; (first | lia | omega)
theorem lst_to {x : Str} {j : Int} (h0 : 0 ≤ j) (h1 : j ≤ x.length) : lst (Txt.slice x none (some j)) = (lst x).take j.toNat := by
  rw [eq_of_beq (slice_closes_toL h0 h1), lst_mk]
  simp
theorem lst_to_neg {x : Str} {j : Int} (h0 : j < 0) (h1 : -(x.length : Int) ≤ j) : lst (Txt.slice x none (some j)) = (lst x).take (x.length + j).toNat := by
  rw [slice_to_neg h0, lst_to (by (first | lia | omega)) (by (first | lia | omega))]
  congr 1; (first | lia | omega)
theorem item_at {x : Str} {i : Int} (h0 : 0 ≤ i) (h1 : i < x.length) : Txt.item x i = ⟨#[((lst x)[i.toNat]?).getD 0]⟩ := by
  have h2 : i.toNat < x.cps.size := by simp only [Str.length] at h1; (first | lia | omega)
  have e : seqIndex? i x.length = some i.toNat := by
    unfold seqIndex?
    have : ¬ i < 0 := by (first | lia | omega)
    simp [this, h0, h1]
  unfold Txt.item Txt.charAt
  rw [e]
  simp [lst]
theorem item_neg {x : Str} {i : Int} (h0 : i < 0) (h1 : -(x.length : Int) ≤ i) : Txt.item x i = ⟨#[((lst x)[(x.length + i).toNat]?).getD 0]⟩ := by
  have h2 : (x.length + i).toNat < x.cps.size := by simp only [Str.length] at *; (first | lia | omega)
  have e : seqIndex? i x.length = some (x.length + i).toNat := by
    unfold seqIndex?
    have h3 : 0 ≤ i + (x.length : Int) := by (first | lia | omega)
    have h4 : i + (x.length : Int) < (x.length : Int) := by (first | lia | omega)
    simp [h0, h3, h4]
    (first | lia | omega)
  unfold Txt.item Txt.charAt
  rw [e]
  simp [lst]
theorem slice_all (x : Str) : Txt.slice x none none = x := by
  unfold Txt.slice
  have : (strSliceIndices none none 1 x.length).length = x.length := by
    unfold strSliceIndices sliceRange
    simp
    try (first | lia | omega)
  simp [this]
theorem one_beq {c d : Nat} : ((⟨#[c]⟩ : Str) == ⟨#[d]⟩) = (c == d) := by
  by_cases h : c = d
  · subst h; simp
  · have : (⟨#[c]⟩ : Str) ≠ ⟨#[d]⟩ := by intro e; simp at e; exact h e
    rw [beq_false_of_ne this, beq_false_of_ne h]
end Mine
end
section
theorem Mine.forget_MyP : True := by
  w_top off
  trivial
open PySem PySem.W PyProof.Rows PySem.Calls PySem.Spec
namespace Mine
/-- blocks one behind the other -/
def cat1 {α : Type} : List (List α) → List α
  | [] => []
  | [x] => x
  | x :: y :: r => x ++ cat1 (y :: r)
theorem mem_cat1 {α : Type} {p : α} : ∀ {bs : List (List α)}, p ∈ cat1 bs ↔ ∃ b ∈ bs, p ∈ b
  | [] => by simp [cat1]
  | [x] => by simp [cat1]
  | x :: y :: r => by rw [cat1, List.mem_append, mem_cat1 (bs := y :: r)]; simp
/-- the blocks is of bs lie among the blocks js of bs -/
theorem mem_blk {α : Type} (bs : List (List α)) (is js : List Nat) (h : ∀ i ∈ is, i ∈ js) : ∀ p ∈ cat1 (is.filterMap fun i => bs[i]?), p ∈ cat1 (js.filterMap fun i => bs[i]?) := by
  intro p hp
  obtain ⟨b, hb, hp⟩ := mem_cat1.mp hp
  obtain ⟨i, hi, e⟩ := List.mem_filterMap.mp hb
  exact mem_cat1.mpr ⟨b, List.mem_filterMap.mpr ⟨i, h i hi, e⟩, hp⟩
end Mine
end
section
theorem Mine.forget_MyL : True := by
  w_top off
  trivial
open PySem PySem.W PyProof.Rows PySem.Calls PySem.Spec
set_option maxRecDepth 100000
namespace Mine
/-- the ints a, a + c, .. (n of them) -/
def stepInts (a c : Int) (n : Nat) : List Int := (List.range n).map fun (i : Nat) => a + (i : Int) * c
theorem stepInts_length (a c : Int) (n : Nat) : (stepInts a c n).length = n := by simp [stepInts]
theorem stepInts_succ (a c : Int) (n : Nat) : stepInts a c (n + 1) = a :: stepInts (a + c) c n := by
  unfold stepInts
  rw [List.range_succ_eq_map, List.map_cons, List.map_map]
  congr 1
  · simp
  · apply List.map_congr_left
    intro i _
    simp only [Function.comp]
    push_cast
    rw [Int.add_mul]
    (first | lia | omega)
theorem step_ints : ∀ (vs : List Value) (a c : Int) (n : Nat), vs.length = n → (∀ (j : Nat) (v : Value), vs[j]? = some v → ∃ t, v = .int (a + j * c) t) → IntsAre vs (stepInts a c n)
  | [], a, c, n, e, _ => by
    subst e
    exact IntsAre.nil
  | v :: r, a, c, n, e, h => by
    subst e
    rw [List.length_cons, stepInts_succ]
    obtain ⟨t, ht⟩ := h 0 v rfl
    have hv : v = .int a t := by rw [ht]; simp
    subst hv
    refine IntsAre.cons _ _ (step_ints r (a + c) c r.length rfl fun j v hj => ?_)
    obtain ⟨t', ht'⟩ := h (j + 1) v hj
    refine ⟨t', ht'.trans ?_⟩
    congr 1
    push_cast
    rw [Int.add_mul]
    (first | lia | omega)
section
variable {prog : Program} {w : World} {A : Around} {E : Value → Shared → Prop} {s : Shared} {h₀ : Heap} {L l r : Addr} {m : Str → Option Value} {news : List (Addr × Obj)} {a b c : Int} {t₀ u₀ v₀ : Tok} {n : Nat} {Q : Value → Shared → Prop}
theorem list_range_step (hh : A.handled = none) (F : Fr h₀ L s.heap m) (N : News h₀ L s.heap news) (hr : IsRange s.heap r a b c t₀ u₀ v₀) (hsmall : Builtin.Range.small a b c = true) (hn : Builtin.Range.rangeSize a b c = (n : Int)) (hz : n ≤ 2 ^ 24)
    (h : ∀ D us k h' tk, Fr h₀ L h' m → News h₀ L h' ((D, listOf (List.toArray us) k) :: news) → (∀ p ∈ news, p.1 < D) → IntsAre us (stepInts a c n) → Q (.ref D) { s with heap := h', toks := tk }) :
    wpAny (model prog w) A (call (.type "list") [.ref r]) Q E s := by
  refine call_list_range hh hr hsmall hn hz fun h' tk acc k hk hD hI => ?_
  have hD' : h'.get? s.heap.objs.size = some (listOf (List.toArray acc.toList) k) := by
    rw [Array.toArray_toList]
    exact hD
  exact h _ acc.toList k h' tk (F.keeps hk) (news_pushed F N hk hD' rfl) (fun p hp => Heap.lt_size (N p hp).1) (step_ints _ _ _ _ (by rw [Array.length_toList]; exact hI.1) fun j v hj => hI.2 j v (by rw [← hj, Array.getElem?_toList]))
end
theorem range2_size (n : Nat) : Builtin.Range.rangeSize 2 (2 * ((n : Int) + 1)) 2 = (n : Int) := by
  unfold Builtin.Range.rangeSize
  rw [if_pos (by decide)]
  split <;> (first | lia | omega)
theorem fits_small {i : Int} (h0 : 0 ≤ i) (h1 : i ≤ 100000) : Builtin.Range.rangeFitsLong i = true := by
  unfold Builtin.Range.rangeFitsLong
  rw [Bool.and_eq_true]
  exact ⟨decide_eq_true (by (first | lia | omega)), decide_eq_true (by (first | lia | omega))⟩
theorem range2_small (n : Nat) (h : n ≤ 1000) : Builtin.Range.small 2 (2 * ((n : Int) + 1)) 2 = true := by
  unfold Builtin.Range.small
  rw [range2_size]
  have a1 := fits_small (i := 2) (by (first | lia | omega)) (by (first | lia | omega))
  have a2 := fits_small (i := 2 * ((n : Int) + 1)) (by (first | lia | omega)) (by (first | lia | omega))
  have a3 := fits_small (i := (n : Int)) (by (first | lia | omega)) (by (first | lia | omega))
  have a4 := fits_small (i := 2 * ((n : Int) + 1) + (2 - 1)) (by (first | lia | omega)) (by (first | lia | omega))
  rw [a1, a2, a3, if_pos (by decide), a4, Bool.or_true]
  rfl
end Mine
end
section
theorem Mine.forget_MyR : True := by
  w_top off
  trivial
open PySem PySem.W PyProof.Rows PySem.Calls PySem.Spec
set_option maxRecDepth 100000
namespace Mine
/-- a turn's end of a for -/
def EndR {σ : Type} (h₀ : Heap) (L : Addr) (s : Shared) (Led : σ → List (Addr × Obj)) (ps : σ → List (Str × Value)) (own : List (Addr × Obj)) (adr : List Addr) (P : σ → Prop) (Q : Flow → Shared → Prop) (f : Flow) (s₂ : Shared) : Prop :=
  match f with
  | .ret v => Q (.ret v) s₂
  | .brk => Q .next s₂
  | _ => JoinA h₀ L s (fun c => Led c ++ own) ps (fun c => (Led c).map (·.1) = adr ∧ P c) s₂
section
variable {prog : Program} {w : World} {A : Around} {E : Value → Shared → Prop} {Q : Flow → Shared → Prop} {s : Shared} {env : Env} {h₀ : Heap} {x : Str} {body : List Stmt}
theorem fr_kst {h : Heap} {L : Addr} {m : Str → Option Value} {ps : List (Str × Value)} (F : Fr h₀ L h m) (hk : ∀ p ∈ ps, m p.1 = some p.2) : Fr h₀ L h (kstB m ps) := by
  have em : kstB m ps = m := funext fun y => kstB_eq hk fun _ => rfl
  rw [em]; exact F
theorem endR_up {σ : Type} {Led : σ → List (Addr × Obj)} {ps : σ → List (Str × Value)} {own : List (Addr × Obj)} {adr : List Addr} {P : σ → Prop} {L : Addr} {f : Flow} {s₂ : Shared} {J : (Str → Option Value) → List (Addr × Obj) → Prop}
    (hJ : ∀ c m, (∀ p ∈ ps c, m p.1 = some p.2) → P c → J m (Led c)) (p : EndR h₀ L s Led ps own adr P Q f s₂) : InvPostN h₀ L J own adr s Q f s₂ := by
  cases f with
  | ret v => exact p
  | brk => exact p
  | next =>
    obtain ⟨c', h', tk, m', news', rfl, F', N', hn, hk, ha, hp⟩ := p
    exact ⟨h', tk, m', news', Led c', rfl, F', N', fun q hq => hn q (List.mem_append_left _ hq), fun q hq => hn q (List.mem_append_right _ hq), ha, hJ c' m' hk hp⟩
  | cont =>
    obtain ⟨c', h', tk, m', news', rfl, F', N', hn, hk, ha, hp⟩ := p
    exact ⟨h', tk, m', news', Led c', rfl, F', N', fun q hq => hn q (List.mem_append_left _ hq), fun q hq => hn q (List.mem_append_right _ hq), ha, hJ c' m' hk hp⟩
theorem range_all {σ : Type} {r : Addr} {a₀ b₀ : Int} {t₀ u₀ v₀ : Tok} {n : Nat} {m₀ : Str → Option Value} (Led : σ → List (Addr × Obj)) (ps : σ → List (Str × Value)) (P : Nat → σ → Prop) (c₀ : σ)
    (hh : A.handled = none) (hr : IsRange s.heap r a₀ b₀ 1 t₀ u₀ v₀) (hsmall : Builtin.Range.small a₀ b₀ 1 = true) (hn : Builtin.Range.rangeSize a₀ b₀ 1 = (n : Int)) (F : Fr h₀ env.locals s.heap m₀) (N : News h₀ env.locals s.heap (Led c₀)) (hk : ∀ p ∈ ps c₀, m₀ p.1 = some p.2) (hp : P 0 c₀)
    (turn : ∀ (c : σ) (i : Nat) t (u : Str → Option Value) h tk own, i < n → OwnOff own ((Led c₀).map (·.1)) → P i c →
      Fr h₀ env.locals h (kstB (kstB u (ps c)) [(x, .int (a₀ + i) t)]) → News h₀ env.locals h (Led c ++ own) →
      wpAny (model prog w) A (execs body env) (EndR h₀ env.locals { s with heap := h, toks := tk } Led ps own ((Led c₀).map (·.1)) (P (i + 1)) Q) E { s with heap := h, toks := tk })
    (done : ∀ (c : σ) (u : Str → Option Value) h tk, P n c → Fr h₀ env.locals h (kstB u (ps c)) → News h₀ env.locals h (Led c) → Q .next { s with heap := h, toks := tk }) :
    wpAny (model prog w) A (pyIter (.ref r)) (fun it s₂ => LoopAtV prog w A h₀ env x body Q E it s₂) E s := by
  refine wpAny_pyIter_range hr hsmall ?_
  have W : Walks prog w A s.heap.objs.size [s.heap.objs.size] [s.heap.objs.size] n (fun i v => i < n ∧ ∃ t, v = .int (a₀ + i * 1) t)
      (fun i h => IsRangeIter h s.heap.objs.size (a₀ + (i : Nat) * 1) ((n : Int) - (i : Nat)) 1) := (Walks.range hh _ a₀ 1 n).bound
  refine loop_invN (fun i m nx => ∃ c, nx = Led c ∧ (∀ p ∈ ps c, m p.1 = some p.2) ∧ P i c) W ?_ ?_ ?_ ?_ (by show IsRangeIter _ _ _ _ _; rw [hn]; simpa using Heap.get?_push_size _ rfl) (F.push _) (fun p hp => ⟨Heap.get?_push_of_some _ (N p hp).1, (N p hp).2⟩) ⟨c₀, rfl, hk, hp⟩ ?_ ?_
  · intro hm
    exact absurd F.ns.lt ((List.mem_singleton.mp hm) ▸ Nat.lt_irrefl _)
  · intro b hb
    rw [List.mem_singleton.mp hb]
    exact next_is_new F
  · intro p hp hI
    exact absurd (Heap.lt_size (N p hp).1) ((List.mem_singleton.mp hI) ▸ Nat.lt_irrefl _)
  · intro p hp hI
    exact absurd (Heap.lt_size (N p hp).1) ((List.mem_singleton.mp hI) ▸ Nat.lt_irrefl _)
  · rintro i v m₁ nx h tk own hi ⟨_, t, rfl⟩ _ hoff ⟨c, rfl, hk', hp'⟩ F₁ N₁
    have e1 : a₀ + (i : Int) * 1 = a₀ + (i : Int) := by omega
    rw [e1] at F₁
    refine wpAny_mono (turn c i t m₁ h tk own hi hoff hp' ?_ N₁) (fun f s₂ p => endR_up (fun c m h1 h2 => ⟨c, rfl, h1, h2⟩) p) fun _ _ e => e
    have em : kstB m₁ (ps c) = m₁ := funext fun y => kstB_eq hk' fun _ => rfl
    rw [em]
    exact F₁
  · rintro m₁ nx h tk ⟨c, rfl, hk', hp'⟩ F₁ N₁
    exact done c m₁ h tk hp' (fr_kst F₁ hk') N₁
end
end Mine
namespace Mine
/-- a contract of a def: what it asks, what it gives back, which ledger it leaves -/
abbrev Ctr (prog : Program) (w : World) (K : Frag) (p : Program) (loose : List Str) (mean : ExcName → Option Value) (mg mb : Str → Option Value) (Xt : Heap → Prop) (f : Addr) (rm : Nat) (news : List (Addr × Obj)) (pre : Prop) (vs : List Value) (Ret : Value → List (Addr × Obj) → Prop) : Prop :=
  ∀ (dp un : Nat) (gd : Option (List Code)) (cn : Str) (cs : Scope) (a : Addr) (ccd : Value) (cl : List (Str × Addr)) (outer : List Env) (A₀ : Around) (base h₀ : Heap) (L : Addr) (m : Str → Option Value) (s : Shared) (Q E : Value → Shared → Prop),
    Xt base → Below A₀ base outer h₀ → Fr h₀ L s.heap m → K.In h₀ → News h₀ L s.heap news → Top p loose mean mg mb h₀ → cs.kind = .function →
    pre → dp + rm < recursionLimit → un + 8 * rm < cLine →
    (∀ v news' h' tk', Ret v news' → Fr h₀ L h' m → News h₀ L h' news' → Q v { s with heap := h', toks := tk' }) →
      codeAny (model prog w) (ktrTop dp un gd cn cs L a ccd cl outer) (.call (.ref f) ⟨vs, []⟩) (fun r s' => match r with | .ok (.ret v) => Q v s' | .ok _ => False | .error e => E e s') s
theorem ctr_use {prog : Program} {w : World} {K : Frag} {p : Program} {loose : List Str} {mean : ExcName → Option Value} {mg mb : Str → Option Value} {Xt : Heap → Prop} {f : Addr} {rm : Nat} {news : List (Addr × Obj)} {pre : Prop} {vs : List Value} {Ret : Value → List (Addr × Obj) → Prop}
    {dp un : Nat} {gd : Option (List Code)} {cn : Str} {cs : Scope} {a : Addr} {ccd : Value} {cl : List (Str × Addr)} {outer : List Env} {A₀ : Around} {base h₀ : Heap} {L : Addr} {m : Str → Option Value} {s : Shared} {Q E : Value → Shared → Prop}
    (C : Ctr prog w K p loose mean mg mb Xt f rm news pre vs Ret) (X0 : Xt base) (B : Below A₀ base outer h₀) (F : Fr h₀ L s.heap m) (X : K.In h₀) (N : News h₀ L s.heap news) (T : Top p loose mean mg mb h₀) (hk : cs.kind = .function)
    (hp : pre) (hd : dp + rm < recursionLimit) (hu : un + 8 * rm < cLine)
    (ret : ∀ v news' h' tk', Ret v news' → Fr h₀ L h' m → News h₀ L h' news' → Q v { s with heap := h', toks := tk' }) :
      wpAny (model prog w) (ktrTop dp un gd cn cs L a ccd cl outer) (call (.ref f) vs) Q E s := wpAny_call (C _ _ _ _ _ _ _ _ _ _ _ _ _ _ _ _ _ X0 B F X N T hk hp hd hu ret)
end Mine
namespace Mine
theorem ret_int {x y : Int} {t : Tok} (h : y = x) : ∃ t', Value.int y t = Value.int x t' := ⟨t, by rw [h]⟩
theorem ret_str {x y : Str} {t : Tok} (h : y = x) : ∃ t', Value.str y t = Value.str x t' := ⟨t, by rw [h]⟩
end Mine
namespace Mine
theorem off_all {own news : List (Addr × Obj)} {D : Addr} {adr : List Addr} (l1 : ∀ p ∈ news, p.1 < D) (ho : OwnOff own adr) (hD : D ∈ adr) : ∀ p ∈ news ++ own, p.1 ≠ D := by
  intro p hp
  rcases List.mem_append.mp hp with h | h
  · exact Nat.ne_of_lt (l1 p h)
  · exact ho p h D hD
theorem off_more {own news : List (Addr × Obj)} {D : Addr} {adr : List Addr} (l1 : ∀ p ∈ news, p.1 ≠ D) (ho : OwnOff own adr) (hD : D ∈ adr) : ∀ p ∈ news ++ own, p.1 ≠ D := by
  intro p hp
  rcases List.mem_append.mp hp with h | h
  · exact l1 p h
  · exact ho p h D hD
end Mine
end
section
theorem Mine.forget_MyF : True := by
  w_top off
  trivial
open PySem PySem.W PyProof.Rows PySem.Calls PySem.Spec PySem.Builtin PySem.Builtin.ObjectAttr
set_option maxRecDepth 100000
set_option maxHeartbeats 2000000
namespace Mine
theorem slot_fn_setattr : Slot "function" (Str.ofString "__setattr__") "object.__setattr__" :=
  .of (owner := "object") (n := "__setattr__") (by rw [typeLookup_type, builtinLookup_eq_fast]; kernel_rfl) (by decide +kernel) (by decide +kernel) (by decide +kernel)
    (by first | exact .inl (by decide +kernel) | exact .inr (by decide +kernel)) (by rw [isSubtype_type]; kernel_rfl)
theorem entry_setattr : entryFor table "object.__setattr__" = some Builtin.«object.__setattr__» := entryFor_of_fast (by kernel_rfl)
theorem fn_read : typeLookup (.type "function") (Str.ofString "read") = pure none := by rw [typeLookup_type, builtinLookup_eq_fast]; kernel_rfl
theorem slot_ci_next : Slot "callable_iterator" (Str.ofString "__next__") "callable_iterator.__next__" :=
  .of (owner := "callable_iterator") (n := "__next__") (by rw [typeLookup_type, builtinLookup_eq_fast]; kernel_rfl) (by decide +kernel) (by decide +kernel) (by decide +kernel)
    (by first | exact .inl (by decide +kernel) | exact .inr (by decide +kernel)) (by rw [isSubtype_type]; kernel_rfl)
theorem slot_ci_iter : Slot "callable_iterator" (Str.ofString "__iter__") "callable_iterator.__iter__" :=
  .of (owner := "callable_iterator") (n := "__iter__") (by rw [typeLookup_type, builtinLookup_eq_fast]; kernel_rfl) (by decide +kernel) (by decide +kernel) (by decide +kernel)
    (by first | exact .inl (by decide +kernel) | exact .inr (by decide +kernel)) (by rw [isSubtype_type]; kernel_rfl)
theorem entry_ci_next : entryFor table "callable_iterator.__next__" = some Builtin.«callable_iterator.__next__» := entryFor_of_fast (by kernel_rfl)
end Mine
end
section
theorem Mine.forget_MyA : True := by
  w_top off
  trivial
open PySem PySem.W PyProof.Rows PySem.Calls PySem.Spec PySem.Builtin PySem.Builtin.ObjectAttr
set_option maxRecDepth 100000
set_option maxHeartbeats 2000000
namespace Mine
section
variable {prog : Program} {w : World} {A : Around} {E : Value → Shared → Prop} {s : Shared} {Q : Unit → Shared → Prop}
theorem setAttr_fn {f : Addr} {fd : FuncData} {v : Value} (hf : s.heap.get? f = some { cls := .type "function", data := .func fd })
   (h : ∀ d hsh tk kt h', d = s.heap.objs.size → h'.get? d = some (dictOf [⟨hsh, .str (Str.ofString "read") kt, v⟩] 1) → h'.get? f = some { cls := .type "function", dict := some d, data := .func fd } →
      (∀ b o, b ≠ f → s.heap.get? b = some o → h'.get? b = some o) → Q () { s with heap := h', toks := tk }) : wpAny (model prog w) A (setAttr (.ref f) (Str.ofString "read") v) Q E s := by
  have hT : ∀ tk, ({ s with toks := tk } : Shared).TypeIs (.ref f) "function" := fun _ => ⟨_, hf, rfl⟩
  have hr := fn_read
  unfold setAttr
  refine wpAny_bind (wpAny_mkText (wpAny_bind (wpAny_callSpecial?_slot (T := "function") (hT _) slot_fn_setattr (wpAny_call_entry slot_fn_setattr (hT _) entry_setattr ?_ (by kernel_rfl)))))
  unfold Builtin.«object.__setattr__»
  wp_walk
  refine wpAny_askSetting ?_
  wp_walk
  have hlt := Heap.lt_size hf
  have hne : f ≠ s.heap.objs.size := fun e => absurd hlt (by rw [e]; exact Nat.lt_irrefl _)
  have hD : ((s.heap.push { cls := Value.type "dict", data := Data.dict #[] }).update f fun o => { cls := o.cls, dict := some s.heap.objs.size, data := o.data, slots := o.slots }).get? s.heap.objs.size = some { cls := Value.type "dict", data := Data.dict #[] } :=
    Heap.get?_update_of_ne _ hne (Heap.get?_push_size _ rfl)
  refine wpAny_loadPart hD ?_
  dsimp only
  rw [if_neg (by decide)]
  refine wpAny_updatePart hD ?_
  refine wpAny_bind (wpAny_lookBehind (Heap.get?_update_self _ hD rfl) ?_ ?_)
  · exact pastItsLine_dict (by show 1 ≤ sizeLine + 1; decide)
  refine wpAny_pure ⟨_, rfl, wpAny_pure ?_⟩
  refine h _ _ _ _ _ rfl (Heap.get?_update_self _ hD rfl) (Heap.get?_update_of_ne _ (Ne.symm hne) (Heap.get?_update_self _ (Heap.get?_push_of_some _ hf) rfl)) fun b o hb e => ?_
  refine Heap.get?_update_of_ne _ ?_ (Heap.get?_update_of_ne _ (Ne.symm hb) (Heap.get?_push_of_some _ e))
  intro q; rw [← q] at e; exact absurd (Heap.lt_size e) (Nat.lt_irrefl _)
variable {h₀ : Heap} {L : Addr} {m : Str → Option Value} {news : List (Addr × Obj)} {g : Obj → List (Addr × Obj)}
theorem setAttr_fnN {f : Addr} {fd : FuncData} {v : Value} (F : Fr h₀ L s.heap m) (N : News h₀ L s.heap news) (U : UpdF f { cls := .type "function", data := .func fd } news g)
   (h : ∀ d hsh tk kt h', Fr h₀ L h' m → News h₀ L h' ((d, dictOf [⟨hsh, .str (Str.ofString "read") kt, v⟩] 1) :: g { cls := .type "function", dict := some d, data := .func fd }) → (∀ p ∈ news, p.1 < d) → Q () { s with heap := h', toks := tk }) :
   wpAny (model prog w) A (setAttr (.ref f) (Str.ofString "read") v) Q E s := by
  obtain ⟨pre, post, rfl, hg, h1, h2⟩ := U.split
  have hm := N (f, _) (List.mem_append_right _ (.head _))
  have hLs : L < s.heap.objs.size := F.ns.lt
  refine setAttr_fn hm.1 fun d hsh tk kt h' hd hd1 hf1 hk => ?_
  have old : ∀ b o, h₀.get? b = some o → h'.get? b = some o := fun b o e => hk b o (fun q => by rw [q, hm.2.2] at e; cases e) (F.keep b o e)
  refine h d hsh tk kt h' ⟨?_, old, F.above⟩ ?_ fun p hp => hd ▸ Heap.lt_size (N p hp).1
  · obtain ⟨oL, es, ep, e, r⟩ := F.ns
    exact ⟨oL, es, ep, hk _ _ (Ne.symm hm.2.1) e, r⟩
  · rw [hg]
    intro q hq
    rcases List.mem_cons.mp hq with rfl | hq
    · exact ⟨hd1, by rw [hd]; exact Nat.ne_of_gt hLs, by rw [hd]; exact next_is_new F⟩
    rcases List.mem_append.mp hq with hq | hq
    · have := N q (List.mem_append_left _ hq)
      exact ⟨hk _ _ (h1 q hq) this.1, this.2⟩
    rcases List.mem_cons.mp hq with rfl | hq
    · exact ⟨hf1, hm.2⟩
    · have := N q (List.mem_append_right _ (List.mem_cons_of_mem _ hq))
      exact ⟨hk _ _ (h2 q hq) this.1, this.2⟩
end
end Mine
end
section
theorem Mine.forget_MyX : True := by
  w_top off
  trivial
open PySem PySem.W PyProof.Rows PySem.Calls PySem.Spec
set_option maxRecDepth 100000
namespace Mine
abbrev wsS : Str := Str.ofString "\n\t\r "
abbrev fnO (fd : FuncData) : Obj := { cls := .type "function", data := .func fd }
abbrev fnD (fd : FuncData) (d : Addr) : Obj := { cls := .type "function", dict := some d, data := .func fd }
/-- the objects of one lexer -/
structure Lx where
  pbL : Addr
  lx : Addr
  dx : Addr
  sd : Addr
  st : Addr
  c2 : Addr
  rd : Addr
  c1 : Addr
  atL : Addr
  cAt : Addr
  cTx : Addr
  oc2 : Obj
  oc1 : Obj
  oAt : Obj
  oTx : Obj
  fst : FuncData
  frd : FuncData
  h1 : Int
  h2 : Int
  h3 : Int
  h4 : Int
  h5 : Int
  k1 : Tok
  k2 : Tok
  k3 : Tok
  k4 : Tok
  k5 : Tok
  tw : Tok
/-- what a lexer's reading changes: the place, the row, the words pushed back (with their tokens) -/
structure Ls where
  pos : Int
  ln : Int
  pb : Array Value
  tp : Tok
  ea : Nat
  tl : Tok
  ep : Nat
abbrev Lx.core (x : Lx) (pos : Int) (tp : Tok) (ea : Nat) : List (Addr × Obj) :=
  [(x.rd, fnO x.frd), (x.c1, x.oc1), (x.atL, listOf #[.int pos tp] ea), (x.cAt, x.oAt), (x.cTx, x.oTx)]
abbrev Lx.more (C : Addr) (x : Lx) (y : Ls) : List (Addr × Obj) :=
  [(x.pbL, listOf y.pb y.ep), (x.lx, instObj C x.dx),
   (x.dx, dictOf [⟨x.h1, .str (Str.ofString "lineno") x.k1, .int y.ln y.tl⟩, ⟨x.h2, .str (Str.ofString "instream") x.k2, .ref x.st⟩, ⟨x.h3, .str (Str.ofString "whitespace") x.k3, .str wsS x.tw⟩, ⟨x.h4, .str (Str.ofString "pushback") x.k4, .ref x.pbL⟩] 4),
   (x.sd, dictOf [⟨x.h5, .str (Str.ofString "read") x.k5, .ref x.rd⟩] 1), (x.st, fnD x.fst x.sd), (x.c2, x.oc2)]
abbrev Lx.led (C : Addr) (x : Lx) (y : Ls) : List (Addr × Obj) := x.core y.pos y.tp y.ea ++ x.more C y
theorem lex_perm {a1 a2 a3 a4 a5 a6 a7 a8 a9 a10 a11 : Addr × Obj} {rest : List (Addr × Obj)} : ∀ p ∈ a7 :: a8 :: a9 :: a10 :: a11 :: a1 :: a2 :: a3 :: a4 :: a5 :: a6 :: rest, p ∈ a1 :: a2 :: a3 :: a4 :: a5 :: a6 :: a7 :: a8 :: a9 :: a10 :: a11 :: rest := by
  intro p hp
  simp only [List.mem_cons] at hp ⊢
  rcases hp with h | h | h | h | h | h | h | h | h | h | h | h <;> simp [h]
structure Lx.Ord (x : Lx) : Prop where
  a1 : @LT.lt Nat _ x.cTx x.cAt
  a2 : @LT.lt Nat _ x.cAt x.atL
  a3 : @LT.lt Nat _ x.atL x.rd
  a4 : @LT.lt Nat _ x.c1 x.cTx ∨ (@LT.lt Nat _ x.atL x.c1 ∧ @LT.lt Nat _ x.c1 x.rd)
  a5 : @LT.lt Nat _ x.rd x.st
  a6 : @LT.lt Nat _ x.c2 x.cTx ∨ (@LT.lt Nat _ x.rd x.c2 ∧ @LT.lt Nat _ x.c2 x.st)
  a7 : @LT.lt Nat _ x.st x.sd
  a8 : @LT.lt Nat _ x.sd x.dx
  a9 : @LT.lt Nat _ x.dx x.lx
  a10 : @LT.lt Nat _ x.lx x.pbL
abbrev ReadOk (prog : Program) (w : World) (K : Frag) (p : Program) (loose : List Str) (mean : ExcName → Option Value) (mg mb : Str → Option Value) (Xt : Heap → Prop) (x : Lx) (text : Str) : Prop :=
  ∀ (pos : Int) (tp : Tok) (ea : Nat) (t : Tok) (rest : List (Addr × Obj)),
    Ctr prog w K p loose mean mg mb Xt x.rd 1 (x.core pos tp ea ++ rest) (0 ≤ pos ∧ pos ≤ text.length ∧ ∀ q ∈ rest, q.1 ≠ x.atL) [.int 1 t]
      (fun v nw => ∃ tv tp', v = .str (Txt.slice text (some pos) (some (pos + 1))) tv ∧ nw = x.core (pos + (Txt.slice text (some pos) (some (pos + 1))).length) tp' ea ++ rest)
end Mine
end
section
theorem Mine.forget_MyG : True := by
  w_top off
  trivial
open PySem PySem.W PyProof.Rows PySem.Calls PySem.Spec PySem.Builtin PySem.Builtin.ObjectAttr
set_option maxRecDepth 100000
set_option maxHeartbeats 2000000
namespace Mine
theorem fn_ga : typeLookup (.type "function") (Str.ofString "__getattribute__") = pure (some (.builtin "object.__getattribute__")) := by rw [typeLookup_type, builtinLookup_eq_fast]; kernel_rfl
theorem fn_gat : typeLookup (.type "function") (Str.ofString "__getattr__") = pure none := by rw [typeLookup_type, builtinLookup_eq_fast]; kernel_rfl
theorem slot_fn_ga : Slot "function" (Str.ofString "__getattribute__") "object.__getattribute__" :=
  .of (owner := "object") (n := "__getattribute__") (by rw [typeLookup_type, builtinLookup_eq_fast]; kernel_rfl) (by decide +kernel) (by decide +kernel) (by decide +kernel)
    (by first | exact .inl (by decide +kernel) | exact .inr (by decide +kernel)) (by rw [isSubtype_type]; kernel_rfl)
theorem entry_ga : entryFor table "object.__getattribute__" = some Builtin.«object.__getattribute__» := entryFor_of_fast (by kernel_rfl)
section
variable {prog : Program} {w : World} {A : Around} {E : Value → Shared → Prop} {s : Shared} {Q : Value × List Value → Shared → Prop} {pl : Sem Bool}
theorem getMethod_fn {f d : Addr} {fd : FuncData} {rd : Addr} {hsh : Int} {kt : Tok} (hf : s.heap.get? f = some (fnD fd d)) (hd : s.heap.get? d = some (dictOf [⟨hsh, .str (Str.ofString "read") kt, .ref rd⟩] 1))
   (h : ∀ tk, Q (.ref rd, []) { s with toks := tk }) : wpAny (model prog w) A (getMethod (.ref f) (Str.ofString "read") pl) Q E s := by
  have hT : ∀ tk, ({ s with toks := tk } : Shared).TypeIs (.ref f) "function" := fun _ => ⟨_, hf, rfl⟩
  have hT0 : s.TypeIs (.ref f) "function" := ⟨_, hf, rfl⟩
  have hr := fn_read
  have hcan := PySem.F.canon_object_ga
  unfold getMethod
  refine wpAny_bind (wpAny_specialOf hT0 fn_ga ?_)
  dsimp only
  rw [hcan, if_neg (by decide)]
  refine wpAny_bind (wpAny_specialOf hT0 fn_gat ?_)
  rw [if_neg (by decide)]
  refine wpAny_bind (wpAny_specialOf hT0 fn_read ?_)
  refine wpAny_bind ?_
  unfold getAttr
  refine wpAny_bind (wpAny_mkText ?_)
  unfold getAttrBy
  refine wpAny_holding (wpAny_bind (wpAny_typeOf (hT _) (wpAny_bind (wpAny_of_eq fn_ga ?_))))
  dsimp only
  rw [if_neg (by decide)]
  unfold getAttrByItsOwn
  wp_walk
  refine wpAny_of_eq (slot_fn_ga.bind _) ?_
  dsimp only
  refine wpAny_call_entry slot_fn_ga (hT _) entry_ga ?_ (by kernel_rfl)
  unfold Builtin.«object.__getattribute__»
  wp_walk
  refine ⟨_, rfl, ?_⟩
  wp_walk
  exact h _
end
end Mine
end
section
theorem Mine.forget_MyI : True := by
  w_top off
  trivial
open PySem PySem.W PyProof.Rows PySem.Calls PySem.Spec PySem.Builtin
set_option maxRecDepth 100000
set_option maxHeartbeats 2000000
namespace Mine
theorem meth_call : typeLookup (.type "method") (Str.ofString "__call__") = pure (some (.builtin "method.__call__")) := by rw [typeLookup_type, builtinLookup_eq_fast]; kernel_rfl
theorem kind_iter : builtinKind "iter" = none := by decide +kernel
theorem plain_iter : plainId "iter" = true := by decide +kernel
theorem entry_iter : entryFor table "iter" = some Builtin.«iter» := entryFor_of_fast (by kernel_rfl)
theorem args_iter2 (a b : Value) : argsOk "iter" ⟨[a, b], []⟩ := by kernel_rfl
theorem args_ci_next (a : Value) : argsOk "callable_iterator.__next__" ⟨[a], []⟩ := by kernel_rfl
theorem args_ci_iter (a : Value) : argsOk "callable_iterator.__iter__" ⟨[a], []⟩ := by kernel_rfl
theorem entry_ci_iter : entryFor table "callable_iterator.__iter__" = some Builtin.«dict_keyiterator.__iter__» :=
  entryFor_alias (id' := "dict_keyiterator.__iter__") (by kernel_rfl) (by first | rfl | decide +kernel | (unfold String.splitOn; simp +decide [String.splitOnAux])) (by decide +kernel) (by kernel_rfl)
abbrev ciO (a b : Value) (e : Bool) : Obj := { cls := .type "callable_iterator", data := .fields #[a, b, .bool e] }
section
variable {prog : Program} {w : World} {A : Around} {E : Value → Shared → Prop} {s : Shared}
theorem call_iter2 {q : Addr} {f self sent : Value} {Q : Value → Shared → Prop} (hq : s.heap.get? q = some (methodObj f self))
    (h : Q (.ref s.heap.objs.size) { s with heap := s.heap.push (ciO (.ref q) sent false) }) : wpAny (model prog w) A (call (.builtin "iter") [.ref q, sent]) Q E s := by
  have hT : s.TypeIs (.ref q) "method" := ⟨_, hq, rfl⟩
  refine Calls.call_function_entry kind_iter plain_iter entry_iter (args_iter2 _ _) ?_
  have hm := meth_call
  unfold Builtin.«iter»
  wp_walk
  exact ⟨_, rfl, h⟩
theorem wpAny_callBorrowed {f : Value} {pos : List Value} {Q : Value → Shared → Prop} {M : Model} (h : wpAny M A (call f pos) Q E s) : wpAny M A (callBorrowed f pos) Q E s := by
  intro Γ p hΓ
  have h1 := h Γ p hΓ
  unfold call at h1
  rw [Sem.wp_runValue] at h1
  unfold callBorrowed
  rw [Sem.wp]
  refine wpCode_mono (fun r s' q => ?_) h1
  cases r with
  | error e => rw [Sem.wp]; exact q
  | ok fl => cases fl <;> first | exact q.elim | (rw [Sem.wp]; exact q)
theorem next_ci {it q f : Addr} {self : Value} {ts : Tok} {Q : Option Value → Shared → Prop} (hit : s.heap.get? it = some (ciO (.ref q) (.str (Str.ofString "") ts) false)) (hq : s.heap.get? q = some (methodObj (.ref f) self)) (hf : FnAt f s.heap)
    (hh : A.handled = none)
    (hc : wpAny (model prog w) A.in1 (call (.ref q) []) (fun v s' => ∃ c tc, v = .str c tc ∧ s'.heap.get? it = some (ciO (.ref q) (.str (Str.ofString "") ts) false) ∧ s'.heap.get? q = some (methodObj (.ref f) self) ∧ FnAt f s'.heap ∧
      (c ≠ Str.ofString "" → ∀ tk, Q (some v) { s' with toks := tk }) ∧ (c = Str.ofString "" → ∀ h' tk, h'.get? it = some (ciO .none .none true) → (∀ b o, b ≠ it → s'.heap.get? b = some o → h'.get? b = some o) → Q none { s' with heap := h', toks := tk })) (fun _ _ => False) s) :
    wpAny (model prog w) A (pyNext (.ref it)) Q E s := by
  have hT : s.TypeIs (.ref it) "callable_iterator" := ⟨_, hit, rfl⟩
  unfold pyNext
  refine wpAny_bind (wpAny_attempt (wpAny_callSpecial?_slot (name := Str.ofString "__next__") hT slot_ci_next (wpAny_call_entry slot_ci_next hT entry_ci_next ?_ (args_ci_next _))))
  unfold Builtin.«callable_iterator.__next__»
  wp_walk
  obtain ⟨oc, od, fd, sl, hf⟩ := hf
  refine wpAny_load hf ?_
  wp_walk
  refine wpAny_callBorrowed (wpAny_mono hc (fun v s' hv => ?_) fun _ _ x => x.elim)
  obtain ⟨c, tc, rfl, hit', hq', hf', k1, k2⟩ := hv
  wp_walk
  refine wpAny_mono (Q := fun b s'' => b = (Str.ofString "" == c) ∧ s'' = s') (E := fun _ _ => False) ?_ (fun b s'' hb => ?_) fun _ _ x => x.elim
  · show wpAny _ _ (if (Value.str (Str.ofString "") ts == Value.str c tc) = true then _ else _) _ _ s'
    refine wpAny_ite ?_
    split
    · rename_i he
      have he := eq_of_beq he
      injection he with e1 e2
      subst e1
      exact wpAny_bind (wpAny_rule (wpAny_pure ⟨by simp, rfl⟩))
    · show wpAny _ _ (richCompare CmpOp.Eq (Value.str (Str.ofString "") ts) (Value.str c tc) >>= fun r => truthOfDropped r) _ _ s'
      refine wpAny_bind (eq_str (prog := prog) (w := w) ?_)
      exact wpAny_truthy_bool ⟨rfl, rfl⟩
  · obtain ⟨rfl, rfl⟩ := hb
    by_cases hc0 : c = Str.ofString ""
    · subst hc0
      rw [if_neg (by simp)]
      wp_walk
      obtain ⟨oc, od, fd, sl, hf'⟩ := hf'
      refine wpAny_load hf' ?_
      wp_walk
      refine wpAny_raiseNew_none hh ?_
      refine wpAny_bind (wpAny_isInstance (T := "StopIteration") (b := true) ⟨_, Heap.get?_push_size _ rfl, rfl⟩ isSubtype_stop ?_)
      refine wpAny_pure (k2 rfl _ _ ?_ ?_)
      · exact Heap.get?_push_of_some _ (Heap.get?_push_of_some _ (Heap.get?_update_self _ (Heap.get?_update_self _ (Heap.get?_update_self _ hit' rfl) rfl) rfl))
      · intro b o hb e
        exact Heap.get?_push_of_some _ (Heap.get?_push_of_some _ (Heap.get?_update_of_ne _ (Ne.symm hb) (Heap.get?_update_of_ne _ (Ne.symm hb) (Heap.get?_update_of_ne _ (Ne.symm hb) e))))
    · rw [if_pos (by simp; exact fun e => hc0 e.symm)]
      wp_walk
      refine ⟨_, rfl, wpAny_pure ?_⟩
      exact k1 hc0 _
theorem next_ci_end {it : Addr} {Q : Option Value → Shared → Prop} (hit : s.heap.get? it = some (ciO .none .none true)) (hh : A.handled = none)
    (h : ∀ h', (∀ b o, s.heap.get? b = some o → h'.get? b = some o) → Q none { s with heap := h' }) : wpAny (model prog w) A (pyNext (.ref it)) Q E s := by
  have hT : s.TypeIs (.ref it) "callable_iterator" := ⟨_, hit, rfl⟩
  unfold pyNext
  refine wpAny_bind (wpAny_attempt (wpAny_callSpecial?_slot (name := Str.ofString "__next__") hT slot_ci_next (wpAny_call_entry slot_ci_next hT entry_ci_next ?_ (args_ci_next _))))
  unfold Builtin.«callable_iterator.__next__»
  wp_walk
  refine wpAny_raiseNew_none hh ?_
  refine wpAny_bind (wpAny_isInstance (T := "StopIteration") (b := true) ⟨_, Heap.get?_push_size _ rfl, rfl⟩ isSubtype_stop ?_)
  exact wpAny_pure (h _ fun b o e => Heap.get?_push_of_some _ (Heap.get?_push_of_some _ e))
theorem iter_ci {it : Addr} {a b : Value} {e : Bool} {Q : Value → Shared → Prop} (hit : s.heap.get? it = some (ciO a b e)) (h : Q (.ref it) s) : wpAny (model prog w) A (pyIter (.ref it)) Q E s := by
  have hT : s.TypeIs (.ref it) "callable_iterator" := ⟨_, hit, rfl⟩
  refine wpAny_pyIter_slot hT slot_ci_iter (wpAny_call_entry slot_ci_iter hT entry_ci_iter ?_ (args_ci_iter _))
  show wpAny _ _ (ret (.ref it)) _ _ s
  exact wpAny_pure ⟨_, rfl, "callable_iterator", _, hT, slot_ci_next.lookup, h⟩
end
end Mine
end
section
theorem Mine.forget_MyFor : True := by
  w_top off
  trivial
open PySem PySem.W PyProof.Rows PySem.Calls PySem.Spec
set_option maxRecDepth 100000
namespace Mine
section
variable {prog : Program} {w : World} {A : Around} {E : Value → Shared → Prop} {Q : Flow → Shared → Prop} {s : Shared} {env : Env} {h₀ : Heap} {L : Addr} {x : Str} {px : Pos} {body : List Stmt}
theorem iter2_N {m : Str → Option Value} {news : List (Addr × Obj)} {q : Addr} {f self sent : Value} {Q : Value → Shared → Prop} (F : Fr h₀ L s.heap m) (N : News h₀ L s.heap news) (hq : (q, methodObj f self) ∈ news)
    (h : ∀ it h', Fr h₀ L h' m → News h₀ L h' ((it, ciO (.ref q) sent false) :: news) → (∀ p ∈ news, p.1 < it) → Q (.ref it) { s with heap := h' }) : wpAny (model prog w) A (call (.builtin "iter") [.ref q, sent]) Q E s :=
  call_iter2 (N _ hq).1 (h _ _ (F.push _) (N.push F _) fun p hp => Heap.lt_size (N p hp).1)
theorem for_all {σ : Type} {it : Value} {m₀ : Str → Option Value} (Led : σ → List (Addr × Obj)) (ps : σ → List (Str × Value)) (P : σ → Prop) (μ : σ → Nat) (Post : σ → Prop) (c₀ : σ)
    (F : Fr h₀ L s.heap m₀) (N : News h₀ L s.heap (Led c₀)) (hk : ∀ p ∈ ps c₀, m₀ p.1 = some p.2) (hp : P c₀)
    (turn : ∀ (c : σ) (u : Str → Option Value) h tk, P c → Fr h₀ L h (kstB u (ps c)) → News h₀ L h (Led c) →
      wpAny (model prog w) A (pyNext it) (fun r s₁ => match r with
        | none => JoinA h₀ L s Led ps Post s₁
        | some v => wpAny (model prog w) A (storeName env x v) (fun _ s₂ => wpAny (model prog w) A (execs body env) (EndA h₀ L s Led ps P μ Post Q c) E s₂) E s₁) E { s with heap := h, toks := tk })
    (next : ∀ (c : σ) (u : Str → Option Value) h tk, Post c → Fr h₀ L h (kstB u (ps c)) → News h₀ L h (Led c) → Q .next { s with heap := h, toks := tk })
    (hE : PassesOwn (model prog w) A env E := by passes_own) :
    codeAny (model prog w) A (.forLoop (.Name x px) it body [] env) (fun r s' => match r with | .ok f => Q f s' | .error e => cameBackBy (model prog w) A env E e s') s := by
  have fin : ∀ s₂, JoinA h₀ L s Led ps Post s₂ → Q .next s₂ := by
    rintro _ ⟨c', h', tk, m', news', rfl, F, N, hn, hk, hp⟩
    refine next c' m' h' tk hp ?_ fun p q => N p (hn p q)
    have em : kstB m' (ps c') = m' := funext fun y => kstB_eq hk fun _ => rfl
    rw [em]; exact F
  refine codeAny_forLoop (fun n s' => ∃ c h₁ tk₁ m₁, s' = { s with heap := h₁, toks := tk₁ } ∧ Fr h₀ L h₁ m₁ ∧ News h₀ L h₁ (Led c) ∧ μ c = n ∧ (∀ p ∈ ps c, m₁ p.1 = some p.2) ∧ P c) ?_ (μ c₀) ⟨c₀, s.heap, s.toks, m₀, rfl, F, N, rfl, hk, hp⟩
  rintro n s' ⟨c, h₁, tk₁, m₁, rfl, F₁, N₁, hn, hk₁, hp₁⟩
  have em : kstB m₁ (ps c) = m₁ := funext fun y => kstB_eq hk₁ fun _ => rfl
  refine wpAny_mono (turn c m₁ h₁ tk₁ hp₁ (by rw [em]; exact F₁) N₁) (fun r s₁ h => ?_) hE
  cases r with
  | none => exact wpAny_execs_nil (fin _ h)
  | some v =>
    refine wpAny_mono (wpAny_assign_Name h) (fun _ s₂ h => ?_) hE
    refine wpAny_mono h (fun f s₃ q => ?_) hE
    cases f with
    | ret v => exact q
    | brk => exact fin _ q
    | next =>
      obtain ⟨c', h', tk', m', news', rfl, F', N', hn', hk9, hp9, hm9⟩ := q
      exact ⟨μ c', hn ▸ hm9, c', h', tk', m', rfl, F', fun p hp => N' p (hn' p hp), rfl, hk9, hp9⟩
    | cont =>
      obtain ⟨c', h', tk', m', news', rfl, F', N', hn', hk9, hp9, hm9⟩ := q
      exact ⟨μ c', hn ▸ hm9, c', h', tk', m', rfl, F', fun p hp => N' p (hn' p hp), rfl, hk9, hp9⟩
end
end Mine
end
section
theorem Mine.forget_MyT : True := by
  w_top off
  trivial
open PySem PySem.W PyProof.Rows PySem.Calls PySem.Spec PySem.Builtin PySem.Builtin.Str
set_option maxRecDepth 100000
namespace Mine
def isWs (c : Nat) : Bool := c == 10 || c == 9 || c == 13 || c == 32
def unq : List Nat → List Nat × List Nat
  | [] => ([], [])
  | c :: r => if isWs c then ([], r) else if c = 92 then (match r with | [] => ([], []) | d :: r' => (d :: (unq r').1, (unq r').2)) else (c :: (unq r).1, (unq r).2)
def gtok : List Nat → List Nat × List Nat
  | [] => ([], [])
  | c :: r => if isWs c then gtok r else unq (c :: r)
def okTok : List Nat → Prop
  | [] => True
  | c :: r => if isWs c then okTok r else c ≠ 34
def nls (l : List Nat) : Int := (l.filter (· == 10)).length
abbrev chAt (text : Str) (pos : Int) : Str := Txt.slice text (some pos) (some (pos + 1))
abbrev txR (text : Str) (pos : Int) : List Nat := (lst text).drop pos.toNat
theorem ofEmpty : Str.ofString "" = ⟨#[]⟩ := by decide +kernel
theorem ch_at {text : Str} {pos : Int} (h0 : 0 ≤ pos) (h1 : pos < text.length) : ∃ c, chAt text pos = ⟨#[c]⟩ ∧ txR text pos = c :: txR text (pos + 1) := by
  have hl : pos.toNat < (lst text).length := by rw [← len_lst]; (first | lia | omega)
  refine ⟨(lst text)[pos.toNat], ?_, ?_⟩
  · have := eq_of_beq (slice_one_closes h0 h1)
    rw [chAt, this]
    simp [lst, Array.getD]
    have : pos.toNat < text.cps.size := by simpa [lst] using hl
    simp [this]
  · have e : (pos + 1).toNat = pos.toNat + 1 := by (first | lia | omega)
    rw [txR, txR, e, List.drop_eq_getElem_cons hl]
theorem ch_end {text : Str} {pos : Int} (h1 : pos = text.length) : chAt text pos = Str.ofString "" ∧ txR text pos = [] := by
  subst h1
  constructor
  · rw [ofEmpty]
    have e := eq_of_beq (slice_closesL (x := text) (i := text.length) (j := text.length) (by (first | lia | omega)) (by (first | lia | omega)) (by (first | lia | omega)))
    have e2 : chAt text text.length = Txt.slice text (some (text.length : Int)) (some (text.length : Int)) := by
      unfold chAt Txt.slice
      have : strSliceIndices (some (text.length : Int)) (some ((text.length : Int) + 1)) 1 text.length = strSliceIndices (some (text.length : Int)) (some (text.length : Int)) 1 text.length := by
        have h0 : ¬ (text.length : Int) < 0 := by (first | lia | omega)
        have h1 : ¬ (text.length : Int) + 1 < 0 := by (first | lia | omega)
        have h2 : (1 : Int) > 0 := by decide
        have h3 : min ((text.length : Int) + 1) text.length = text.length := by (first | lia | omega)
        simp only [strSliceIndices, h0, h1, h2, if_false, if_true, h3, Int.min_self]
      rw [this]
    rw [e2, e]; simp
  · rw [txR, List.drop_eq_nil_of_le]; rw [← len_lst]; (first | lia | omega)
theorem tx_len {text : Str} {pos : Int} (h0 : 0 ≤ pos) (h1 : pos ≤ text.length) : ((txR text pos).length : Int) = text.length - pos := by
  rw [txR, List.length_drop, ← len_lst]; (first | lia | omega)
theorem one_ne_empty (c : Nat) : (⟨#[c]⟩ : Str) ≠ Str.ofString "" := by rw [ofEmpty]; simp
theorem len_one (c : Nat) : (⟨#[c]⟩ : Str).length = 1 := rfl
theorem one_is_nl (c : Nat) : ((⟨#[c]⟩ : Str) = Str.ofString "\n") ↔ c = 10 := by
  rw [show Str.ofString "\n" = ⟨#[10]⟩ from by decide +kernel]; simp
theorem one_is_bs (c : Nat) : ((⟨#[c]⟩ : Str) == Str.ofString "\\") = (c == 92) := by
  rw [show Str.ofString "\\" = ⟨#[92]⟩ from by decide +kernel, one_beq]
theorem one_is_qt (c : Nat) : ((⟨#[c]⟩ : Str) == Str.ofString "\"") = (c == 34) := by
  rw [show Str.ofString "\"" = ⟨#[34]⟩ from by decide +kernel, one_beq]
theorem nls_cons (c : Nat) (l : List Nat) : nls (c :: l) = (if c = 10 then 1 else 0) + nls l := by
  unfold nls
  rw [List.filter_cons]
  by_cases h : c = 10
  · simp [h]; (first | lia | omega)
  · simp [h]
end Mine
namespace Mine
/-- a sign read, an escaped one by the sign behind it -/
def escR (c : Nat) (r : List Nat) : List Nat × List Nat := if c = 92 then (match r with | [] => ([], []) | d :: r' => ([d], r')) else ([c], r)
theorem unq_nil : unq [] = ([], []) := by simp [unq]
theorem unq_esc {c : Nat} {r : List Nat} (h : isWs c = false) : unq (c :: r) = ((escR c r).1 ++ (unq (escR c r).2).1, (unq (escR c r).2).2) := by
  rw [unq.eq_def]
  unfold escR
  simp only [h, Bool.false_eq_true, if_false]
  by_cases hc : c = 92
  · subst hc
    cases r with
    | nil => simp [unq_nil]
    | cons d r' => simp
  · simp [hc]
theorem unq_ws {c : Nat} {r : List Nat} (h : isWs c = true) : unq (c :: r) = ([], r) := by rw [unq.eq_def]; simp [h]
theorem gtok_ws {c : Nat} {r : List Nat} (h : isWs c = true) : gtok (c :: r) = gtok r := by rw [gtok.eq_def]; simp [h]
theorem gtok_no {c : Nat} {r : List Nat} (h : isWs c = false) : gtok (c :: r) = unq (c :: r) := by rw [gtok.eq_def]; simp [h]
theorem okTok_ws {c : Nat} {r : List Nat} (h : isWs c = true) (ho : okTok (c :: r)) : okTok r := by rw [okTok.eq_def] at ho; simpa [h] using ho
theorem okTok_no {c : Nat} {r : List Nat} (h : isWs c = false) (ho : okTok (c :: r)) : c ≠ 34 := by rw [okTok.eq_def] at ho; simpa [h] using ho
theorem esc_len (c : Nat) (r : List Nat) : (escR c r).1.length + (escR c r).2.length ≤ r.length + 1 := by
  unfold escR
  by_cases h : c = 92
  · cases r <;> simp [h] <;> (first | lia | omega)
  · simp [h]; (first | lia | omega)
theorem esc_short (c : Nat) (r : List Nat) : (escR c r).2.length ≤ r.length := by
  unfold escR
  by_cases h : c = 92
  · cases r <;> simp [h]
  · simp [h]
theorem ws_occ (c : Nat) : (Builtin.Str.occurrences wsS ⟨#[c]⟩ 0 wsS.length 1).isEmpty = !(isWs c) := by
  have h := StrLaws.found_one wsS c
  rw [← Bool.not_not (List.isEmpty _), h]
  congr 1
  rw [show wsS.cps.toList = [10, 9, 13, 32] from by decide +kernel, isWs, Bool.eq_iff_iff]
  simp
  try (first | lia | omega)
end Mine
namespace Mine
/-- what stands after a sign and the sign that it may escape -/
structure EscOk (text : Str) (c : Nat) (pos1 ln1 : Int) (e : Str) (pos2 ln2 : Int) : Prop where
  lst : lst e = (escR c (txR text pos1)).1
  tx : txR text pos2 = (escR c (txR text pos1)).2
  p0 : 0 ≤ pos2
  p1 : pos2 ≤ text.length
  l0 : 0 ≤ ln2
  ll : ln2 + (txR text pos2).length ≤ ln1 + (txR text pos1).length
  ls : ln2 + nls (txR text pos2) = ln1 + nls (txR text pos1)
  le : e.length ≤ 1
theorem esc_none {text : Str} {c : Nat} {pos ln : Int} (hc : c ≠ 92) (h0 : 0 ≤ pos) (h1 : pos ≤ text.length) (h2 : 0 ≤ ln) : EscOk text c pos ln ⟨#[c]⟩ pos ln :=
  ⟨by simp [escR, hc, lst], by simp [escR, hc], h0, h1, h2, by (first | lia | omega), rfl, by rw [len_one]; (first | lia | omega)⟩
theorem esc_some {text : Str} {c : Nat} {pos ln : Int} (hc : c = 92) (h0 : 0 ≤ pos) (h1 : pos ≤ text.length) (h2 : 0 ≤ ln) :
    EscOk text c pos ln (chAt text pos) (pos + (chAt text pos).length) (ln + (if chAt text pos = Str.ofString "\n" then 1 else 0)) := by
  subst hc
  rcases Int.lt_or_eq_of_le h1 with h | h
  · obtain ⟨d, hd, hr⟩ := ch_at h0 h
    have hl : (((⟨#[d]⟩ : Str).length : Nat) : Int) = 1 := rfl
    rw [hd, hl]
    refine ⟨?_, ?_, by (first | lia | omega), by (first | lia | omega), ?_, ?_, ?_, by rw [len_one]; (first | lia | omega)⟩
    · rw [hr]; simp [escR, lst]
    · rw [hr]; simp [escR]
    · split <;> (first | lia | omega)
    · rw [hr, List.length_cons]; push_cast; split <;> (first | lia | omega)
    · rw [hr, nls_cons]
      by_cases e : d = 10
      · rw [if_pos ((one_is_nl d).2 e), if_pos e]; (first | lia | omega)
      · rw [if_neg (fun z => e ((one_is_nl d).1 z)), if_neg e]; (first | lia | omega)
  · obtain ⟨e, hr⟩ := ch_end h
    have hl : (((Str.ofString "").length : Nat) : Int) = 0 := by rw [ofEmpty]; rfl
    have hn : ¬ (Str.ofString "" = Str.ofString "\n") := by decide +kernel
    rw [e, hl, if_neg hn, Int.add_zero, Int.add_zero]
    refine ⟨?_, ?_, h0, h1, h2, by (first | lia | omega), rfl, by rw [ofEmpty]; exact Nat.zero_le _⟩
    · rw [hr]; simp [escR, lst, ofEmpty]
    · rw [hr]; simp [escR]
/-- a sign that was read -/
theorem read_post {text : Str} {c : Nat} {pos ln : Int} (h0 : 0 ≤ pos) (h1 : pos < text.length) (hr : txR text pos = c :: txR text (pos + 1)) (h2 : 0 ≤ ln) :
    0 ≤ pos + 1 ∧ pos + 1 ≤ text.length ∧ 0 ≤ ln + (if (⟨#[c]⟩ : Str) = Str.ofString "\n" then 1 else 0) ∧ ln + (if (⟨#[c]⟩ : Str) = Str.ofString "\n" then 1 else 0) + ((txR text (pos + 1)).length : Int) ≤ ln + ((txR text pos).length : Int) ∧
      ln + (if (⟨#[c]⟩ : Str) = Str.ofString "\n" then 1 else 0) + nls (txR text (pos + 1)) = ln + nls (txR text pos) := by
  refine ⟨by (first | lia | omega), by (first | lia | omega), ?_, ?_, ?_⟩
  · split <;> (first | lia | omega)
  · rw [hr, List.length_cons]; push_cast; split <;> (first | lia | omega)
  · rw [hr, nls_cons]
    by_cases e : c = 10
    · rw [if_pos ((one_is_nl c).2 e), if_pos e]; (first | lia | omega)
    · rw [if_neg (fun z => e ((one_is_nl c).1 z)), if_neg e]; (first | lia | omega)
end Mine
end
section
theorem Mine.forget_MyRe : True := by
  w_top off
  trivial
open PySem PySem.Sre
set_option maxRecDepth 100000
namespace Mine
abbrev c1 : Array Nat := #[14, 4, 0, 1, 1, 6, 1, 16, 46, 1]
abbrev c2 : Array Nat := #[14, 9, 4, 1, 2, 16, 10, 16, 13, 0, 7, 7, 16, 13, 16, 10, 15, 18, 5, 16, 10, 15, 13, 11, 16, 13, 5, 5, 0, 16, 10, 1, 15, 2, 0, 1]
/-- the machine's way -/
def Goes (n : Nat) (m m' : M) : Prop := ∀ k, M.runFor (n + k) m = M.runFor k m'
theorem Goes.zero (m : M) : Goes 0 m m := fun k => by rw [Nat.zero_add]
theorem Goes.step {n : Nat} {m m' m1 : M} (ho : m.outcome = none) (hs : m.step = m1) (h : Goes n m1 m') : Goes (n + 1) m m' := fun k => by
  rw [show n + 1 + k = (n + k) + 1 by (first | lia | omega), M.runFor, ho]
  simp only [Option.isSome_none, Bool.false_eq_true, if_false]
  rw [hs]; exact h k
theorem Goes.trans {a b : Nat} {m m1 m2 : M} (h : Goes a m m1) (h' : Goes b m1 m2) : Goes (a + b) m m2 := fun k => by
  rw [show a + b + k = a + (b + k) by (first | lia | omega), h, h']
theorem run_end {m : M} (h : m.outcome.isSome = true) (k : Nat) : M.runFor k m = m := by
  cases k with
  | zero => rfl
  | succ k => rw [M.runFor, h]; rfl
theorem runFor_add (a b : Nat) : ∀ m, M.runFor (a + b) m = M.runFor b (M.runFor a m) := by
  induction a with
  | zero => intro m; rw [Nat.zero_add]; rfl
  | succ a ih =>
    intro m
    rw [show a + 1 + b = (a + b) + 1 by (first | lia | omega), M.runFor, M.runFor]
    split
    · rename_i h; rw [run_end h]
    · exact ih _
/-- at the start of a try -/
abbrev A1 (text : Array Nat) (sn : Seen) (mu out : Bool) (s : Nat) : M :=
  { code := c1, text, lim := text.size, start := s, lastStart := text.size, mustAdvance := mu, pc := 5, pos := s, handed := s, outermost := out, marks := #[],
    frames := [{ wait := .nextStart, pc := 5, pos := s, outermost := out }], weight := 1, seen := sn }
section
variable {text : Array Nat} {sn : Seen} {mu out : Bool} {s : Nat}
theorem st1_at : (A1 text sn mu out s).step = (let m := { A1 text sn mu out s with seen := (sn.add 6).add 44 }; if (s == 0 || text.getD (s - 1) 0 == 10) = true then { m with pc := 7 } else m.say false) := rfl
theorem lit_step {m : M} {c : Nat} (ho : m.outcome = none) (ha : m.answer = none) (hp : m.pc < m.code.size) (hw : m.code.getD m.pc 0 = 16) (hc : m.code.getD (m.pc + 1) 0 = c) :
    m.step = (if m.pos ≥ m.lim then M.say { m with seen := m.seen.add 16 } false else if (m.text.getD m.pos 0 == c) = true then { m with seen := m.seen.add 16, pc := m.pc + 2, pos := m.pos + 1 } else M.say { m with seen := m.seen.add 16 } false) := by
  have e1 : m.word 0 = 16 := hw
  have e2 : ops[16]? = some .LITERAL := rfl
  have e3 : accepts m.code m.pc (m.text.getD m.pos 0) (m.seen.add 16) = .ok (m.text.getD m.pos 0 == c, m.seen.add 16) := by
    unfold accepts; rw [hw, hc]; rfl
  have e4 : itemWidth m.code m.pc = 2 := by unfold itemWidth; rw [hw]; rfl
  unfold M.step M.exec
  rw [ho, ha, if_pos hp, e1, e2]
  simp only [Option.isSome_none, Bool.false_eq_true, if_false]
  rw [e3, e4]
  split
  · rfl
  · cases m.text.getD m.pos 0 == c <;> rfl
theorem succ_step {m : M} (ho : m.outcome = none) (ha : m.answer = none) (hp : m.pc < m.code.size) (hw : m.code.getD m.pc 0 = 1) (hx : m.wholeText = false) (hm : (m.pos == m.start) = false) :
    m.step = M.say { m with seen := m.seen.add 1, handed := m.pos } true := by
  have e1 : m.word 0 = 1 := hw
  have e2 : ops[1]? = some .SUCCESS := rfl
  unfold M.step M.exec
  rw [ho, ha, if_pos hp, e1, e2]
  simp only [Option.isSome_none, Bool.false_eq_true, if_false]
  rw [hx, hm]
  simp
theorem fail1 {q : Nat} : M.step (M.say { A1 text sn mu out s with pc := q } false) = if s < text.size then A1 text sn false false (s + 1) else M.say { A1 text sn mu out s with frames := [], weight := 0, pc := 5 } false := rfl
theorem over1 : M.step (M.say { A1 text sn mu out s with frames := [], weight := 0, pc := 5 } false) = { A1 text sn mu out s with frames := [], weight := 0, pc := 5, answer := some false, outcome := some .failed } := rfl
theorem good1 {q p hd : Nat} : M.step (M.say { A1 text sn mu out s with pc := q, pos := p, handed := hd } true) = M.say { A1 text sn mu out s with frames := [], weight := 0, pc := 5, handed := hd } true := rfl
theorem goodO {q hd : Nat} : M.step (M.say { A1 text sn mu out s with frames := [], weight := 0, pc := q, handed := hd } true) = { A1 text sn mu out s with frames := [], weight := 0, pc := q, handed := hd, answer := some true, outcome := some .matched } := rfl
end
def dot1 (text : Array Nat) (s : Nat) : Bool := (s == 0 || text.getD (s - 1) 0 == 10) && (decide (s < text.size) && text.getD s 0 == 46)
section
variable {text : Array Nat}
theorem try1_no {sn : Seen} {mu out : Bool} {s : Nat} (h : dot1 text s = false) : ∃ sn' q n, n ≤ 2 ∧ Goes n (A1 text sn mu out s) (M.say { A1 text sn' mu out s with pc := q } false) := by
  unfold dot1 at h
  cases hb : (s == 0 || text.getD (s - 1) 0 == 10) with
  | false =>
    refine ⟨(sn.add 6).add 44, 5, 1, by (first | lia | omega), Goes.step rfl ?_ (Goes.zero _)⟩
    rw [st1_at, hb]; rfl
  | true =>
    rw [hb, Bool.true_and] at h
    refine ⟨((sn.add 6).add 44).add 16, 7, 2, by (first | lia | omega), Goes.step rfl (m1 := { A1 text ((sn.add 6).add 44) mu out s with pc := 7 }) ?_ (Goes.step rfl ?_ (Goes.zero _))⟩
    · rw [st1_at, hb]; rfl
    · rw [lit_step (c := 46) rfl rfl (Nat.le_of_ble_eq_true rfl) rfl rfl]
      by_cases hs : s < text.size
      · rw [if_neg (by simpa using hs)]
        rw [show (text.getD s 0 == 46) = false by simpa [hs] using h]; rfl
      · rw [if_pos (by simpa using hs)]
theorem try1_yes {sn : Seen} {mu out : Bool} {s : Nat} (h : dot1 text s = true) : ∃ m', Goes 5 (A1 text sn mu out s) m' ∧ m'.outcome = some .matched ∧ m'.start = s ∧ m'.handed = s + 1 := by
  unfold dot1 at h
  simp only [Bool.and_eq_true, decide_eq_true_eq] at h
  obtain ⟨hb, hs, hc⟩ := h
  refine ⟨_, Goes.step rfl (m1 := { A1 text ((sn.add 6).add 44) mu out s with pc := 7 }) ?_ (Goes.step rfl (m1 := { A1 text (((sn.add 6).add 44).add 16) mu out s with pc := 9, pos := s + 1 }) ?_ (Goes.step rfl (succ_step rfl rfl (Nat.le_of_ble_eq_true rfl) rfl rfl ?_) (Goes.step rfl good1 (Goes.step rfl goodO (Goes.zero _))))), rfl, rfl, rfl⟩
  · rw [st1_at, hb]; rfl
  · rw [lit_step (c := 46) rfl rfl (Nat.le_of_ble_eq_true rfl) rfl rfl, if_neg (by simpa using hs), if_pos hc]
  · show (s + 1 == s) = false
    simp
theorem find1_yes {t : Nat} (ht : dot1 text t = true) : ∀ (d : Nat) (sn : Seen) (mu out : Bool) (s : Nat), s + d = t → (∀ i, s ≤ i → i < t → dot1 text i = false) → ∃ n m', n ≤ 3 * d + 5 ∧ Goes n (A1 text sn mu out s) m' ∧ m'.outcome = some .matched ∧ m'.start = t ∧ m'.handed = t + 1 := by
  have htl : t < text.size := by unfold dot1 at ht; simp only [Bool.and_eq_true, decide_eq_true_eq] at ht; exact ht.2.1
  intro d
  induction d with
  | zero =>
    intro sn mu out s hs hn
    have : s = t := by (first | lia | omega)
    subst this
    obtain ⟨m', h1, h2⟩ := try1_yes (sn := sn) (mu := mu) (out := out) ht
    exact ⟨5, m', by (first | lia | omega), h1, h2⟩
  | succ d ih =>
    intro sn mu out s hs hn
    obtain ⟨sn', q, n, hn2, hg⟩ := try1_no (sn := sn) (mu := mu) (out := out) (hn s (Nat.le_refl _) (by (first | lia | omega)))
    obtain ⟨n', m', hn', hg', hr⟩ := ih sn' false false (s + 1) (by (first | lia | omega)) (fun i h1 h2 => hn i (by (first | lia | omega)) h2)
    refine ⟨n + (n' + 1), m', by (first | lia | omega), hg.trans (Goes.step rfl ?_ hg'), hr⟩
    rw [fail1, if_pos (by (first | lia | omega))]
theorem find1_no : ∀ (d : Nat) (sn : Seen) (mu out : Bool) (s : Nat), s + d = text.size → (∀ i, s ≤ i → dot1 text i = false) → ∃ n m', n ≤ 3 * d + 5 ∧ Goes n (A1 text sn mu out s) m' ∧ m'.outcome = some .failed := by
  intro d
  induction d with
  | zero =>
    intro sn mu out s hs hn
    obtain ⟨sn', q, n, hn2, hg⟩ := try1_no (sn := sn) (mu := mu) (out := out) (hn s (Nat.le_refl _))
    refine ⟨n + 2, _, by (first | lia | omega), hg.trans (Goes.step rfl (m1 := M.say { A1 text sn' mu out s with frames := [], weight := 0, pc := 5 } false) ?_ (Goes.step rfl over1 (Goes.zero _))), rfl⟩
    rw [fail1, if_neg (by (first | lia | omega))]
  | succ d ih =>
    intro sn mu out s hs hn
    obtain ⟨sn', q, n, hn2, hg⟩ := try1_no (sn := sn) (mu := mu) (out := out) (hn s (Nat.le_refl _))
    obtain ⟨n', m', hn', hg', hr⟩ := ih sn' false false (s + 1) (by (first | lia | omega)) (fun i h1 => hn i (by (first | lia | omega)))
    refine ⟨n + (n' + 1), m', by (first | lia | omega), hg.trans (Goes.step rfl ?_ hg'), hr⟩
    rw [fail1, if_pos (by (first | lia | omega))]
/-- the first search -/
theorem search1 {s : Nat} {mu : Bool} (hs : s < text.size) : forSearch c1 text 0 s text.size mu = A1 text (({} : Seen).add 14) mu true s := by
  unfold forSearch
  have h1 : (s > text.size || text.size - s < (header c1).1) = false := by
    show (decide (s > text.size) || decide (text.size - s < 1)) = false
    simp; (first | lia | omega)
  simp only [h1, Bool.false_eq_true, if_false]
  rfl
theorem search1_end {s : Nat} {mu : Bool} (hs : s = text.size) : ∃ m, forSearch c1 text 0 s text.size mu = m ∧ m.outcome = none ∧ m.step.outcome = some .failed := by
  have h1 : (s > text.size || text.size - s < (header c1).1) = true := by
    show (decide (s > text.size) || decide (text.size - s < 1)) = true
    simp; (first | lia | omega)
  refine ⟨_, rfl, ?_⟩
  unfold forSearch
  simp only [h1, if_true]
  exact ⟨rfl, rfl⟩
end
/-- it comes to an end -/
def Ends (b : Nat) (m : M) (P : M → Prop) : Prop := ∃ n m', n ≤ b ∧ Goes n m m' ∧ P m'
theorem Ends.step {b : Nat} {m m1 : M} {P : M → Prop} (ho : m.outcome = none) (hs : m.step = m1) (h : Ends b m1 P) : Ends (b + 1) m P := by
  obtain ⟨n, m', h1, h2, h3⟩ := h
  exact ⟨n + 1, m', by (first | lia | omega), Goes.step ho hs h2, h3⟩
theorem Ends.done {b : Nat} {m : M} {P : M → Prop} (h : P m) : Ends b m P := ⟨0, m, Nat.zero_le _, Goes.zero _, h⟩
theorem lit_yes {m : M} {c : Nat} (ho : m.outcome = none) (ha : m.answer = none) (hp : m.pc < m.code.size) (hw : m.code.getD m.pc 0 = 16) (hc : m.code.getD (m.pc + 1) 0 = c) (h1 : m.pos < m.lim) (h2 : m.text.getD m.pos 0 = c) :
    m.step = { m with seen := m.seen.add 16, pc := m.pc + 2, pos := m.pos + 1 } := by
  rw [lit_step ho ha hp hw hc, if_neg (by (first | lia | omega)), if_pos (by simp [h2])]
theorem lit_no {m : M} {c : Nat} (ho : m.outcome = none) (ha : m.answer = none) (hp : m.pc < m.code.size) (hw : m.code.getD m.pc 0 = 16) (hc : m.code.getD (m.pc + 1) 0 = c) (h : m.pos < m.lim → m.text.getD m.pos 0 ≠ c) :
    m.step = M.say { m with seen := m.seen.add 16 } false := by
  rw [lit_step ho ha hp hw hc]
  by_cases h1 : m.pos ≥ m.lim
  · rw [if_pos h1]
  · rw [if_neg h1, if_neg (by simpa using h (by (first | lia | omega)))]
abbrev A2 (text : Array Nat) (sn : Seen) (mu out : Bool) (s : Nat) : M :=
  { code := c2, text, lim := text.size, start := s, lastStart := text.size, mustAdvance := mu, pc := 10, pos := s, handed := s, outermost := out, marks := #[],
    frames := [{ wait := .nextStart, pc := 10, pos := s, outermost := out }], weight := 1, seen := sn }
section
variable {text : Array Nat} {sn : Seen} {mu out : Bool} {t : Nat}
theorem try2_nl (ht : t < text.size) (h : text.getD t 0 = 10) : Ends 15 (A2 text sn mu out t) (fun m' => m'.outcome = some .matched ∧ m'.start = t ∧ m'.handed = t + 1) := by
  have ne : text.getD t 0 ≠ 13 := by (first | lia | omega)
  refine Ends.step rfl (m1 := { A2 text (sn.add 7) mu out t with pc := 12, frames := [{ wait := .nextBranch, pc := 11, pos := t, outermost := out }, { wait := .nextStart, pc := 10, pos := t, outermost := out }], weight := 2 }) rfl ?_
  refine Ends.step rfl (lit_no (c := 13) rfl rfl (Nat.le_of_ble_eq_true rfl) rfl rfl (fun _ => ne)) ?_
  refine Ends.step rfl (m1 := { A2 text ((sn.add 7).add 16) mu out t with pc := 19, frames := [{ wait := .nextBranch, pc := 18, pos := t, outermost := out }, { wait := .nextStart, pc := 10, pos := t, outermost := out }], weight := 2 }) rfl ?_
  refine Ends.step rfl (lit_yes (c := 10) rfl rfl (Nat.le_of_ble_eq_true rfl) rfl rfl ht h) ?_
  refine Ends.step rfl (m1 := { A2 text ((((sn.add 7).add 16).add 16).add 15) mu out t with pc := 35, pos := t + 1, frames := [{ wait := .nextBranch, pc := 18, pos := t, outermost := out }, { wait := .nextStart, pc := 10, pos := t, outermost := out }], weight := 2 }) rfl ?_
  refine Ends.step rfl (succ_step rfl rfl (Nat.le_of_ble_eq_true rfl) rfl rfl (by show (t + 1 == t) = false; simp)) ?_
  refine Ends.step rfl rfl ?_
  refine Ends.step rfl rfl ?_
  refine Ends.step rfl rfl ?_
  exact Ends.done ⟨rfl, rfl, rfl⟩
theorem try2_crlf (ht : t + 1 < text.size) (h : text.getD t 0 = 13) (h' : text.getD (t + 1) 0 = 10) : Ends 15 (A2 text sn mu out t) (fun m' => m'.outcome = some .matched ∧ m'.start = t ∧ m'.handed = t + 2) := by
  refine Ends.step rfl (m1 := { A2 text (sn.add 7) mu out t with pc := 12, frames := [{ wait := .nextBranch, pc := 11, pos := t, outermost := out }, { wait := .nextStart, pc := 10, pos := t, outermost := out }], weight := 2 }) rfl ?_
  refine Ends.step rfl (lit_yes (c := 13) rfl rfl (Nat.le_of_ble_eq_true rfl) rfl rfl (Nat.lt_of_succ_lt ht) h) ?_
  refine Ends.step rfl (lit_yes (c := 10) rfl rfl (Nat.le_of_ble_eq_true rfl) rfl rfl ht h') ?_
  refine Ends.step rfl (m1 := { A2 text ((((sn.add 7).add 16).add 16).add 15) mu out t with pc := 35, pos := t + 2, frames := [{ wait := .nextBranch, pc := 11, pos := t, outermost := out }, { wait := .nextStart, pc := 10, pos := t, outermost := out }], weight := 2 }) rfl ?_
  refine Ends.step rfl (succ_step rfl rfl (Nat.le_of_ble_eq_true rfl) rfl rfl (by show (t + 2 == t) = false; simp)) ?_
  refine Ends.step rfl rfl ?_
  refine Ends.step rfl rfl ?_
  refine Ends.step rfl rfl ?_
  exact Ends.done ⟨rfl, rfl, rfl⟩
theorem try2_cr (ht : t < text.size) (h : text.getD t 0 = 13) (h' : t + 1 < text.size → text.getD (t + 1) 0 ≠ 10) : Ends 18 (A2 text sn mu out t) (fun m' => m'.outcome = some .matched ∧ m'.start = t ∧ m'.handed = t + 1) := by
  have ne : text.getD t 0 ≠ 10 := by (first | lia | omega)
  refine Ends.step rfl (m1 := { A2 text (sn.add 7) mu out t with pc := 12, frames := [{ wait := .nextBranch, pc := 11, pos := t, outermost := out }, { wait := .nextStart, pc := 10, pos := t, outermost := out }], weight := 2 }) rfl ?_
  refine Ends.step rfl (lit_yes (c := 13) rfl rfl (Nat.le_of_ble_eq_true rfl) rfl rfl ht h) ?_
  refine Ends.step rfl (lit_no (c := 10) rfl rfl (Nat.le_of_ble_eq_true rfl) rfl rfl h') ?_
  refine Ends.step rfl (m1 := { A2 text (((sn.add 7).add 16).add 16) mu out t with pc := 19, frames := [{ wait := .nextBranch, pc := 18, pos := t, outermost := out }, { wait := .nextStart, pc := 10, pos := t, outermost := out }], weight := 2 }) rfl ?_
  refine Ends.step rfl (lit_no (c := 10) rfl rfl (Nat.le_of_ble_eq_true rfl) rfl rfl (fun _ => ne)) ?_
  refine Ends.step rfl (m1 := { A2 text ((((sn.add 7).add 16).add 16).add 16) mu out t with pc := 24, frames := [{ wait := .nextBranch, pc := 23, pos := t, outermost := out }, { wait := .nextStart, pc := 10, pos := t, outermost := out }], weight := 2 }) rfl ?_
  refine Ends.step rfl (lit_yes (c := 13) rfl rfl (Nat.le_of_ble_eq_true rfl) rfl rfl ht h) ?_
  refine Ends.step rfl (m1 := { A2 text ((((((sn.add 7).add 16).add 16).add 16).add 16).add 5) mu out t with pc := 29, pos := t + 1, handed := t + 1, outermost := false, frames := [{ wait := .lookNot, pc := 26, pos := t + 1, outermost := out }, { wait := .nextBranch, pc := 23, pos := t, outermost := out }, { wait := .nextStart, pc := 10, pos := t, outermost := out }], weight := 3 }) rfl ?_
  refine Ends.step rfl (lit_no (c := 10) rfl rfl (Nat.le_of_ble_eq_true rfl) rfl rfl h') ?_
  refine Ends.step rfl rfl ?_
  refine Ends.step rfl (m1 := { A2 text ((((((((sn.add 7).add 16).add 16).add 16).add 16).add 5).add 16).add 15) mu out t with pc := 35, pos := t + 1, handed := t + 1, frames := [{ wait := .nextBranch, pc := 23, pos := t, outermost := out }, { wait := .nextStart, pc := 10, pos := t, outermost := out }], weight := 2 }) rfl ?_
  refine Ends.step rfl (succ_step rfl rfl (Nat.le_of_ble_eq_true rfl) rfl rfl (by show (t + 1 == t) = false; simp)) ?_
  refine Ends.step rfl rfl ?_
  refine Ends.step rfl rfl ?_
  refine Ends.step rfl rfl ?_
  exact Ends.done ⟨rfl, rfl, rfl⟩
end
abbrev eol (c : Nat) : Bool := c == 10 || c == 13
section
variable {text : Array Nat}
theorem inSet2 (c : Nat) (sn : Seen) : inSet c2 c 36 5 true sn = if (c == 10) = true then .ok (true, sn.add 16) else if (c == 13) = true then .ok (true, (sn.add 16).add 16) else .ok (false, ((sn.add 16).add 16).add 0) := rfl
theorem inSet2_yes {c : Nat} (h : eol c = true) (sn : Seen) : ∃ sn', inSet c2 c 36 5 true sn = .ok (true, sn') := by
  rw [inSet2]
  by_cases h1 : (c == 10) = true
  · exact ⟨_, if_pos h1⟩
  · have h2 : (c == 13) = true := by simpa [eol, h1] using h
    exact ⟨_, by rw [if_neg h1, if_pos h2]⟩
theorem inSet2_no {c : Nat} (h : eol c = false) (sn : Seen) : ∃ sn', inSet c2 c 36 5 true sn = .ok (false, sn') := by
  rw [inSet2]
  simp only [eol, Bool.or_eq_false_iff] at h
  exact ⟨_, by rw [if_neg (by simp [h.1]), if_neg (by simp [h.2])]⟩
theorem admit_yes {m : M} (hc : m.code = c2) (hx : m.text = text) (hl : m.lim = text.size) {t : Nat} (ht : t < text.size) (he : eol (text.getD t 0) = true) : ∀ (d f s : Nat) (sn : Seen), s + d = t → d < f → (∀ i, s ≤ i → i < t → eol (text.getD i 0) = false) →
    ∃ sn', M.admitted m f s sn = .ok (some t, sn') := by
  intro d
  induction d with
  | zero =>
    intro f s sn hs hf hn
    obtain ⟨f, rfl⟩ : ∃ g, f = g + 1 := ⟨f - 1, by (first | lia | omega)⟩
    have e : s = t := by (first | lia | omega)
    subst e
    obtain ⟨sn', h2⟩ := inSet2_yes he sn
    refine ⟨sn', ?_⟩
    unfold M.admitted
    rw [if_neg (by rw [hl]; (first | lia | omega)), hc, hx]
    show (match inSet c2 (text.getD s 0) 36 5 true sn with | .ok (true, seen) => _ | .ok (false, seen) => _ | .error why => _) = _
    rw [h2]
  | succ d ih =>
    intro f s sn hs hf hn
    obtain ⟨f, rfl⟩ : ∃ g, f = g + 1 := ⟨f - 1, by (first | lia | omega)⟩
    obtain ⟨sn', h2⟩ := inSet2_no (hn s (Nat.le_refl _) (by (first | lia | omega))) sn
    obtain ⟨sn2, h3⟩ := ih f (s + 1) sn' (by (first | lia | omega)) (by (first | lia | omega)) (fun i a b => hn i (by (first | lia | omega)) b)
    refine ⟨sn2, ?_⟩
    unfold M.admitted
    rw [if_neg (by rw [hl]; (first | lia | omega)), hc, hx]
    show (match inSet c2 (text.getD s 0) 36 5 true sn with | .ok (true, seen) => _ | .ok (false, seen) => _ | .error why => _) = _
    rw [h2]; exact h3
theorem admit_no {m : M} (hc : m.code = c2) (hx : m.text = text) (hl : m.lim = text.size) : ∀ (f s : Nat) (sn : Seen), (∀ i, s ≤ i → i < text.size → eol (text.getD i 0) = false) →
    ∃ sn', M.admitted m f s sn = .ok (none, sn') := by
  intro f
  induction f with
  | zero => intro s sn _; exact ⟨_, rfl⟩
  | succ f ih =>
    intro s sn hn
    unfold M.admitted
    by_cases hs : s < text.size
    · obtain ⟨sn', h2⟩ := inSet2_no (hn s (Nat.le_refl _) hs) sn
      obtain ⟨sn2, h3⟩ := ih (s + 1) sn' (fun i a b => hn i (by (first | lia | omega)) b)
      refine ⟨sn2, ?_⟩
      rw [if_neg (by rw [hl]; (first | lia | omega)), hc, hx]
      show (match inSet c2 (text.getD s 0) 36 5 true sn with | .ok (true, seen) => _ | .ok (false, seen) => _ | .error why => _) = _
      rw [h2]; exact h3
    · exact ⟨_, by rw [if_pos (by rw [hl]; (first | lia | omega))]⟩
theorem header2 : header c2 = (1, 10) := rfl
abbrev B2 (text : Array Nat) (mu : Bool) (s : Nat) : M :=
  { code := c2, text, lim := text.size, start := s, lastStart := text.size, mustAdvance := mu, pc := 10, pos := s, handed := s, marks := #[], seen := ({} : Seen).add 14 }
theorem search2 {s : Nat} {mu : Bool} (hs : s < text.size) : forSearch c2 text 0 s text.size mu =
    (match M.admitted (B2 text mu s) (text.size + 1 - s) s (({} : Seen).add 14) with
      | .ok (some s', seen) => M.attemptAt { B2 text mu s with mustAdvance := false, seen } s' true
      | .ok (none, seen) => M.say { B2 text mu s with seen } false
      | .error why => M.stick (B2 text mu s) why) := by
  unfold forSearch
  have h1 : (s > text.size || text.size - s < (header c2).1) = false := by
    show (decide (s > text.size) || decide (text.size - s < 1)) = false
    simp; (first | lia | omega)
  simp only [h1, Bool.false_eq_true, if_false]
  rfl
theorem search2_yes {s t : Nat} {mu : Bool} (hs : s ≤ t) (ht : t < text.size) (he : eol (text.getD t 0) = true) (hn : ∀ i, s ≤ i → i < t → eol (text.getD i 0) = false) :
    ∃ sn, forSearch c2 text 0 s text.size mu = A2 text sn false true t := by
  rw [search2 (by (first | lia | omega))]
  obtain ⟨sn, h⟩ := admit_yes (m := B2 text mu s) rfl rfl rfl ht he (t - s) (text.size + 1 - s) s (({} : Seen).add 14) (by (first | lia | omega)) (by (first | lia | omega)) hn
  rw [h]
  exact ⟨sn, rfl⟩
theorem search2_no {s : Nat} {mu : Bool} (hs : s < text.size) (hn : ∀ i, s ≤ i → i < text.size → eol (text.getD i 0) = false) :
    Ends 1 (forSearch c2 text 0 s text.size mu) (fun m' => m'.outcome = some .failed) := by
  rw [search2 hs]
  obtain ⟨sn, h⟩ := admit_no (m := B2 text mu s) rfl rfl rfl (text.size + 1 - s) s (({} : Seen).add 14) hn
  rw [h]
  refine Ends.step rfl rfl ?_
  exact Ends.done rfl
theorem search2_end {s : Nat} {mu : Bool} (hs : s = text.size) : Ends 1 (forSearch c2 text 0 s text.size mu) (fun m' => m'.outcome = some .failed) := by
  have h1 : (s > text.size || text.size - s < (header c2).1) = true := by
    show (decide (s > text.size) || decide (text.size - s < 1)) = true
    simp; (first | lia | omega)
  unfold forSearch
  simp only [h1, if_true]
  refine Ends.step rfl rfl ?_
  exact Ends.done rfl
/-- how wide the line end at t is -/
def eolW (text : Array Nat) (t : Nat) : Nat := if text.getD t 0 = 13 ∧ t + 1 < text.size ∧ text.getD (t + 1) 0 = 10 then 2 else 1
theorem found2 {s t : Nat} {mu : Bool} (hs : s ≤ t) (ht : t < text.size) (he : eol (text.getD t 0) = true) (hn : ∀ i, s ≤ i → i < t → eol (text.getD i 0) = false) :
    Ends 18 (forSearch c2 text 0 s text.size mu) (fun m' => m'.outcome = some .matched ∧ m'.start = t ∧ m'.handed = t + eolW text t) := by
  obtain ⟨sn, h⟩ := search2_yes (mu := mu) hs ht he hn
  rw [h]
  simp only [eol, Bool.or_eq_true, beq_iff_eq] at he
  unfold eolW
  rcases he with he | he
  · rw [if_neg (by (first | lia | omega))]
    obtain ⟨n, m', h1, h2⟩ := try2_nl (sn := sn) (mu := false) (out := true) ht he
    exact ⟨n, m', by (first | lia | omega), h2⟩
  · by_cases h2 : t + 1 < text.size ∧ text.getD (t + 1) 0 = 10
    · rw [if_pos ⟨he, h2⟩]
      obtain ⟨n, m', h1, h2⟩ := try2_crlf (sn := sn) (mu := false) (out := true) h2.1 he h2.2
      exact ⟨n, m', by (first | lia | omega), h2⟩
    · rw [if_neg (fun x => h2 x.2)]
      exact try2_cr ht he (fun a b => h2 ⟨a, b⟩)
theorem lost2 {s : Nat} {mu : Bool} (hs : s ≤ text.size) (hn : ∀ i, s ≤ i → i < text.size → eol (text.getD i 0) = false) :
    Ends 18 (forSearch c2 text 0 s text.size mu) (fun m' => m'.outcome = some .failed) := by
  rcases Nat.lt_or_eq_of_le hs with h | h
  · obtain ⟨n, m', h1, h2⟩ := search2_no (mu := mu) h hn
    exact ⟨n, m', by (first | lia | omega), h2⟩
  · obtain ⟨n, m', h1, h2⟩ := search2_end (mu := mu) h
    exact ⟨n, m', by (first | lia | omega), h2⟩
theorem found1 {s t : Nat} {mu : Bool} (hs : s ≤ t) (ht : dot1 text t = true) (hn : ∀ i, s ≤ i → i < t → dot1 text i = false) :
    Ends (3 * text.size + 5) (forSearch c1 text 0 s text.size mu) (fun m' => m'.outcome = some .matched ∧ m'.start = t ∧ m'.handed = t + 1) := by
  have htl : t < text.size := by unfold dot1 at ht; simp only [Bool.and_eq_true, decide_eq_true_eq] at ht; exact ht.2.1
  rw [search1 (by (first | lia | omega))]
  obtain ⟨n, m', h1, h2⟩ := find1_yes ht (t - s) (({} : Seen).add 14) mu true s (by (first | lia | omega)) hn
  exact ⟨n, m', by (first | lia | omega), h2⟩
theorem lost1 {s : Nat} {mu : Bool} (hs : s ≤ text.size) (hn : ∀ i, s ≤ i → dot1 text i = false) :
    Ends (3 * text.size + 5) (forSearch c1 text 0 s text.size mu) (fun m' => m'.outcome = some .failed) := by
  rcases Nat.lt_or_eq_of_le hs with h | h
  · rw [search1 h]
    obtain ⟨n, m', h1, h2⟩ := find1_no (text := text) (text.size - s) (({} : Seen).add 14) mu true s (by (first | lia | omega)) hn
    exact ⟨n, m', by (first | lia | omega), h2⟩
  · obtain ⟨m, h1, h2, h3⟩ := search1_end (mu := mu) h
    rw [h1]
    exact ⟨1, _, by (first | lia | omega), Goes.step h2 rfl (Goes.zero _), h3⟩
end
end Mine
end
section
theorem Mine.forget_MyRw : True := by
  w_top off
  trivial
open PySem PySem.W PyProof.Rows PySem.Calls PySem.Spec PySem.Builtin PySem.Builtin.Re
open PySem.Sre (M)
set_option maxRecDepth 100000
namespace Mine
section
variable {Md : Model} {A : Around} {E : Value → Shared → Prop} {s : Shared}
theorem wp_reDrive {P : M → Prop} (hP : ∀ m', P m' → m'.outcome.isSome = true) {Q : M → Shared → Prop} (hQ : ∀ m', P m' → Q m' s) : ∀ (turns : Nat) (m : M), 0 < turns → Ends (4 * turns) m P → wpAny Md A (reDrive turns m) Q E s := by
  intro turns
  induction turns with
  | zero => intro m h; omega
  | succ turns ih =>
    rintro m - ⟨n, m', hn, hg, hp⟩
    have hk : ∀ k, M.runFor k m' = m' := run_end (hP m' hp)
    unfold reDrive
    by_cases h4 : n ≤ 4
    · have e : M.runFor reTurnSteps m = m' := by
        have := hg (4 - n)
        rw [show n + (4 - n) = 4 by omega, hk] at this
        exact this
      simp only [e, hP m' hp, if_true]
      wp_walk
      exact hQ _ hp
    · have hr : ∀ k, M.runFor (n - 4 + k) (M.runFor reTurnSteps m) = M.runFor k m' := by
        intro k
        show M.runFor (n - 4 + k) (M.runFor 4 m) = _
        rw [← runFor_add, show 4 + (n - 4 + k) = n + k by omega]; exact hg k
      by_cases ho : (M.runFor reTurnSteps m).outcome.isSome = true
      · have e : M.runFor reTurnSteps m = m' := by
          have := hr 0
          rw [run_end ho, hk] at this; exact this
        simp only [ho, if_true]
        wp_walk
        rw [e]; exact hQ _ hp
      · simp only [ho, if_false]
        wp_walk
        exact ih _ (by omega) ⟨n - 4, m', by omega, hr, hp⟩
theorem wp_tell {f : Nat → Bool} {g : Nat → String} {Q : PUnit → Shared → Prop} (h : Q PUnit.unit s) : ∀ l : List Nat, wpAny Md A (forIn l PUnit.unit fun i __s => if f i = true then do rule (g i); pure (ForInStep.yield PUnit.unit) else pure (ForInStep.yield PUnit.unit)) Q E s := by
  intro l
  induction l with
  | nil => rw [List.forIn_nil]; wp_walk; exact h
  | cons i l ih =>
    rw [List.forIn_cons]
    refine wpAny_bind (wpAny_mono (Q := fun r s' => r = ForInStep.yield PUnit.unit ∧ s' = s) (E := fun _ _ => False) ?_ (fun r s' hr => ?_) fun _ _ x => x.elim)
    · by_cases hf : f i = true
      · rw [if_pos hf]; wp_walk; exact ⟨rfl, rfl⟩
      · rw [if_neg hf]; wp_walk; exact ⟨rfl, rfl⟩
    · obtain ⟨rfl, rfl⟩ := hr
      exact ih
theorem wp_reRun {b : Nat} {m : M} {P : M → Prop} (h : Ends b m P) (hb : b ≤ 4 * 2 ^ 64) {Q : Option M → Shared → Prop} (hP : ∀ m', P m' → (m'.outcome = some .matched ∧ Q (some m') s) ∨ (m'.outcome = some .failed ∧ Q none s)) : wpAny Md A (reRunToEnd m) Q E s := by
  unfold reRunToEnd
  refine wpAny_bind (wp_reDrive (P := P) (fun m' hm => ?_) (fun m' hm => ?_) (2 ^ 64) m (by decide) ?_)
  · rcases hP m' hm with h | h <;> rw [h.1] <;> rfl
  · refine wpAny_bind (wp_tell ?_ _)
    rcases hP m' hm with h | h
    · rw [h.1]; wp_walk; exact h.2
    · rw [h.1]; wp_walk; exact h.2
  · obtain ⟨n, m', h1, h2⟩ := h
    exact ⟨n, m', Nat.le_trans h1 hb, h2⟩
end
end Mine
end
section
theorem Mine.forget_MySb : True := by
  w_top off
  trivial
open PySem PySem.W PyProof.Rows PySem.Calls PySem.Spec PySem.Builtin PySem.Builtin.Re
open PySem.Sre (M)
set_option maxRecDepth 100000
namespace Mine
theorem entry_subloop : entryFor table "re.Pattern.sub.loop" = some Builtin.«re.Pattern.sub.loop» := entryFor_of_fast (by kernel_rfl)
theorem plain_subloop : plainId "re.Pattern.sub.loop" = true := by decide +kernel
abbrev patO (pv fl : Value) (T : Addr) : Obj := { cls := .type "re.Pattern", data := .fields #[pv, fl, .int 0 0, .none, .none, .ref T, .int 0 0] }
abbrev codO (its : Array Value) : Obj := { cls := .type "tuple", data := .seq its }
abbrev trg (P : Addr) (x : Str) (t : Tok) (c : Array Nat) : ReTarget := { pattern := .ref P, string := .str x t, code := c, text := x.cps, kind := 0, groups := 0, pos := 0, lim := x.cps.size }
section
variable {prog : Program} {w : World} {A : Around} {E : Value → Shared → Prop} {s : Shared}
theorem wp_whole {P T : Addr} {pv fl : Value} {its : Array Value} {c : Array Nat} {x : Str} {t : Tok} {Q : ReTarget → Shared → Prop} (hp : s.heap.get? P = some (patO pv fl T)) (hc : s.heap.get? T = some (codO its)) (he : (its.map reRawOf).map (·.toNat) = c) (h : Q (trg P x t c) s) :
    wpAny (model prog w) A (reWholeTarget (.ref P) (.str x t)) Q E s := by
  unfold reWholeTarget reTextOf reNoCollectionInside reRawItems
  wp_walk
  subst he; exact h
/-- what the loop finds from a place, and the text that it makes from there -/
def Finds (c : Array Nat) (text : Array Nat) (r : List Nat) (G : Nat → List Nat) (a : Nat) : Prop :=
  (∃ t hd, a ≤ t ∧ t < hd ∧ hd ≤ text.size ∧ G a = (text.extract a t).toList ++ r ++ G hd ∧ Ends (4 * 2 ^ 64) (Sre.forSearch c text 0 a text.size false) (fun m => m.outcome = some .matched ∧ m.start = t ∧ m.handed = hd)) ∨
  (G a = (text.extract a text.size).toList ∧ Ends (4 * 2 ^ 64) (Sre.forSearch c text 0 a text.size false) (fun m => m.outcome = some .failed))
def cat (l : List (Str × Tok)) : List Nat := (l.map fun p => lst p.1).flatten
theorem cat_cons (p : Str × Tok) (l : List (Str × Tok)) : cat (p :: l) = lst p.1 ++ cat l := by simp [cat]
theorem cat_snoc (p : Str × Tok) (l : List (Str × Tok)) : cat (l ++ [p]) = cat l ++ lst p.1 := by simp [cat]
theorem glue_fold (l : List (Str × Tok)) : ∀ acc : Array Nat, ((l.map (·.1)).foldl (fun acc p => acc ++ (⟨#[]⟩ : Str).cps ++ p.cps) acc).toList = acc.toList ++ cat l := by
  induction l with
  | nil => intro acc; simp [cat]
  | cons p l ih =>
    intro acc
    rw [List.map_cons, List.foldl_cons, ih, cat_cons]
    simp [lst]
theorem glue_cat (l : List (Str × Tok)) : Builtin.Str.glued ⟨#[]⟩ (l.map (·.1)) = ⟨(cat l).toArray⟩ := by
  cases l with
  | nil => rfl
  | cons p l =>
    apply str_ext
    rw [lst_mk, cat_cons]
    show (((p :: l).map (·.1)).drop 1 |>.foldl (fun acc p => acc ++ (⟨#[]⟩ : Str).cps ++ p.cps) p.1.cps).toList = _
    rw [List.map_cons, List.drop_one, List.tail_cons, glue_fold]
theorem fold_len (l : List (Str × Tok)) : ∀ n, ((l.map (·.1)).toArray.foldl (· + ·.length + (⟨#[]⟩ : Str).length) n) = n + (cat l).length := by
  intro n
  rw [List.foldl_toArray]
  induction l generalizing n with
  | nil => simp [cat]
  | cons p l ih =>
    rw [List.map_cons, List.foldl_cons, ih, cat_cons, List.length_append, ← len_lst]
    show n + p.1.length + 0 + _ = _
    (first | lia | omega)
theorem wp_join {D : Addr} {l : List (Str × Tok)} {t : Tok} {e : Nat} {Q : Value → Shared → Prop} (hD : s.heap.get? D = some { cls := .type "list", data := .seq (strValues l).toArray e }) (hl : (cat l).length ≤ sizeLine)
    (h : ∀ tv k', Q (.str ⟨(cat l).toArray⟩ tv) { s with toks := k' }) : wpAny (model prog w) A (call (.builtin "str.join") [.str ⟨#[]⟩ t, .ref D]) Q E s := by
  refine call_meets PySem.F.slot_str_join (T := "str") rfl PySem.F.entry_str_join (PySem.F.args_str_join_2 _ _) (meets_str_join_list ⟨#[]⟩ t D l ?_) ⟨⟨_, hD, rfl, e, rfl⟩, ?_⟩
  · rw [fold_len, Nat.zero_add]
    unfold Builtin.Str.tooLong
    simpa using hl
  · cases l with
    | nil => exact ⟨hl, h _ _⟩
    | cons p r => cases r with
      | nil =>
        have e : (⟨(cat [p]).toArray⟩ : Str) = p.1 := by apply str_ext; rw [lst_mk, cat_cons]; simp [cat]
        have := h p.2 s.toks
        rw [e] at this
        exact this
      | cons q r' =>
        refine ⟨?_, ?_⟩
        · rw [glue_cat, len_lst, lst_mk]; exact hl
        · rw [glue_cat]; exact h _ _
theorem wp_slice {x : Array Nat} {a b : Nat} {Q : Value → Shared → Prop} (hb : (x.extract a b).size ≤ sizeLine) (h : Q (.str ⟨x.extract a b⟩ s.toks) { s with toks := s.toks + 1 }) : wpAny (model prog w) A (reSlice x 0 a b) Q E s :=
  wpAny_mkStr (x := ⟨x.extract a b⟩) h hb
theorem wp_push {D : Addr} {l : List (Str × Tok)} {x : Str} {tx : Tok} {e : Nat} {Q : Unit → Shared → Prop} (hD : s.heap.get? D = some { cls := .type "list", data := .seq (strValues l).toArray e }) (hl : l.length ≤ sizeLine)
    (h : ∀ h', Heap.SameBut D s.heap h' → h'.get? D = some { cls := .type "list", data := .seq (strValues (l ++ [(x, tx)])).toArray (e + 1) } → Q () { s with heap := h' }) :
    wpAny (model prog w) A (updateSeq D fun v => v.push (.str x tx)) Q E s := by
  have hz : (strValues l).toArray.size ≤ sizeLine := by simpa [strValues] using hl
  refine wpAny_updateSeq hD rfl (h _ (Heap.SameBut.update ..) ?_) hz (by rw [Array.size_push]; (first | lia | omega))
  rw [Heap.get?_update_self _ hD (by rw [mapSeq_push]; rfl), mapSeq_push]
  simp [strValues]
theorem sub_loop {R : Result → Shared → Prop} {P T D : Addr} {pv fl : Value} {its : Array Value} {c : Array Nat} {x r : Str} {t tr : Tok} {G : Nat → List Nat} (he : (its.map reRawOf).map (·.toNat) = c) (hPD : P ≠ D) (hTD : T ≠ D)
    (hF : ∀ a, a ≤ x.cps.size → Finds c x.cps (lst r) G a) (hx : x.length ≤ 100000) (hr : r.length ≤ 100) :
    ∀ (k : Nat) (n : Int) (a : Nat) (l : List (Str × Tok)) (e : Nat) (s : Shared), x.cps.size - a = k → a ≤ x.cps.size → l.length ≤ 2 * a → (cat l).length ≤ 101 * a → s.heap.get? P = some (patO pv fl T) → s.heap.get? T = some (codO its) →
      s.heap.get? D = some { cls := .type "list", data := .seq (strValues l).toArray e } →
      (∀ h' tv k', (∀ b o, b ≠ D → s.heap.get? b = some o → h'.get? b = some o) → R (.ok (.ret (.str ⟨(cat l ++ G a).toArray⟩ tv))) { s with heap := h', toks := k' }) →
      codeAny (model prog w) A (.builtin "re.Pattern.sub.loop" ⟨[.ref P, .str x t, .str r tr, rawInt 0, rawInt 0, rawInt n, rawInt a, rawInt a, .bool false, .ref D, .bool false], []⟩) R s := by
  intro k
  induction k using Nat.strongRecOn with
  | ind k ih =>
    intro n a l e s hk ha hl2 hl3 hp hT hD hR
    refine codeAny_builtin entry_subloop ?_
    rw [Around.under_plainId plain_subloop _]
    unfold Builtin.«re.Pattern.sub.loop»
    dsimp only [rawInt]
    refine wpAny_bind (wp_whole hp hT he ?_)
    unfold reLiteralCannotBeTurned
    generalize hN : reNextFound = nf
    wp_walk
    subst hN
    unfold reNextFound
    rcases hF a ha with ⟨t', hd, h1, h2, h3, h4, h5⟩ | ⟨h4, h5⟩
    · refine wp_reRun h5 (Nat.le_refl _) fun m' hm => .inl ⟨hm.1, ?_⟩
      obtain ⟨-, hst, hha⟩ := hm
      have hxl : x.cps.size ≤ 100000 := hx
      have hzl : sizeLine = 16777216 := rfl
      have hne : (m'.handed == m'.start) = false := by rw [hst, hha]; simp; (first | lia | omega)
      have tail : ∀ (l' : List (Str × Tok)) (e' : Nat) (s' : Shared), cat l' = cat l ++ (x.cps.extract a t').toList → l'.length ≤ 2 * a + 1 → s'.gens = s.gens → s'.drawn = s.drawn → s'.os = s.os → (∀ b o, b ≠ D → s.heap.get? b = some o → s'.heap.get? b = some o) →
          s'.heap.get? D = some { cls := .type "list", data := .seq (strValues l').toArray e' } →
          wpAny (model prog w) A.in1 (updateSeq D fun v => v.push (.str r tr)) (fun _ s'' => codeAny (model prog w) A (.builtin "re.Pattern.sub.loop" ⟨[.ref P, .str x t, .str r tr, rawInt 0, rawInt 0, rawInt (n + 1), rawInt hd, rawInt hd, .bool false, .ref D, .bool false], []⟩) R s'') (fun e s' => R (.error e) s') s' := by
        intro l' e' s' hc' hl' hg hdr hos hkeep hD'
        refine wp_push hD' (by (first | lia | omega)) fun h' hs hD2 => ?_
        have hex : (x.cps.extract a t').size = t' - a := by rw [Array.size_extract]; (first | lia | omega)
        refine ih (x.cps.size - hd) (by (first | lia | omega)) (n + 1) hd (l' ++ [(r, tr)]) (e' + 1) { s' with heap := h' } rfl h3 (by rw [List.length_append, List.length_singleton]; (first | lia | omega)) ?_ ((hs.2 P hPD).trans (hkeep _ _ hPD hp)) ((hs.2 T hTD).trans (hkeep _ _ hTD hT)) hD2 ?_
        · rw [cat_snoc, hc', List.length_append, List.length_append, show (x.cps.extract a t').toList.length = t' - a from hex]
          have : (lst r).length = r.length := (len_lst r).symm
          dsimp only
          (first | lia | omega)
        · intro h2 tv k' hk2
          have := hR h2 tv k' fun b o hb ho => hk2 b o hb ((hs.2 b hb).trans (hkeep b o hb ho))
          rw [h4] at this
          rw [cat_snoc, hc', show ({ s' with heap := h2, toks := k' } : Shared) = { s with heap := h2, toks := k' } from by rw [hg, hdr, hos]]
          simpa only [List.append_assoc] using this
      dsimp only [rawInt] at tail
      have hcast : ((a : Int)).toNat = a := Int.toNat_natCast a
      dsimp only
      rw [hcast, hst, hha]
      rw [hst, hha] at hne
      have eq0 : ((0 : Int) == 0) = true := rfl
      by_cases hlt : a < t'
      · rw [if_pos hlt]
        refine wpAny_bind (wp_slice (by rw [Array.size_extract]; (first | lia | omega)) ?_)
        refine wpAny_bind (wp_push hD (by (first | lia | omega)) fun h' hs hD2 => ?_)
        rw [if_pos eq0]
        refine wpAny_bind (wpAny_pure ?_)
        rw [if_pos (show (Value.str r tr != Value.none) = true from rfl)]
        refine wpAny_bind (wpAny_mono (tail (l ++ [(⟨x.cps.extract a t'⟩, s.toks)]) (e + 1) { s with heap := h', toks := s.toks + 1 } (by rw [cat_snoc]) (by rw [List.length_append, List.length_singleton]; (first | lia | omega)) rfl rfl rfl (fun b o hb ho => (hs.2 b hb).trans ho) hD2) (fun _ s2 hq => ?_) fun _ _ x => x)
        rw [hne]
        exact wpAny_pure ⟨plainId_quiet plain_subloop _, hq⟩
      · rw [if_neg hlt]
        rw [if_pos eq0]
        refine wpAny_bind (wpAny_pure ?_)
        rw [if_pos (show (Value.str r tr != Value.none) = true from rfl)]
        have hz : (x.cps.extract a t').toList = [] := by
          rw [← List.length_eq_zero_iff, Array.length_toList, Array.size_extract]; (first | lia | omega)
        refine wpAny_bind (wpAny_mono (tail l e s (by rw [hz, List.append_nil]) (by (first | lia | omega)) rfl rfl rfl (fun b o hb ho => ho) hD) (fun _ s2 hq => ?_) fun _ _ x => x)
        rw [hne]
        exact wpAny_pure ⟨plainId_quiet plain_subloop _, hq⟩
    · refine wp_reRun h5 (Nat.le_refl _) fun m' hm => .inr ⟨hm, ?_⟩
      have hxl : x.cps.size ≤ 100000 := hx
      have hzl : sizeLine = 16777216 := rfl
      have hcast : ((a : Int)).toNat = a := Int.toNat_natCast a
      have e0 : x.cps.extract 0 0 = #[] := by simp
      dsimp only
      rw [hcast]
      by_cases hlt : a < x.cps.size
      · rw [if_pos hlt]
        refine wpAny_bind (wp_slice (by rw [Array.size_extract]; (first | lia | omega)) ?_)
        refine wpAny_bind (wp_push hD (by (first | lia | omega)) fun h' hs hD2 => ?_)
        refine wpAny_bind (wp_slice (by rw [e0]; exact Nat.zero_le _) ?_)
        unfold seqItems?
        refine wpAny_bind (wpAny_bind (wpAny_load hD2 (wpAny_pure ?_)))
        rw [if_neg (by simp [strValues]), e0]
        refine wpAny_bind (wp_join hD2 ?_ fun tv k' => ?_)
        · rw [cat_snoc, List.length_append]
          have hex : (x.cps.extract a x.cps.size).toList.length = x.cps.size - a := by
            show (x.cps.extract a x.cps.size).size = _
            rw [Array.size_extract]; (first | lia | omega)
          dsimp only
          rw [show lst ⟨x.cps.extract a x.cps.size⟩ = (x.cps.extract a x.cps.size).toList from rfl, hex]; (first | lia | omega)
        · rw [if_neg (by decide)]
          have := hR h' tv k' fun b o hb ho => (hs.2 b hb).trans ho
          rw [h4] at this
          rw [cat_snoc]
          exact wpAny_pure this
      · rw [if_neg hlt]
        have hz : (x.cps.extract a x.cps.size).toList = [] := by
          rw [← List.length_eq_zero_iff, Array.length_toList, Array.size_extract]; (first | lia | omega)
        rw [h4, hz, List.append_nil] at hR
        refine wpAny_bind (wp_slice (by rw [e0]; exact Nat.zero_le _) ?_)
        unfold seqItems?
        refine wpAny_bind (wpAny_bind (wpAny_load hD (wpAny_pure ?_)))
        rw [e0]
        by_cases hlz : l = []
        · subst hlz
          rw [if_pos (by simp [strValues])]
          refine wpAny_bind (wpAny_pure ?_)
          rw [if_neg (by decide)]
          exact wpAny_pure (hR _ _ _ fun b o hb ho => ho)
        · rw [if_neg (by simpa [strValues] using hlz)]
          refine wpAny_bind (wp_join hD (by (first | lia | omega)) fun tv k' => ?_)
          rw [if_neg (by decide)]
          exact wpAny_pure (hR _ _ _ fun b o hb ho => ho)
end
end Mine
end
section
theorem Mine.forget_MyQ : True := by
  w_top off
  trivial
open PySem PySem.W PyProof.Rows PySem.Calls PySem.Spec PySem.Builtin PySem.Builtin.Re
open PySem.Sre (M)
set_option maxRecDepth 100000
namespace Mine
theorem plain_re : PlainAttrs "re.Pattern" :=
  ⟨⟨"object.__getattribute__", by rw [typeLookup_type, builtinLookup_eq_fast]; kernel_rfl, by decide +kernel⟩, by rw [typeLookup_type, builtinLookup_eq_fast]; kernel_rfl⟩
theorem slot_re_sub : Slot "re.Pattern" (Str.ofString "sub") "re.Pattern.sub" :=
  .of (owner := "re.Pattern") (n := "sub") (by rw [typeLookup_type, builtinLookup_eq_fast]; kernel_rfl) (by decide +kernel) (by decide +kernel) (by decide +kernel)
    (by first | exact .inl (by decide +kernel) | exact .inr (by decide +kernel)) (by rw [isSubtype_type]; kernel_rfl)
theorem type_re_sub : typeOf (.builtin "re.Pattern.sub") = pure (.type "method_descriptor") := by show builtinType _ = _; rw [builtinType_eq_fast]; kernel_rfl
theorem entry_re_sub : entryFor table "re.Pattern.sub" = some Builtin.«re.Pattern.sub» := entryFor_of_fast (by kernel_rfl)
theorem args_re_sub (a b c : Value) : argsOk "re.Pattern.sub" ⟨[a, b, c], []⟩ := by kernel_rfl
theorem str_call : typeLookup (.type "str") (Str.ofString "__call__") = pure none := by rw [typeLookup_type, builtinLookup_eq_fast]; kernel_rfl
theorem named_re (a b : Value) : reNamed "re.Pattern.sub" "sub" ["repl", "string", "count"] 2 [a, b] [] = pure [some a, some b, none] := by kernel_rfl
section
variable {prog : Program} {w : World} {A : Around} {E : Value → Shared → Prop} {s : Shared}
theorem getMethod_re {P T : Addr} {pv fl : Value} {pl : Sem Bool} {Q : Value × List Value → Shared → Prop} (hp : s.heap.get? P = some (patO pv fl T)) (h : Q (.builtin "re.Pattern.sub", [.ref P]) s) :
    wpAny (model prog w) A (getMethod (.ref P) (Str.ofString "sub") pl) Q E s :=
  getMethod_builtin ⟨_, hp, rfl⟩ plain_re slot_re_sub type_re_sub (fun a e => by cases e; exact ⟨_, hp, rfl⟩) h
theorem call_sub {P T : Addr} {pv fl : Value} {its : Array Value} {c : Array Nat} {x r : Str} {t tr : Tok} {G : Nat → List Nat} {Q : Value → Shared → Prop} (hp : s.heap.get? P = some (patO pv fl T)) (hT : s.heap.get? T = some (codO its))
    (he : (its.map reRawOf).map (·.toNat) = c) (hF : ∀ a, a ≤ x.cps.size → Finds c x.cps (lst r) G a) (hx : x.length ≤ 100000) (hr : r.length ≤ 100) (hb : r.cps.contains 92 = false)
    (h : ∀ h' tv k', (∀ b o, s.heap.get? b = some o → h'.get? b = some o) → Q (.str ⟨(G 0).toArray⟩ tv) { s with heap := h', toks := k' }) :
    wpAny (model prog w) A (call (.builtin "re.Pattern.sub") [.ref P, .str r tr, .str x t]) Q E s := by
  have hTy : s.TypeIs (.ref P) "re.Pattern" := ⟨_, hp, rfl⟩
  refine wpAny_call (codeAny_call_builtin slot_re_sub.plain entry_re_sub (slot_re_sub.check _ _ _ _ _ _ _ _ hTy (args_re_sub _ _ _) ?_))
  unfold Builtin.«re.Pattern.sub» reSubstitute
  dsimp only
  refine wpAny_bind (wpAny_of_eq (named_re _ _) ?_)
  dsimp only
  refine wpAny_bind (wpAny_pure ?_)
  refine wpAny_bind (wpAny_specialOf (T := "str") (show s.TypeIs (.str r tr) "str" from rfl) str_call ?_)
  rw [if_neg (by decide)]
  refine wpAny_bind (wpAny_of_eq (show asStr? (.str r tr) = pure (some r) from rfl) ?_)
  dsimp only
  refine wpAny_bind (wpAny_pure ?_)
  rw [if_neg (by decide), hb, if_pos (by decide)]
  refine wpAny_bind (wpAny_pure ?_)
  refine wpAny_bind (wpAny_holding (wp_whole hp hT he ?_))
  dsimp only
  rw [if_neg (by decide)]
  refine wpAny_bind (wpAny_newList ?_ (Nat.zero_le _))
  refine wpAny_pure ⟨plainId_quiet plain_subloop _, ?_⟩
  have hPs := Heap.lt_size hp
  have hTs := Heap.lt_size hT
  refine sub_loop (c := c) (G := G) he (Nat.ne_of_lt hPs) (Nat.ne_of_lt hTs) hF hx hr (x.cps.size - 0) 0 0 [] 0 _ rfl (Nat.zero_le _) (Nat.le_refl _) (Nat.le_refl _) (Heap.get?_push_of_some _ hp) (Heap.get?_push_of_some _ hT) (Heap.get?_push_size _ rfl) fun h' tv k' hk => ?_
  exact h h' tv k' fun b o ho => hk b o (Nat.ne_of_lt (Heap.lt_size ho)) (Heap.get?_push_of_some _ ho)
end
/-- line ends -/
def crlf : List Nat → List Nat
  | [] => []
  | [c] => if c = 13 ∨ c = 10 then [13, 10] else [c]
  | c :: d :: r => if c = 13 ∧ d = 10 then 13 :: 10 :: crlf r else if c = 13 ∨ c = 10 then 13 :: 10 :: crlf (d :: r) else c :: crlf (d :: r)
/-- dots at the lines' starts -/
def dots : Bool → List Nat → List Nat
  | _, [] => []
  | b, c :: r => (if b = true ∧ c = 46 then [46, 46] else [c]) ++ dots (c == 10) r
end Mine
end
section
theorem Mine.forget_MyQ2 : True := by
  w_top off
  trivial
open PySem PySem.Sre
set_option maxRecDepth 100000
namespace Mine
theorem first_or (p : Nat → Bool) (n : Nat) : ∀ d a, a + d = n → (∃ t, a ≤ t ∧ t < n ∧ p t = true ∧ ∀ i, a ≤ i → i < t → p i = false) ∨ (∀ i, a ≤ i → i < n → p i = false) := by
  intro d
  induction d with
  | zero => intro a h; exact .inr fun i h1 h2 => by (first | lia | omega)
  | succ d ih =>
    intro a h
    cases hp : p a with
    | true => exact .inl ⟨a, Nat.le_refl _, by (first | lia | omega), hp, fun i h1 h2 => by (first | lia | omega)⟩
    | false =>
      rcases ih (a + 1) (by (first | lia | omega)) with ⟨t, h1, h2, h3, h4⟩ | h4
      · refine .inl ⟨t, by (first | lia | omega), h2, h3, fun i h5 h6 => ?_⟩
        rcases Nat.eq_or_lt_of_le h5 with e | e
        · rw [← e]; exact hp
        · exact h4 i e h6
      · refine .inr fun i h5 h6 => ?_
        rcases Nat.eq_or_lt_of_le h5 with e | e
        · rw [← e]; exact hp
        · exact h4 i e h6
theorem drop_cons {x : Array Nat} {t : Nat} (h : t < x.size) : x.toList.drop t = x.getD t 0 :: x.toList.drop (t + 1) := by
  have hl : t < x.toList.length := h
  rw [List.drop_eq_getElem_cons hl]
  congr 1
  simp [Array.getD, h]
theorem ext_list (x : Array Nat) (a b : Nat) : (x.extract a b).toList = (x.toList.drop a).take (b - a) := by simp [List.extract]
theorem crlf_plain {c : Nat} (h : eol c = false) (r : List Nat) : crlf (c :: r) = c :: crlf r := by
  simp only [eol, Bool.or_eq_false_iff, beq_eq_false_iff_ne] at h
  cases r with
  | nil => simp [crlf, h.1, h.2]
  | cons d r => simp [crlf, h.1, h.2]
theorem crlf_nl (r : List Nat) : crlf (10 :: r) = 13 :: 10 :: crlf r := by cases r <;> simp [crlf]
theorem crlf_crlf (r : List Nat) : crlf (13 :: 10 :: r) = 13 :: 10 :: crlf r := by simp [crlf]
theorem crlf_cr {r : List Nat} (h : ∀ r', r ≠ 10 :: r') : crlf (13 :: r) = 13 :: 10 :: crlf r := by
  cases r with
  | nil => simp [crlf]
  | cons d r =>
    have : d ≠ 10 := fun e => h r (by rw [e])
    simp [crlf, this]
section
variable {x : Array Nat}
theorem crlf_pre : ∀ (d a : Nat), a + d ≤ x.size → (∀ i, a ≤ i → i < a + d → eol (x.getD i 0) = false) → crlf (x.toList.drop a) = (x.toList.drop a).take d ++ crlf (x.toList.drop (a + d)) := by
  intro d
  induction d with
  | zero => intro a _ _; simp
  | succ d ih =>
    intro a h hn
    rw [drop_cons (by (first | lia | omega)), crlf_plain (hn a (Nat.le_refl _) (by (first | lia | omega))), ih (a + 1) (by (first | lia | omega)) (fun i h1 h2 => hn i (by (first | lia | omega)) (by (first | lia | omega)))]
    rw [show a + 1 + d = a + (d + 1) by (first | lia | omega)]
    simp
theorem crlf_at {t : Nat} (h : t < x.size) (he : eol (x.getD t 0) = true) : crlf (x.toList.drop t) = [13, 10] ++ crlf (x.toList.drop (t + eolW x t)) := by
  simp only [eol, Bool.or_eq_true, beq_iff_eq] at he
  unfold eolW
  rw [drop_cons h]
  rcases he with he | he
  · rw [if_neg (by (first | lia | omega)), he, crlf_nl]; rfl
  · by_cases h2 : t + 1 < x.size ∧ x.getD (t + 1) 0 = 10
    · rw [if_pos ⟨he, h2⟩, he, drop_cons h2.1, h2.2, crlf_crlf]; rfl
    · rw [if_neg (fun z => h2 z.2), he, crlf_cr]; rfl
      intro r' e
      by_cases h3 : t + 1 < x.size
      · rw [drop_cons h3] at e
        injection e with e1 e2
        exact h2 ⟨h3, e1⟩
      · rw [List.drop_eq_nil_of_le (by simpa using h3)] at e; cases e
theorem eolW_le {t : Nat} (h : t < x.size) : t < t + eolW x t ∧ t + eolW x t ≤ x.size := by
  unfold eolW
  by_cases h' : x.getD t 0 = 13 ∧ t + 1 < x.size ∧ x.getD (t + 1) 0 = 10
  · rw [if_pos h']; (first | lia | omega)
  · rw [if_neg h']; (first | lia | omega)
theorem finds2 {a : Nat} (ha : a ≤ x.size) : Finds c2 x [13, 10] (fun a => crlf (x.toList.drop a)) a := by
  rcases first_or (fun i => eol (x.getD i 0)) x.size (x.size - a) a (by (first | lia | omega)) with ⟨t, h1, h2, h3, h4⟩ | h4
  · refine .inl ⟨t, t + eolW x t, h1, (eolW_le h2).1, (eolW_le h2).2, ?_, ?_⟩
    · have := crlf_pre (x := x) (t - a) a (by (first | lia | omega)) (fun i h5 h6 => h4 i h5 (by (first | lia | omega)))
      dsimp only
      rw [this, ext_list, show a + (t - a) = t by (first | lia | omega), crlf_at h2 h3, List.append_assoc]
    · obtain ⟨n, m', h5, h6⟩ := found2 (mu := false) h1 h2 h3 h4
      exact ⟨n, m', by (first | lia | omega), h6⟩
  · refine .inr ⟨?_, ?_⟩
    · have := crlf_pre (x := x) (x.size - a) a (by (first | lia | omega)) (fun i h5 h6 => h4 i h5 (by (first | lia | omega)))
      dsimp only
      rw [this, ext_list, show a + (x.size - a) = x.size by (first | lia | omega)]
      rw [List.drop_eq_nil_of_le (i := x.size) (by simp)]
      simp [crlf]
    · obtain ⟨n, m', h5, h6⟩ := lost2 (mu := false) ha h4
      exact ⟨n, m', by (first | lia | omega), h6⟩
abbrev bol (x : Array Nat) (a : Nat) : Bool := a == 0 || x.getD (a - 1) 0 == 10
theorem dots_pre : ∀ (d a : Nat), a + d ≤ x.size → (∀ i, a ≤ i → i < a + d → dot1 x i = false) → dots (bol x a) (x.toList.drop a) = (x.toList.drop a).take d ++ dots (bol x (a + d)) (x.toList.drop (a + d)) := by
  intro d
  induction d with
  | zero => intro a _ _; simp
  | succ d ih =>
    intro a h hn
    have h0 := hn a (Nat.le_refl _) (by (first | lia | omega))
    unfold dot1 at h0
    have hb : (bol x (a + 1)) = (x.getD a 0 == 10) := by simp [bol]
    rw [drop_cons (by (first | lia | omega)), dots, ← hb, ih (a + 1) (by (first | lia | omega)) (fun i h1 h2 => hn i (by (first | lia | omega)) (by (first | lia | omega)))]
    rw [show a + 1 + d = a + (d + 1) by (first | lia | omega)]
    rw [if_neg]
    · simp
    · rintro ⟨h1, h2⟩
      have h1' : (a == 0 || x.getD (a - 1) 0 == 10) = true := h1
      rw [h1', h2] at h0
      simp at h0; (first | lia | omega)
theorem finds1 {a : Nat} (ha : a ≤ x.size) (hz : x.size ≤ 100000) : Finds c1 x [46, 46] (fun a => dots (bol x a) (x.toList.drop a)) a := by
  rcases first_or (fun i => dot1 x i) x.size (x.size - a) a (by (first | lia | omega)) with ⟨t, h1, h2, h3, h4⟩ | h4
  · refine .inl ⟨t, t + 1, h1, by (first | lia | omega), by (first | lia | omega), ?_, ?_⟩
    · have := dots_pre (x := x) (t - a) a (by (first | lia | omega)) (fun i h5 h6 => h4 i h5 (by (first | lia | omega)))
      dsimp only
      rw [this, ext_list, show a + (t - a) = t by (first | lia | omega), List.append_assoc]
      congr 1
      have h3' := h3
      unfold dot1 at h3'
      simp only [Bool.and_eq_true, decide_eq_true_eq, beq_iff_eq] at h3'
      have hb : (bol x (t + 1)) = (x.getD t 0 == 10) := by simp [bol]
      rw [drop_cons h2, dots, if_pos ⟨h3'.1, h3'.2.2⟩, hb]
    · obtain ⟨n, m', h5, h6⟩ := found1 (mu := false) h1 h3 h4
      exact ⟨n, m', by (first | lia | omega), h6⟩
  · have h4' : ∀ i, a ≤ i → dot1 x i = false := by
      intro i hi
      by_cases h : i < x.size
      · exact h4 i hi h
      · unfold dot1; simp [h]
    refine .inr ⟨?_, ?_⟩
    · have := dots_pre (x := x) (x.size - a) a (by (first | lia | omega)) (fun i h5 h6 => h4 i h5 (by (first | lia | omega)))
      dsimp only
      rw [this, ext_list, show a + (x.size - a) = x.size by (first | lia | omega)]
      rw [List.drop_eq_nil_of_le (i := x.size) (by simp)]
      simp [dots]
    · obtain ⟨n, m', h5, h6⟩ := lost1 (mu := false) ha h4'
      exact ⟨n, m', by (first | lia | omega), h6⟩
end
end Mine
end
section
theorem Mine.forget_MyC : True := by
  w_top off
  trivial
open PySem PySem.W PyProof.Rows PySem.Calls PySem.Spec
set_option maxRecDepth 100000
namespace Mine
theorem allLt_ne {d D : Nat} : ∀ {l : List (Addr × Obj)}, AllLt d l → d ≤ D → ∀ p ∈ l, p.1 ≠ D
  | [], _, _ => fun _ h => nomatch h
  | q :: r, h, hd => fun p hp => by
    rcases List.mem_cons.mp hp with rfl | hp
    · have := h.1; exact Nat.ne_of_lt (Nat.lt_of_lt_of_le this hd)
    · exact allLt_ne h.2 hd p hp
theorem allLt_mem {d : Nat} : ∀ {l : List (Addr × Obj)}, AllLt d l → ∀ {p : Addr × Obj}, p ∈ l → p.1 < d
  | [], _, _, h => nomatch h
  | q :: r, h, p, hp => by
    rcases List.mem_cons.mp hp with rfl | hp
    · exact h.1
    · exact allLt_mem h.2 hp
/-- a turn's end, the ledger free -/
def EndG {σ : Type} (h₀ : Heap) (L : Addr) (s : Shared) (I : Addr) (it : Obj) (Led : σ → List (Addr × Obj)) (ps : σ → List (Str × Value)) (P : σ → Prop) (Q : Flow → Shared → Prop) (f : Flow) (s₂ : Shared) : Prop :=
  match f with
  | .ret v => Q (.ret v) s₂
  | .brk => Q .next s₂
  | _ => JoinA h₀ L s (fun c => (I, it) :: Led c) ps (fun c => (∀ p ∈ Led c, p.1 ≠ I) ∧ P c) s₂
section
variable {prog : Program} {w : World} {A : Around} {E : Value → Shared → Prop} {Q : Flow → Shared → Prop} {s : Shared} {env : Env} {h₀ : Heap} {x : Str} {body : List Stmt}
theorem endG_up {σ : Type} {L I : Addr} {it : Obj} {Led : σ → List (Addr × Obj)} {ps : σ → List (Str × Value)} {P : σ → Prop} {f : Flow} {s₂ : Shared} {rest : (Str → Option Value) → List (Addr × Obj) → Prop}
    (hJ : ∀ c m, (∀ p ∈ ps c, m p.1 = some p.2) → (∀ p ∈ Led c, p.1 ≠ I) → P c → rest m (Led c)) (p : EndG h₀ L s I it Led ps P Q f s₂) : UnrPost h₀ L s I it rest Q f s₂ := by
  cases f with
  | ret v => exact p
  | brk => exact p
  | next =>
    obtain ⟨c', h', tk, m', news', rfl, F', N', hn, hk, ho, hp⟩ := p
    exact ⟨h', tk, m', Led c', rfl, F', fun q hq => N' q (hn q hq), ho, hJ c' m' hk ho hp⟩
  | cont =>
    obtain ⟨c', h', tk, m', news', rfl, F', N', hn, hk, ho, hp⟩ := p
    exact ⟨h', tk, m', Led c', rfl, F', fun q hq => N' q (hn q hq), ho, hJ c' m' hk ho hp⟩
theorem list_grow {σ : Type} {ax : Addr} {vs : List Value} {ep : Nat} {m₀ : Str → Option Value} (Led : σ → List (Addr × Obj)) (ps : σ → List (Str × Value)) (P : Nat → σ → Prop) (c₀ : σ)
    (hh : A.handled = none) (F : Fr h₀ env.locals s.heap m₀) (N : News h₀ env.locals s.heap (Led c₀)) (hk : ∀ p ∈ ps c₀, m₀ p.1 = some p.2) (hp : P 0 c₀) (hax : ∀ i c, P i c → (ax, listOf vs.toArray ep) ∈ Led c)
    (turn : ∀ (c : σ) (i : Nat) v (u : Str → Option Value) h tk I it, vs[i]? = some v → (∀ p ∈ Led c, p.1 ≠ I) → P i c →
      Fr h₀ env.locals h (kstB (kstB u (ps c)) [(x, v)]) → News h₀ env.locals h ((I, it) :: Led c) →
      wpAny (model prog w) A (execs body env) (EndG h₀ env.locals { s with heap := h, toks := tk } I it Led ps (P (i + 1)) Q) E { s with heap := h, toks := tk })
    (done : ∀ (c : σ) (u : Str → Option Value) h tk, P vs.length c → Fr h₀ env.locals h (kstB u (ps c)) → News h₀ env.locals h (Led c) → Q .next { s with heap := h, toks := tk }) :
    wpAny (model prog w) A (pyIter (.ref ax)) (fun it s₂ => LoopAtV prog w A h₀ env x body Q E it s₂) E s := by
  refine iter_listUnr (lo := listOf vs.toArray ep) hh F N (hax 0 c₀ hp) rfl rfl fun I hI => ?_
  have key : ∀ (r : List Value) (i : Nat) (c : σ) (m : Str → Option Value), vs.drop i = r → i ≤ vs.length → P i c → (∀ p ∈ ps c, m p.1 = some p.2) → (∀ p ∈ Led c, p.1 ≠ I) → ListRest prog w A E h₀ env x body Q s I (ax, listOf vs.toArray ep) r m (Led c) := by
    intro r
    induction r with
    | nil =>
      intro i c m hi hle hp hk _
      have : i = vs.length := by have := congrArg List.length hi; simp at this; omega
      subst this
      exact ListRest.zero fun h tk F' N' => done c m h tk hp (fr_kst F' hk) N'
    | cons v r ih =>
      intro i c m hi hle hp hk ho
      have hlt : i < vs.length := by
        rcases Nat.lt_or_ge i vs.length with h | h
        · exact h
        · rw [List.drop_eq_nil_of_le h] at hi; cases hi
      have hv : vs[i]? = some v := by
        rw [List.drop_eq_getElem_cons hlt] at hi
        injection hi with h1 h2
        rw [List.getElem?_eq_getElem hlt, h1]
      have hr : vs.drop (i + 1) = r := by
        rw [List.drop_eq_getElem_cons hlt] at hi
        injection hi
      refine ListRest.succ fun it h tk _ F' N' => ?_
      have em : kstB m (ps c) = m := funext fun y => kstB_eq hk fun _ => rfl
      refine wpAny_mono (turn c i v m h tk I it hv ho hp (by rw [em]; exact F') N') (fun f s₂ p => endG_up (fun c' m' h1 h2 h3 => ⟨hax _ _ h3, ih (i + 1) c' m' hr hlt h3 h1 h2⟩) p) fun _ _ e => e
  exact key vs 0 c₀ m₀ rfl (Nat.zero_le _) hp hk fun p hp => Nat.ne_of_lt (hI p hp)
end
section
variable {prog : Program} {w : World} {A : Around} {h₀ : Heap} {L : Addr} {m : Str → Option Value} {env : Env} {elt : Expr} {x : Str} {scope : Scope} {cl : List (Str × Addr)} {s : Shared} {S : List (Addr × Obj) → Prop} {Pv : Nat → Value → Prop} {Fin : List Value → List (Addr × Obj) → Prop}
theorem comp_all {σ : Type} (Led : σ → List (Addr × Obj)) (P : Nat → σ → List Value → Prop) {n : Nat} (c₀ : σ) (hp : P 0 c₀ [])
    (turn : ∀ i c ys v I oI C oC D m₂ h tk (E' : Value → Shared → Prop), i < n → P i c ys → Pv i v → LCg.NsObj oC m₂ → m₂ x = some v → Fr h₀ L h m → News h₀ L h ((I, oI) :: (C, oC) :: (D, LCg.lst ys) :: Led c) → LCg.Off3 I C D (Led c) → ((@Ne Nat I C) ∧ (@Ne Nat I D) ∧ (@Ne Nat C D)) →
      wpAny (model prog w) A (eval elt (compEnvC scope cl C env)) (LCg.CompEnd h₀ L m { s with heap := h, toks := tk } I oI C oC D (LCg.lst ys) S (fun y news' => ∃ c', news' = Led c' ∧ P (i + 1) c' (ys ++ [y]))) E' { s with heap := h, toks := tk })
    (fin : ∀ c ys, P n c ys → Fin ys (Led c)) : LCg.CompRest prog w A h₀ L m env elt x scope cl s S Pv Fin n 0 [] (Led c₀) := by
  have key : ∀ (k i : Nat) (c : σ) (ys : List Value), i + k = n → P i c ys → LCg.CompRest prog w A h₀ L m env elt x scope cl s S Pv Fin k i ys (Led c) := by
    intro k
    induction k with
    | zero =>
      intro i c ys hi hp
      have : i = n := by omega
      subst this
      exact LCg.CompRest.zero (fin c ys hp)
    | succ k ih =>
      intro i c ys hi hp
      refine LCg.CompRest.succ ?_
      intro v I oI C oC D m₂ h tk E' hv hC hx F N off ne
      refine wpAny_mono (turn i c ys v I oI C oC D m₂ h tk E' (by omega) hp hv hC hx F N off ne) (fun y s₂ hq => ?_) fun _ _ e => e
      obtain ⟨h', tk', nw, e, F', N', off', hS, c', rfl, hp'⟩ := hq
      exact ⟨h', tk', _, e, F', N', off', hS, ih (i + 1) c' _ (by omega) hp'⟩
  exact key n 0 c₀ [] (by omega) hp
end
end Mine
end
section
theorem Mine.forget_Ld2 : True := by
  w_top off
  trivial
open PySem PySem.W PyProof.Rows PySem.Calls PySem.Spec
set_option maxRecDepth 100000
set_option maxHeartbeats 8000000
namespace Mine
/-- a word of dots -/
def dotS (n : Nat) : Str := ⟨(List.replicate n 46).toArray⟩
theorem lst_dotS (n : Nat) : lst (dotS n) = List.replicate n 46 := by unfold dotS; rw [lst_mk]
theorem len_dotS (n : Nat) : (dotS n).length = n := by rw [len_lst, lst_dotS, List.length_replicate]
theorem ex_eq2 {α : Type} (a : α) : ∃ v, a = v := ⟨a, rfl⟩
theorem int_eq {x y : Int} {t : Tok} (h : x = y) : Value.int x t = Value.int y t := by rw [h]
theorem dot_from {n k : Nat} (h : k ≤ n) : Txt.slice (dotS n) (some (k : Int)) none = dotS (n - k) := str_ext (by
  rw [lst_from (Int.natCast_nonneg _) (by rw [len_dotS]; omega), lst_dotS, lst_dotS, List.drop_replicate]; rfl)
theorem dot_inj {p q : Nat} (h : (dotS p == dotS q) = true) : p = q := by
  have := congrArg Str.length (eq_of_beq h)
  rwa [len_dotS, len_dotS] at this
theorem dot_item {p k : Nat} (h : k < p) : Txt.item (dotS p) (k : Int) = ⟨#[46]⟩ := by
  rw [item_at (Int.natCast_nonneg _) (by rw [len_dotS]; omega), lst_dotS]
  simp [h]
local macro_rules | `(tactic| walk_at "subscriptTail Name Slice str ref") => `(tactic| ((with_reducible show wpAny _ _ (subscriptTail _ (Expr.Slice none (some (Expr.BoolOp _ _ _)) none _) _ _) _ _ _); (with_reducible rename Fr _ _ _ _ => F'); (with_reducible rename News _ _ _ _ => N'); refine slice_strN_nn_len (s := ⟨_, _, _, _, _⟩) F' N' ?_; intro _ _ _ _ _ _; simp only [slice_all]))
local macro_rules | `(tactic| walk_at "exec While") => `(tactic| (refine Held.out ?_))
local macro_rules | `(tactic| walk_at "EndA") => `(tactic| (dsimp only [EndA]))
local macro_rules | `(tactic| walk_at "JoinA") => `(tactic| first | (exfalso; omega) | (refine joinA_end (_, _) (by assumption) (by assumption) (by kst_in) (by kst_all) ?_; refine Held.out ?_))
local macro_rules | `(tactic| k_all) => `(tactic| assumption)
theorem levd_ctr (w : World) (p : Program) (loose : List Str) (mean : ExcName → Option Value) (mg mb : Str → Option Value) (Xt : Heap → Prop) (news : List (Addr × Obj)) (a b : Nat) (t1 t2 t3 : Tok) :
   Ctr (PySem.Challenge.rw_pe0114_02).row.prog w (hd.heap_39 w.params) p loose mean mg mb Xt 104 2 news (a ≤ 20 ∧ b ≤ 20) [.str (dotS a) t1, .str (dotS b) t2, .int 99 t3] (fun v nw => (∃ t, v = .int (2 * (((a : Int) - b).natAbs : Int)) t) ∧ nw = news) := by
  k_fill
  dsimp only [Ctr]
  intros; rename_i hpre _ _ hret
  obtain ⟨ha, hb⟩ := hpre
  obtain ⟨A, hA⟩ := ex_eq2 (dotS a)
  obtain ⟨B, hB⟩ := ex_eq2 (dotS b)
  have la : A.length = a := by rw [← hA, len_dotS]
  have lb : B.length = b := by rw [← hB, len_dotS]
  rw [hA, hB]
  k_dflt cell_enter
  k_steps
  · have e : a = b := dot_inj (by rw [hA, hB]; assumption)
    subst e
    exact hret _ _ _ _ ⟨⟨_, by rw [Int.sub_self]; rfl⟩, rfl⟩ (by k_asm) (by k_asm)
  refine Held.put ?_
  refine' while_all (σ := Nat × Tok) (fun _ => news) (fun c => [(Str.ofString "pre", .int (c.1 : Int) c.2), (Str.ofString "a", .str A t1), (Str.ofString "b", .str B t2)]) (fun c => c.1 ≤ a ∧ c.1 ≤ b) (fun c => a - c.1) (fun c => c.1 ≤ a ∧ c.1 ≤ b ∧ (c.1 = a ∨ c.1 = b)) (0, _) ?F ?N ?hk ?hp ?turn ?next
  case F => k_asm
  case N => k_asm
  case hk => kst_all
  case hp => exact ⟨Nat.zero_le _, Nat.zero_le _⟩
  case turn =>
    (rename Fr _ _ _ _ => oF; clear oF); (rename News _ _ _ _ => oN; clear oN)
    intro c u h tk hP F' N'
    obtain ⟨pre, tp⟩ := c
    dsimp only [kstB] at F' hP
    obtain ⟨hP1, hP2⟩ := hP
    try k_fold
    k_steps
    all_goals first
      | exact ⟨⟨by dsimp only; omega, by dsimp only; omega⟩, by dsimp only; omega⟩
      | exact ⟨hP1, hP2, by dsimp only; omega⟩
      | (exfalso; (rename (_ == _) = false => hne); rw [← hA, ← hB, dot_item (by omega), dot_item (by omega), beq_self_eq_true] at hne; cases hne)
  case next =>
    (rename Fr _ _ _ _ => oF; clear oF); (rename News _ _ _ _ => oN; clear oN)
    intro c u h tk hQ F' N'
    obtain ⟨pre, tp⟩ := c
    dsimp only [kstB] at F' hQ
    obtain ⟨hP1, hP2, hP3⟩ := hQ
    try k_fold
    k_steps
    refine Held.put ?_
    obtain ⟨A1, hA1⟩ := ex_eq2 (Txt.slice A (some (pre : Int)) none)
    obtain ⟨B1, hB1⟩ := ex_eq2 (Txt.slice B (some (pre : Int)) none)
    have la1 : A1.length = a - pre := by rw [← hA1, ← hA, dot_from hP1, len_dotS]
    have lb1 : B1.length = b - pre := by rw [← hB1, ← hB, dot_from hP2, len_dotS]
    refine' while_all (σ := Int × Tok) (fun _ => news) (fun c => [(Str.ofString "post", .int c.1 c.2), (Str.ofString "a", .str A1 _), (Str.ofString "b", .str B1 _)]) (fun c => c.1 = 0) (fun _ => 0) (fun c => c.1 = 0) (0, _) ?F ?N ?hk ?hp ?turn ?next
    case F => k_asm
    case N => k_asm
    case hk => rw [← hA1, ← hB1]; kst_all
    case hp => exact rfl
    case turn =>
      (rename Fr _ _ _ _ => oF; clear oF); (rename News _ _ _ _ => oN; clear oN)
      intro c u h tk hP F' N'
      obtain ⟨post, tp⟩ := c
      dsimp only [kstB] at F' hP
      subst hP
      clear hA1 hB1 hA hB
      try k_fold
      k_steps
      all_goals first | exact rfl | (exfalso; omega) | trace_state
    case next =>
      (rename Fr _ _ _ _ => oF; clear oF); (rename News _ _ _ _ => oN; clear oN)
      intro c u h tk hP F' N'
      obtain ⟨post, tp⟩ := c
      dsimp only [kstB] at F' hP
      subst hP
      clear hA1 hB1 hA hB
      try k_fold
      k_steps
      all_goals first
        | (exfalso; omega)
        | exact hret _ _ _ _ ⟨⟨_, int_eq (by omega)⟩, rfl⟩ (by k_asm) (by k_asm)
end Mine
end
section
theorem Mine.forget_Rd2 : True := by
  w_top off
  trivial
open PySem PySem.W PyProof.Rows PySem.Calls PySem.Spec
set_option maxRecDepth 100000
set_option maxHeartbeats 8000000
namespace Mine
local macro_rules | `(tactic| k_all) => `(tactic| first | assumption | exact allLt_ne (by assumption) (by omega) | exact allLt_ne (And.right (by assumption)) (by omega) | exact allLt_ne (And.right (And.right (by assumption))) (by omega) | exact allLt_ne (And.right (And.right (And.right (by assumption)))) (by omega) | exact allLt_ne (And.right (And.right (And.right (And.right (by assumption))))) (by omega))
local macro_rules | `(tactic| walk_at "setAttr ref") => `(tactic| ((with_reducible show wpAny _ _ (setAttr _ (Str.ofString "read") _) _ _ _); k_dflt (refine' setAttr_fnN ?F ?N ?U ?_; (case F => k_asm); (case N => k_asm); (case U => k_updF)); intro d' hs' tk' kt' h' F' N' l1; (try dsimp only at N'); (try k_lt l1)))
local macro_rules | `(tactic| k_room) => `(tactic| ktr_room)
local macro_rules | `(tactic| k_units) => `(tactic| ktr_units)
abbrev tabFull (la lb : Nat) (c1 c2 : Addr) : Array Value := #[rawInt (la : Nat), rawInt (4 : Nat), .ref c1, rawInt (lb : Nat), rawInt (13 : Nat), .ref c2]
abbrev rdQual : Str := Str.ofString "_law_lexer.<locals>._law_read_on"
abbrev LexRet (prog : Program) (w : World) (K : Frag) (p : Program) (loose : List Str) (mean : ExcName → Option Value) (mg mb : Str → Option Value) (Xt : Heap → Prop) (la lb : Nat) (C P : Addr) (text : Str) (own : List (Addr × Obj)) (news : List (Addr × Obj)) (v : Value) (nw : List (Addr × Obj)) : Prop :=
  ∃ (x : Lx) (tp tl : Tok) (ea ep : Nat) (vs : Array Value) (t : Tok), v = .ref x.lx ∧ x.Ord ∧ ReadOk prog w K p loose mean mg mb Xt x text ∧ (∀ q ∈ (P, tabObj (tabFull la lb x.c1 x.c2)) :: (own ++ news), q.1 < x.cTx) ∧ x.oc1.data = .fields vs ∧ vs[1]? = some (.str rdQual t) ∧ (own = [] → @LT.lt Nat _ x.cTx x.c1 ∧ @LT.lt Nat _ x.cTx x.c2) ∧
    (own = [] ∨ own = [(x.c1, x.oc1), (x.c2, x.oc2)]) ∧ nw = x.led C ⟨0, 1, #[], tp, ea, tl, ep⟩ ++ (P, tabObj (tabFull la lb x.c1 x.c2)) :: news
theorem lexer_ctr (w : World) (p : Program) (loose : List Str) (mean : ExcName → Option Value) (mg mb : Str → Option Value) (news : List (Addr × Obj)) (a : Str) (t1 : Tok) :
   Ctr (PySem.Challenge.rw_pe0114_02).row.prog w (hd.heap_39 w.params) p loose mean mg mb (fun h => CodeHd h 110 106) 111 3 ((106, tabObj #[]) :: news) (a.length ≤ 1000 ∧ ∀ p ∈ news, p.1 ≠ 106) [.str a t1]
     (LexRet (PySem.Challenge.rw_pe0114_02).row.prog w (hd.heap_39 w.params) p loose mean mg mb (fun h => CodeHd h 110 106) 0x68 0x6c 69 106 a [] news) := by
  k_fill
  dsimp only [Ctr]
  intros; rename_i hla _ _ hret; obtain ⟨hla, hn106⟩ := hla
  k_dflt (refine' code_defC ?k1 ?k2 ?k3 ?k4 ?k5 ?kA ?kF ?kK ?k6 ?k7 ?k8 ?k9 ?kB ?kD ?_ ?c2 ?c3 ?c4; (case kA => exact rfl); (case kF => exact rfl); (case kK => assumption); (case k1 => k_asm); (case k2 => k_asm); (case k3 => k_asm); (case k4 => k_asm); (case k5 => k_asm); (case k6 => k_is); (case k7 => k_is); (case k8 => ktr_room); (case k9 => exact BindsTo.of_eq rfl); (case kB => exact rfl); (case kD => decide +kernel); (case c2 => exact rfl); (case c3 => exact rfl); (case c4 => exact rfl); k_whole; intro g' L' h' tk' cells' FG' F' N' Y' B' X' T' l1; (try k_lt l1); k_cells Y'; (try simp only [List.cons_append, List.nil_append] at N'); (try dsimp only); (try k_lift B'); (try k_fold))
  rename CodeHd _ _ _ => codeHd
  k_steps
  rename News _ _ _ _ => nX
  refine hret _ _ _ _ ?r (by k_asm) (fun p hp => nX p (lex_perm p hp))
  refine ⟨{ pbL := _, lx := _, dx := _, sd := _, st := _, c2 := _, rd := _, c1 := _, atL := _, cAt := _, cTx := _, oc2 := _, oc1 := _, oAt := _, oTx := _, fst := _, frd := _, h1 := _, h2 := _, h3 := _, h4 := _, h5 := _, k1 := _, k2 := _, k3 := _, k4 := _, k5 := _, tw := _ }, _, _, _, _, _, _, rfl, ?_, ?_, ?_, by assumption, by assumption, fun _ => ⟨by (refine ltN ?_; dsimp only; omega), by (refine ltN ?_; dsimp only; omega)⟩, .inl rfl, rfl⟩
  · constructor <;> dsimp only
    all_goals first | (refine ltN ?_; omega) | (right; constructor <;> (refine ltN ?_; omega))
  · (repeat (rename Fr _ _ _ _ => oF; clear oF)); (repeat (rename News _ _ _ _ => oN; clear oN)); (repeat (rename Below _ _ _ _ => oB; clear oB)); (repeat (rename Top _ _ _ _ _ _ => oT; clear oT)); (repeat (rename Frag.In _ _ => oX; clear oX)); clear codeHd hret
    intro pos tp ea t rest
    dsimp only [Ctr]
    intros
    rename_i codeHd _ _ _ _ _ _ hpre _ _ hret
    obtain ⟨hp0, hp1, hrest⟩ := hpre
    simp only [List.cons_append, List.nil_append] at *
    k_dflt (refine' code_nest ?k1 ?k2 ?k3 ?k4 ?k5 ?kA ?kF ?kK ?k6 ?k7 ?k8 ?k9 ?kB ?_ ?c2 ?c3 ?c4 ?c5; (case kA => exact rfl); (case kF => exact rfl); (case kK => assumption); (case k1 => k_asm); (case k2 => k_asm); (case k3 => k_asm); (case k4 => k_asm); (case k5 => k_asm); (case k6 => k_mem); (case k7 => exact codeRec_news (by k_asm) (by k_mem) (by assumption) (by assumption)); (case k8 => ktr_room); (case k9 => exact BindsTo.of_eq rfl); (case c5 => decide); (case kB => exact locs rfl); (case c2 => exact rfl); (case c3 => exact rfl); (case c4 => exact rfl); k_whole; intro g' L' h' FG' F' N' B' X' T'; (try dsimp only); (try k_lift B'); (try k_fold))
    k_steps
    exact hret _ _ _ _ ⟨_, _, rfl, rfl⟩ (by k_asm) (by k_asm)
  · intro q hq
    dsimp only
    rcases List.mem_cons.mp hq with rfl | hq
    · refine ltN ?_; dsimp only; omega
    · refine Nat.lt_of_lt_of_le ?_ (Nat.le_succ _)
      first | exact allLt_mem (And.right (by assumption)) hq | exact allLt_mem (by assumption) hq
end Mine
end
section
theorem Mine.forget_Rc2 : True := by
  w_top off
  trivial
open PySem PySem.W PyProof.Rows PySem.Calls PySem.Spec
set_option maxRecDepth 100000
set_option maxHeartbeats 8000000
namespace Mine
local macro_rules | `(tactic| k_all) => `(tactic| assumption)
local macro_rules | `(tactic| k_room) => `(tactic| ktr_room)
local macro_rules | `(tactic| k_units) => `(tactic| ktr_units)
local macro_rules | `(tactic| walk_at "getMethod ref") => `(tactic| ((with_reducible show wpAny _ _ (getMethod _ (Str.ofString "read") _) _ _ _); (rename News _ _ _ _ => nX); k_dflt (refine getMethod_fn (nX.get (by k_mem)) (nX.get (by k_mem)) ?_); intro tk'))
local macro_rules | `(tactic| walk_at "callWith ref") => `(tactic| (k_dflt (refine' callWith_F ?k1 ?_; (case k1 => exact FnAt.of (by k_asm) (by k_mem)); k_whole)))
local macro_rules | `(tactic| walk_at "call ref") => `(tactic| (refine Held.out ?_))
theorem read_char_ctr (w : World) (p : Program) (loose : List Str) (mean : ExcName → Option Value) (mg mb : Str → Option Value) (Xt : Heap → Prop) (x : Lx) (y : Ls) (text : Str) (rest : List (Addr × Obj)) :
   Ctr (PySem.Challenge.rw_pe0114_02).row.prog w (hd.heap_39 w.params) p loose mean mg mb Xt 52 2 (x.led 69 y ++ rest)
     (x.Ord ∧ ReadOk (PySem.Challenge.rw_pe0114_02).row.prog w (hd.heap_39 w.params) p loose mean mg mb Xt x text ∧ text.length ≤ 1000 ∧ 0 ≤ y.pos ∧ y.pos ≤ text.length ∧ 0 ≤ y.ln ∧ y.ln ≤ 100000 ∧ (∀ q ∈ rest, q.1 ≠ x.atL) ∧ ∀ q ∈ rest, q.1 ≠ x.dx) [.ref x.lx]
     (fun v nw => ∃ tv tp tl, v = .str (chAt text y.pos) tv ∧ nw = x.led 69 { y with pos := y.pos + (chAt text y.pos).length, ln := y.ln + (if chAt text y.pos = Str.ofString "\n" then 1 else 0), tp := tp, tl := tl } ++ rest) := by
  k_fill
  dsimp only [Ctr]
  intros
  rename_i hXt _ _ _ _ _ _ hpre _ _ hret
  obtain ⟨⟨a1, a2, a3, a4, a5, a6, a7, a8, a9, a10⟩, hrd, htl, hp0, hp1, hl0, hl1, hra, hrb⟩ := hpre
  rename News _ _ _ _ => hN0
  simp only [List.cons_append, List.nil_append] at hN0
  k_dflt cell_enter
  k_steps
  refine Held.put ?_
  k_dflt (refine' ctr_use (hrd y.pos y.tp y.ea _ (x.more 69 y ++ rest)) hXt ?k1 ?k2 ?k3 ?k4 ?k5 ?kK ?kp ?kd ?ku ?_; (case k1 => k_asm); (case k2 => k_asm); (case k3 => k_asm); (case k4 => k_asm); (case k5 => k_asm); (case kK => first | exact rfl | assumption); (case kd => ktr_room); (case ku => ktr_units))
  case kp =>
    refine ⟨hp0, hp1, ?_⟩
    simp only [List.cons_append, List.nil_append]
    intro q hq
    simp only [List.mem_cons] at hq
    rcases hq with h | h | h | h | h | h | h
    all_goals first | exact hra q h | (rw [h]; refine neN ?_; dsimp only; omega)
  intro v' nw' h' tk' hr' F' N'
  obtain ⟨tv, tp', rfl, rfl⟩ := hr'
  simp only [List.cons_append, List.nil_append] at N'
  k_steps
  · exact hret _ _ _ _ ⟨_, _, _, rfl, by rw [if_pos (eq_of_beq (by assumption))]⟩ (by k_asm) (by k_asm)
  · exact hret _ _ _ _ ⟨_, _, y.tl, rfl, by rw [if_neg (ne_of_beq_false (by assumption)), Int.add_zero]⟩ (by k_asm) (by k_asm)
end Mine
end
section
theorem Mine.forget_Gt2 : True := by
  w_top off
  trivial
open PySem PySem.W PyProof.Rows PySem.Calls PySem.Spec
set_option maxRecDepth 100000
set_option maxHeartbeats 8000000
namespace Mine
local macro_rules | `(tactic| k_all) => `(tactic| assumption)
local macro_rules | `(tactic| k_room) => `(tactic| ktr_room)
local macro_rules | `(tactic| k_units) => `(tactic| ktr_units)
local macro_rules | `(tactic| walk_at "truthy ref") => `(tactic| ((rename News _ _ _ _ => nX); k_dflt (refine wpAny_truthy_list (items := #[]) (nX.isList (by k_mem)) (by decide) ?_)))
local macro_rules | `(tactic| walk_at "exec For") => `(tactic| (refine Held.out ?_))
local macro_rules | `(tactic| walk_at "exec If") => `(tactic| ((fail_if_success (rename HoldOff => hx)); (with_reducible show wpAny _ _ (exec (Stmt.If _ [Stmt.Assign _ _ _] _ _) _) _ _ _); refine Held.out ?_))
local macro_rules | `(tactic| walk_at "call ref") => `(tactic| (with_reducible show wpAny _ _ (call (Value.ref 52) _) _ _ _); (refine Held.out ?_))
local macro_rules | `(tactic| walk_at "call builtin:iter") => `(tactic| ((rename News _ _ _ _ => nX); (rename Fr _ _ _ _ => fX); k_dflt (refine iter2_N fX nX (by k_mem) ?_); intro it' h' F' N' l1; (try k_lt l1)))
theorem ctr_code {prog : Program} {w : World} {K : Frag} {p : Program} {loose : List Str} {mean : ExcName → Option Value} {mg mb : Str → Option Value} {Xt : Heap → Prop} {f : Addr} {rm : Nat} {news : List (Addr × Obj)} {pre : Prop} {vs : List Value} {Ret : Value → List (Addr × Obj) → Prop}
    {dp un : Nat} {gd : Option (List Code)} {cn : Str} {cs : Scope} {a : Addr} {ccd : Value} {cl : List (Str × Addr)} {outer : List Env} {A₀ : Around} {base h₀ : Heap} {L : Addr} {m : Str → Option Value} {s : Shared} {Q E : Value → Shared → Prop}
    (C : Ctr prog w K p loose mean mg mb Xt f rm news pre vs Ret) (X0 : Xt base) (B : Below A₀ base outer h₀) (F : Fr h₀ L s.heap m) (X : K.In h₀) (N : News h₀ L s.heap news) (T : Top p loose mean mg mb h₀) (hk : cs.kind = .function)
    (hp : pre) (hd : dp + rm < recursionLimit) (hu : un + 8 * rm < cLine)
    (ret : ∀ v news' h' tk', Ret v news' → Fr h₀ L h' m → News h₀ L h' news' → Q v { s with heap := h', toks := tk' }) :
      codeAny (model prog w) (ktrTop dp un gd cn cs L a ccd cl outer) (.call (.ref f) ⟨vs, []⟩) (fun r s' => match r with | .ok (.ret v) => Q v s' | .ok _ => False | .error e => E e s') s := C _ _ _ _ _ _ _ _ _ _ _ _ _ _ _ _ _ X0 B F X N T hk hp hd hu ret
theorem it_swap {a b : Addr × Obj} {l rest : List (Addr × Obj)} : ∀ p ∈ l ++ a :: b :: rest, p ∈ a :: b :: (l ++ rest) := by
  intro p hp
  simp only [List.mem_append, List.mem_cons] at hp ⊢
  rcases hp with h | h | h | h <;> simp [h]
theorem it_drop {a b : Addr × Obj} {l rest : List (Addr × Obj)} : ∀ p ∈ l ++ rest, p ∈ l ++ a :: b :: rest := by
  intro p hp
  simp only [List.mem_append, List.mem_cons] at hp ⊢
  rcases hp with h | h <;> simp [h]
theorem it_tok {h₀ h : Heap} {L it : Addr} {v : Value} {e : Str} {t : Tok} {l : List (Addr × Obj)} (N : News h₀ L h ((it, ciO v (.str e t) false) :: l)) : ∃ ts, News h₀ L h ((it, ciO v (.str e ts) false) :: l) := ⟨t, N⟩
theorem fr_but {h₀ h h' : Heap} {L it : Addr} {m : Str → Option Value} {o : Obj} {news : List (Addr × Obj)} (F : Fr h₀ L h m) (N : News h₀ L h news) (hm : (it, o) ∈ news) (hk : ∀ b o, b ≠ it → h.get? b = some o → h'.get? b = some o) : Fr h₀ L h' m :=
  ⟨F.ns.at fun o e => hk _ o (fun z => (N _ hm).2.1 z.symm) e, fun b o e => hk b o (fun z => by have h1 := (N _ hm).2.2; dsimp only at h1; rw [← z, e] at h1; cases h1) (F.keep b o e), F.above⟩
theorem news_but {h₀ h h' : Heap} {L it : Addr} {o o' : Obj} {own rest : List (Addr × Obj)} (N : News h₀ L h (own ++ (it, o) :: rest)) (h1 : ∀ p ∈ own, p.1 ≠ it) (h2 : ∀ p ∈ rest, p.1 ≠ it) (ho : h'.get? it = some o') (hk : ∀ b o, b ≠ it → h.get? b = some o → h'.get? b = some o) : News h₀ L h' (own ++ (it, o') :: rest) := by
  intro p hp
  rcases List.mem_append.mp hp with hp | hp
  · have := N p (List.mem_append_left _ hp)
    exact ⟨hk _ _ (h1 p hp) this.1, this.2⟩
  · rcases List.mem_cons.mp hp with rfl | hp
    · exact ⟨ho, (N (it, o) (List.mem_append_right _ (.head _))).2⟩
    · have := N p (List.mem_append_right _ (.tail _ hp))
      exact ⟨hk _ _ (h2 p hp) this.1, this.2⟩
theorem lst_empty : lst (Str.ofString "") = [] := by rw [ofEmpty]
theorem gtok_nil : gtok [] = ([], []) := by simp [gtok]
structure Es where
  e : Str
  te : Tok
  pos : Int
  ln : Int
  tp : Tok
  tl : Tok
/-- the loop's state -/
structure Gs where
  live : Bool
  pos : Int
  ln : Int
  tok : Str
  tp : Tok
  tl : Tok
  tt : Tok
abbrev Gs.ls (g : Gs) (ea ep : Nat) : Ls := ⟨g.pos, g.ln, #[], g.tp, ea, g.tl, ep⟩
abbrev itO (q : Addr) (ts : Tok) (live : Bool) : Obj := if live then ciO (.ref q) (.str (Str.ofString "") ts) false else ciO .none .none true
def Gs.Inv (text : Str) (T R : List Nat) (Z : Int) (g : Gs) : Prop :=
  0 ≤ g.pos ∧ g.pos ≤ text.length ∧ 0 ≤ g.ln ∧ g.ln + (txR text g.pos).length ≤ 60000 ∧ g.tok.length + (txR text g.pos).length ≤ text.length ∧ g.ln + nls (txR text g.pos) = Z ∧
    (if g.live then g.tok = Str.ofString "" ∧ okTok (txR text g.pos) ∧ gtok (txR text g.pos) = (T, R) else lst g.tok = T ∧ txR text g.pos = R)
def Gs.Inv2 (text : Str) (T R : List Nat) (Z : Int) (g : Gs) : Prop :=
  0 ≤ g.pos ∧ g.pos ≤ text.length ∧ 0 ≤ g.ln ∧ g.ln + (txR text g.pos).length ≤ 60000 ∧ g.tok.length + (txR text g.pos).length ≤ text.length ∧ g.ln + nls (txR text g.pos) = Z ∧
    (if g.live then lst g.tok ++ (unq (txR text g.pos)).1 = T ∧ (unq (txR text g.pos)).2 = R else lst g.tok = T ∧ txR text g.pos = R)
def TokRet (C : Addr) (x : Lx) (text : Str) (pos ln : Int) (ea ep : Nat) (rest : List (Addr × Obj)) (v : Value) (nw : List (Addr × Obj)) : Prop :=
  ∃ (pos' ln' : Int) (tp tl tv : Tok), v = .str ⟨(gtok (txR text pos)).1.toArray⟩ tv ∧ 0 ≤ pos' ∧ pos' ≤ text.length ∧ txR text pos' = (gtok (txR text pos)).2 ∧ ln' + nls (gtok (txR text pos)).2 = ln + nls (txR text pos) ∧ 0 ≤ ln' ∧ nw = x.led C ⟨pos', ln', #[], tp, ea, tl, ep⟩ ++ rest
theorem led_lt {x : Lx} (h : x.Ord) {C : Addr} {y : Ls} {D : Addr} (hD : @LT.lt Nat _ x.pbL D) : ∀ z ∈ x.led C y, @LT.lt Nat _ z.1 D := by
  obtain ⟨a1, a2, a3, a4, a5, a6, a7, a8, a9, a10⟩ := h
  have b9 := Nat.lt_trans a10 hD
  have b8 := Nat.lt_trans a9 b9
  have b7 := Nat.lt_trans a8 b8
  have b6 := Nat.lt_trans a7 b7
  have b5 := Nat.lt_trans a5 b6
  have b3 := Nat.lt_trans a3 b5
  have b2 := Nat.lt_trans a2 b3
  have b1 := Nat.lt_trans a1 b2
  have c1 : @LT.lt Nat _ x.c1 D := a4.elim (fun h => Nat.lt_trans h b1) (fun h => Nat.lt_trans h.2 b5)
  have c2 : @LT.lt Nat _ x.c2 D := a6.elim (fun h => Nat.lt_trans h b1) (fun h => Nat.lt_trans h.2 b6)
  intro z hz
  simp only [Lx.led, Lx.core, Lx.more, List.cons_append, List.nil_append, List.mem_cons, List.not_mem_nil, or_false] at hz
  rcases hz with rfl | rfl | rfl | rfl | rfl | rfl | rfl | rfl | rfl | rfl | rfl <;> assumption
theorem get_token_ctr (w : World) (p : Program) (loose : List Str) (mean : ExcName → Option Value) (mg mb : Str → Option Value) (Xt : Heap → Prop) (x : Lx) (pos ln : Int) (tp : Tok) (ea : Nat) (tl : Tok) (ep : Nat) (text : Str) (rest : List (Addr × Obj)) :
   Ctr (PySem.Challenge.rw_pe0114_02).row.prog w (hd.heap_39 w.params) p loose mean mg mb Xt 59 4 (x.led 69 ⟨pos, ln, #[], tp, ea, tl, ep⟩ ++ rest)
     (x.Ord ∧ ReadOk (PySem.Challenge.rw_pe0114_02).row.prog w (hd.heap_39 w.params) p loose mean mg mb Xt x text ∧ text.length ≤ 1000 ∧ 0 ≤ pos ∧ pos ≤ text.length ∧ 0 ≤ ln ∧ ln ≤ 50000 ∧ (∀ q ∈ rest, q.1 ≠ x.atL) ∧ (∀ q ∈ rest, q.1 ≠ x.dx) ∧ okTok (txR text pos)) [.ref x.lx]
     (TokRet 69 x text pos ln ea ep rest) := by
  k_fill
  dsimp only [Ctr]
  intros
  rename_i hXt _ _ _ _ _ _ hpre _ _ hret
  obtain ⟨hOrd, hrd, htl, hp0, hp1, hl0, hl1, hra, hrb, hok⟩ := hpre
  obtain ⟨a1, a2, a3, a4, a5, a6, a7, a8, a9, a10⟩ := id hOrd
  rename News _ _ _ _ => hN0
  simp only [List.cons_append, List.nil_append] at hN0
  k_dflt cell_enter
  k_steps
  refine Held.put ?_
  rename_i q _ l1 it _ l2 _ F5 N5
  obtain ⟨ts, N5⟩ := it_tok N5
  have hrc : ∀ z ∈ rest, z.1 ≠ it := by
    obtain ⟨_, _, _, _, _, _, _, _, _, _, _, _, lr⟩ := l2
    exact fun z hz => Nat.ne_of_lt (kst_ltOf lr z hz)
  refine wpAny_For ?_
  k_dflt (refine ld F5 rfl ?_)
  refine iter_ci (N5 _ (.head _)).1 ?_
  refine' for_all (σ := Gs) (fun g => x.led 69 (g.ls ea ep) ++ (it, itO q ts g.live) :: (q, methodObj (.ref 52) (.ref x.lx)) :: rest)
    (fun g => [(Str.ofString "self", .ref x.lx), (Str.ofString "token", .str g.tok g.tt), (Str.ofString "fiter", .ref it)])
    (Gs.Inv text (gtok (txR text pos)).1 (gtok (txR text pos)).2 (ln + nls (txR text pos))) (fun g => if g.live then (txR text g.pos).length + 1 else 0)
    (fun g => g.live = false ∧ Gs.Inv text (gtok (txR text pos)).1 (gtok (txR text pos)).2 (ln + nls (txR text pos)) g) ⟨true, pos, ln, Str.ofString "", tp, tl, _⟩ F5 (fun p hp => N5 p (it_swap p hp)) ?hk ?hp ?turn ?next
  case hk => kst_all
  case hp =>
    refine ⟨hp0, hp1, hl0, ?_, ?_, rfl, ?_⟩
    · dsimp only; rw [tx_len hp0 hp1]; (first | lia | omega)
    · dsimp only; rw [← Int.ofNat_le]; push_cast; rw [tx_len hp0 hp1]; show ((Str.ofString "").length : Int) + _ ≤ _; rw [ofEmpty]; show (0 : Int) + _ ≤ _; (first | lia | omega)
    · exact ⟨rfl, hok, rfl⟩
  case next =>
    clear F5 N5
    intro g u h tk hg F' N'
    obtain ⟨live, pos', ln', tok, tp', tl', tt⟩ := g
    obtain ⟨hlv, hi0, hi1, hi2, hi3, hi4, hi5, hi6⟩ := hg
    dsimp only at hlv hi0 hi1 hi2 hi3 hi4 hi5 hi6
    subst hlv
    obtain ⟨hi6, hi7⟩ := hi6
    dsimp only [kstB] at F'
    simp only [List.cons_append, List.nil_append] at N'
    k_steps
    refine hret _ _ _ _ ⟨pos', ln', tp', tl', tt, ?_, hi0, hi1, hi7, ?_, hi2, rfl⟩ (by k_asm) ?_
    · rw [← hi6]
    · rw [← hi7]; exact hi5
    · rename News _ _ _ _ => nX
      exact fun p hp => nX p (it_drop (l := x.led 69 ⟨pos', ln', #[], tp', ea, tl', ep⟩) p hp)
  case turn =>
    clear F5 N5
    intro g u h tk hg F' N'
    obtain ⟨live, pos', ln', tok, tp', tl', tt⟩ := g
    obtain ⟨hi0, hi1, hi2, hi3, hi4, hi5, hi6⟩ := hg
    dsimp only at hi0 hi1 hi2 hi3 hi4 hi5 hi6
    have hq1 : ∀ o : Obj, ∀ z ∈ (it, o) :: (q, methodObj (.ref 52) (.ref x.lx)) :: rest, z.1 ≠ x.atL := by
      intro o z hz
      rcases List.mem_cons.mp hz with h | hz
      · rw [h]; refine neN ?_; dsimp only; (first | lia | omega)
      rcases List.mem_cons.mp hz with h | hz
      · rw [h]; refine neN ?_; dsimp only; (first | lia | omega)
      · exact hra z hz
    have hq2 : ∀ o : Obj, ∀ z ∈ (it, o) :: (q, methodObj (.ref 52) (.ref x.lx)) :: rest, z.1 ≠ x.dx := by
      intro o z hz
      rcases List.mem_cons.mp hz with h | hz
      · rw [h]; refine neN ?_; dsimp only; (first | lia | omega)
      rcases List.mem_cons.mp hz with h | hz
      · rw [h]; refine neN ?_; dsimp only; (first | lia | omega)
      · exact hrb z hz
    cases live with
    | false =>
      obtain ⟨hi6, hi7⟩ := hi6
      refine next_ci_end (N' (it, _) (List.mem_append_right _ (.head _))).1 rfl fun h' hk => ?_
      refine joinA_end ⟨false, pos', ln', tok, tp', tl', tt⟩ (F'.keeps hk) (fun p hp => ⟨hk _ _ (N' p hp).1, (N' p hp).2⟩) (fun _ h => h) (by kst_all) ⟨rfl, hi0, hi1, hi2, hi3, hi4, hi5, hi6, hi7⟩
    | true =>
      obtain ⟨hi6, hi7, hi8⟩ := hi6
      subst hi6
      refine next_ci (N' (it, _) (List.mem_append_right _ (.head _))).1 (N' (q, _) (List.mem_append_right _ (.tail _ (.head _)))).1 ⟨_, _, _, _, Frag.In.keeps (by k_asm) F'.keep _ _ (by k_dflt k_is)⟩ rfl ?_
      k_dflt (refine call_meth N' (List.mem_append_right _ (.tail _ (.head _))) ?_)
      k_dflt (refine' ctr_code (read_char_ctr w p loose mean mg mb Xt x ⟨pos', ln', #[], tp', ea, tl', ep⟩ text _) hXt ?k1 F' ?k3 N' ?k5 ?kK ?kp ?kd ?ku ?_; (case k1 => k_asm); (case k3 => k_asm); (case k5 => k_asm); (case kK => first | exact rfl | assumption); (case kd => ktr_room); (case ku => ktr_units))
      case kp => exact ⟨hOrd, hrd, htl, hi0, hi1, hi2, by dsimp only; (first | lia | omega), hq1 _, hq2 _⟩
      rintro v nw h2 tk2 ⟨tv, tp2, tl2, rfl, rfl⟩ F2 N2
      refine ⟨_, tv, rfl, (N2 (it, _) (List.mem_append_right _ (.head _))).1, (N2 (q, _) (List.mem_append_right _ (.tail _ (.head _)))).1, ⟨_, _, _, _, Frag.In.keeps (by k_asm) F2.keep _ _ (by k_dflt k_is)⟩, ?_, ?_⟩
      · intro hne tk3
        have hlt : pos' < text.length := by
          rcases Int.lt_or_eq_of_le hi1 with h | h
          · exact h
          · exact absurd (ch_end h).1 hne
        obtain ⟨c, hc, hr⟩ := ch_at hi0 hlt
        dsimp only at N2 ⊢
        rw [hc] at N2 ⊢
        clear N'
        rw [hr] at hi3 hi4 hi5 hi7 hi8
        simp only [List.cons_append, List.nil_append] at N2
        dsimp only [kstB] at F2
        clear F'
        have hl1 : (((⟨#[c]⟩ : Str).length : Nat) : Int) = 1 := rfl
        rw [hl1] at N2
        obtain ⟨r0, r1, r2, r3, r4⟩ := read_post hi0 hlt hr hi2
        rw [hr] at r3 r4
        generalize ln' + (if (⟨#[c]⟩ : Str) = Str.ofString "\n" then 1 else 0) = ln1 at N2 r2 r3 r4
        have hocc := ws_occ c
        cases hw : isWs c with
        | true =>
          rw [hw, Bool.not_true] at hocc
          k_steps
          refine joinA_end ⟨true, pos' + 1, ln1, Str.ofString "", tp2, tl2, tt⟩ (by k_asm) (by k_asm) (fun _ h => h) (by kst_all) ⟨⟨r0, r1, r2, Int.le_trans r3 hi3, Nat.le_trans (Nat.add_le_add_left (Nat.le_succ _) _) hi4, r4.trans hi5, rfl, okTok_ws hw hi7, (gtok_ws hw).symm.trans hi8⟩, ?_⟩
          show (txR text (pos' + 1)).length + 1 < (txR text pos').length + 1
          rw [hr, List.length_cons]; exact Nat.lt_succ_self _
        | false =>
          rw [hw, Bool.not_false] at hocc
          have hqt : ((⟨#[c]⟩ : Str) == Str.ofString "\"") = false := by
            rw [one_is_qt]; simpa using okTok_no hw hi7
          k_steps
          refine Held.put ?_
          (rename Fr _ _ _ _ => oF)
          refine' cut_all (σ := Es) oF (fun y => x.led 69 ⟨y.pos, y.ln, #[], y.tp, ea, y.tl, ep⟩ ++ (it, itO q ts true) :: (q, methodObj (.ref 52) (.ref x.lx)) :: rest)
            (fun y => [(Str.ofString "ch", .str y.e y.te), (Str.ofString "self", .ref x.lx), (Str.ofString "token", .str (Str.ofString "") tt), (Str.ofString "fiter", .ref it)])
            (fun y => EscOk text c (pos' + 1) ln1 y.e y.pos y.ln) ?_ ?_
          · have ho : HoldOff := ⟨⟩
            by_cases hc92 : c = 92
            · have hbs : ((⟨#[c]⟩ : Str) == Str.ofString "\\") = true := by rw [one_is_bs, hc92]; rfl
              k_steps
              refine Held.put ?_
              k_dflt (refine' ctr_use (read_char_ctr w p loose mean mg mb Xt x ⟨pos' + 1, ln1, #[], tp2, ea, tl2, ep⟩ text _) hXt ?k1 ?k2 ?k3 ?k4 ?k5 ?kK ?kp ?kd ?ku ?_; (case k1 => k_asm); (case k2 => k_asm); (case k3 => k_asm); (case k4 => k_asm); (case k5 => k_asm); (case kK => first | exact rfl | assumption); (case kd => ktr_room); (case ku => ktr_units))
              case kp => exact ⟨hOrd, hrd, htl, r0, r1, r2, by dsimp only; (first | lia | omega), hq1 _, hq2 _⟩
              rintro v nw h5 tk5 ⟨tv5, tp5, tl5, rfl, rfl⟩ F5 N5
              simp only [List.cons_append, List.nil_append] at N5
              k_steps
              exact joinA_end ⟨_, _, _, _, _, _⟩ (by k_asm) (by k_asm) (fun _ h => h) (by kst_all) (esc_some hc92 r0 r1 r2)
            · have hbs : ((⟨#[c]⟩ : Str) == Str.ofString "\\") = false := by rw [one_is_bs]; simpa using hc92
              k_steps
              exact joinA_end ⟨_, _, _, _, tp2, tl2⟩ (by k_asm) (by k_asm) (fun _ h => h) (by kst_all) (esc_none hc92 r0 r1 r2)
          (rename Fr _ _ _ _ => oF; clear oF); (rename News _ _ _ _ => oN; clear oN)
          intro y u6 h6 tk6 hy F6 N6
          obtain ⟨e, te, pos6, ln6, tp6, tl6⟩ := y
          obtain ⟨y1, y2, y3, y4, y5, y6, y7, y8⟩ := hy
          dsimp only at y1 y2 y3 y4 y5 y6 y7 y8
          dsimp only [kstB] at F6
          simp only [List.cons_append, List.nil_append] at N6
          k_steps
          refine Held.put ?_
          rename_i t9 _ _ _ F9 N9
          refine wpAny_For ?_
          k_dflt (refine ld F9 rfl ?_)
          refine iter_ci (N9.get (by k_mem)) ?_
          refine for_all (σ := Gs) (fun g => x.led 69 (g.ls ea ep) ++ (it, itO q ts g.live) :: (q, methodObj (.ref 52) (.ref x.lx)) :: rest)
            (fun g => [(Str.ofString "self", .ref x.lx), (Str.ofString "token", .str g.tok g.tt), (Str.ofString "fiter", .ref it)])
            (Gs.Inv2 text (gtok (txR text pos)).1 (gtok (txR text pos)).2 (ln + nls (txR text pos))) (fun g => if g.live then (txR text g.pos).length + 1 else 0)
            (fun g => g.live = false ∧ Gs.Inv2 text (gtok (txR text pos)).1 (gtok (txR text pos)).2 (ln + nls (txR text pos)) g) ⟨true, pos6, ln6, Str.ofString "" ++ e, tp6, tl6, t9⟩ F9 N9 ?hk ?hp ?turn ?next
          case hk => kst_all
          case hp =>
            rw [gtok_no hw, unq_esc hw] at hi8
            have he1 := congrArg Prod.fst hi8
            have he2 := congrArg Prod.snd hi8
            dsimp only at he1 he2
            refine ⟨y3, y4, y5, Int.le_trans y6 (Int.le_trans r3 hi3), ?_, y7.trans (r4.trans hi5), ?_, ?_⟩
            · show (Str.ofString "" ++ e).length + (txR text pos6).length ≤ text.length
              have := esc_len c (txR text (pos' + 1))
              rw [← y1, ← y2] at this
              rw [List.length_cons] at hi4
              rw [len_lst, lst_append, lst_empty, List.nil_append]
              exact Nat.le_trans this (Nat.le_trans (Nat.le_add_left _ _) hi4)
            · show lst (Str.ofString "" ++ e) ++ (unq (txR text pos6)).1 = _
              rw [lst_append, lst_empty, List.nil_append, y1, y2]; exact he1
            · show (unq (txR text pos6)).2 = _
              rw [y2]; exact he2
          case next =>
            clear F9 N9
            intro g u h tk hg F' N'
            obtain ⟨live, pos', ln', tok, tp', tl', tt⟩ := g
            obtain ⟨hlv, hi0, hi1, hi2, hi3, hi4, hi5, hi6⟩ := hg
            dsimp only at hlv hi0 hi1 hi2 hi3 hi4 hi5 hi6
            subst hlv
            obtain ⟨hi6, hi7⟩ := hi6
            dsimp only [kstB] at F'
            simp only [List.cons_append, List.nil_append] at N'
            k_steps
            refine joinA_end ⟨false, pos', ln', tok, tp', tl', tt⟩ (by k_asm) (by k_asm) (fun _ h => h) (by kst_all) ⟨⟨hi0, hi1, hi2, hi3, hi4, hi5, hi6, hi7⟩, ?_⟩
            exact Nat.succ_pos _
          case turn =>
            clear F9 N9
            intro g u h tk hg F' N'
            obtain ⟨live, pos', ln', tok, tp', tl', tt⟩ := g
            obtain ⟨hi0, hi1, hi2, hi3, hi4, hi5, hi6⟩ := hg
            dsimp only at hi0 hi1 hi2 hi3 hi4 hi5 hi6
            cases live with
            | false =>
              obtain ⟨hi6, hi7⟩ := hi6
              refine next_ci_end (N' (it, _) (List.mem_append_right _ (.head _))).1 rfl fun h' hk => ?_
              refine joinA_end ⟨false, pos', ln', tok, tp', tl', tt⟩ (F'.keeps hk) (fun p hp => ⟨hk _ _ (N' p hp).1, (N' p hp).2⟩) (fun _ h => h) (by kst_all) ⟨rfl, hi0, hi1, hi2, hi3, hi4, hi5, hi6, hi7⟩
            | true =>
              obtain ⟨hi6, hi7⟩ := hi6
              refine next_ci (N' (it, _) (List.mem_append_right _ (.head _))).1 (N' (q, _) (List.mem_append_right _ (.tail _ (.head _)))).1 ⟨_, _, _, _, Frag.In.keeps (by k_asm) F'.keep _ _ (by k_dflt k_is)⟩ rfl ?_
              k_dflt (refine call_meth N' (List.mem_append_right _ (.tail _ (.head _))) ?_)
              k_dflt (refine' ctr_code (read_char_ctr w p loose mean mg mb Xt x ⟨pos', ln', #[], tp', ea, tl', ep⟩ text _) hXt ?k1 F' ?k3 N' ?k5 ?kK ?kp ?kd ?ku ?_; (case k1 => k_asm); (case k3 => k_asm); (case k5 => k_asm); (case kK => first | exact rfl | assumption); (case kd => ktr_room); (case ku => ktr_units))
              case kp => exact ⟨hOrd, hrd, htl, hi0, hi1, hi2, by dsimp only; (first | lia | omega), hq1 _, hq2 _⟩
              rintro v nw h2 tk2 ⟨tv, tp2, tl2, rfl, rfl⟩ F2 N2
              refine ⟨_, tv, rfl, (N2 (it, _) (List.mem_append_right _ (.head _))).1, (N2 (q, _) (List.mem_append_right _ (.tail _ (.head _)))).1, ⟨_, _, _, _, Frag.In.keeps (by k_asm) F2.keep _ _ (by k_dflt k_is)⟩, ?_, ?_⟩
              · intro hne tk3
                have hlt : pos' < text.length := by
                  rcases Int.lt_or_eq_of_le hi1 with h | h
                  · exact h
                  · exact absurd (ch_end h).1 hne
                obtain ⟨c, hc, hr⟩ := ch_at hi0 hlt
                dsimp only at N2 ⊢
                rw [hc] at N2 ⊢
                clear N'
                rw [hr] at hi3 hi4 hi5 hi6 hi7
                simp only [List.cons_append, List.nil_append] at N2
                dsimp only [kstB] at F2
                clear F'
                have hl1 : (((⟨#[c]⟩ : Str).length : Nat) : Int) = 1 := rfl
                rw [hl1] at N2
                obtain ⟨r0, r1, r2, r3, r4⟩ := read_post hi0 hlt hr hi2
                rw [hr] at r3 r4
                generalize ln' + (if (⟨#[c]⟩ : Str) = Str.ofString "\n" then 1 else 0) = ln1 at N2 r2 r3 r4
                have hocc := ws_occ c
                rw [List.length_cons] at hi4
                cases hw : isWs c with
                | true =>
                  rw [hw, Bool.not_true] at hocc
                  rw [unq_ws hw] at hi6 hi7
                  k_steps
                  dsimp only [EndA]
                  k_steps
                  refine hret _ _ _ _ ⟨pos' + 1, ln1, tp2, tl2, tt, ?_, r0, r1, hi7, ?_, r2, rfl⟩ (by k_asm) ?_
                  · rw [← hi6, List.append_nil]
                  · rw [← hi7]; exact r4.trans hi5
                  · rename News _ _ _ _ => nX
                    exact fun p hp => nX p (it_drop (l := x.led 69 ⟨pos' + 1, ln1, #[], tp2, ea, tl2, ep⟩) p hp)
                | false =>
                  rw [hw, Bool.not_false] at hocc
                  rw [unq_esc hw] at hi6 hi7
                  k_steps
                  refine Held.put ?_
                  (rename Fr _ _ _ _ => oF)
                  refine' cut_all (σ := Es) oF (fun y => x.led 69 ⟨y.pos, y.ln, #[], y.tp, ea, y.tl, ep⟩ ++ (it, itO q ts true) :: (q, methodObj (.ref 52) (.ref x.lx)) :: rest)
                    (fun y => [(Str.ofString "ch", .str y.e y.te), (Str.ofString "self", .ref x.lx), (Str.ofString "token", .str tok tt), (Str.ofString "fiter", .ref it)])
                    (fun y => EscOk text c (pos' + 1) ln1 y.e y.pos y.ln) ?_ ?_
                  · have ho : HoldOff := ⟨⟩
                    by_cases hc92 : c = 92
                    · have hbs : ((⟨#[c]⟩ : Str) == Str.ofString "\\") = true := by rw [one_is_bs, hc92]; rfl
                      k_steps
                      refine Held.put ?_
                      k_dflt (refine' ctr_use (read_char_ctr w p loose mean mg mb Xt x ⟨pos' + 1, ln1, #[], tp2, ea, tl2, ep⟩ text _) hXt ?k1 ?k2 ?k3 ?k4 ?k5 ?kK ?kp ?kd ?ku ?_; (case k1 => k_asm); (case k2 => k_asm); (case k3 => k_asm); (case k4 => k_asm); (case k5 => k_asm); (case kK => first | exact rfl | assumption); (case kd => ktr_room); (case ku => ktr_units))
                      case kp => exact ⟨hOrd, hrd, htl, r0, r1, r2, by dsimp only; (first | lia | omega), hq1 _, hq2 _⟩
                      rintro v nw h5 tk5 ⟨tv5, tp5, tl5, rfl, rfl⟩ F5 N5
                      simp only [List.cons_append, List.nil_append] at N5
                      k_steps
                      exact joinA_end ⟨_, _, _, _, _, _⟩ (by k_asm) (by k_asm) (fun _ h => h) (by kst_all) (esc_some hc92 r0 r1 r2)
                    · have hbs : ((⟨#[c]⟩ : Str) == Str.ofString "\\") = false := by rw [one_is_bs]; simpa using hc92
                      k_steps
                      exact joinA_end ⟨_, _, _, _, tp2, tl2⟩ (by k_asm) (by k_asm) (fun _ h => h) (by kst_all) (esc_none hc92 r0 r1 r2)
                  (rename Fr _ _ _ _ => oF; clear oF); (rename News _ _ _ _ => oN; clear oN)
                  intro y u6 h6 tk6 hy F6 N6
                  obtain ⟨e, te, pos6, ln6, tp6, tl6⟩ := y
                  obtain ⟨y1, y2, y3, y4, y5, y6, y7, y8⟩ := hy
                  dsimp only at y1 y2 y3 y4 y5 y6 y7 y8
                  dsimp only [kstB] at F6
                  simp only [List.cons_append, List.nil_append] at N6
                  k_steps
                  refine joinA_end ⟨true, pos6, ln6, tok ++ e, tp6, tl6, _⟩ (by k_asm) (by k_asm) (fun _ h => h) (by kst_all) ⟨⟨y3, y4, y5, Int.le_trans y6 (Int.le_trans r3 hi3), ?_, y7.trans (r4.trans hi5), ?_, ?_⟩, ?_⟩
                  · show (tok ++ e).length + (txR text pos6).length ≤ text.length
                    have := esc_len c (txR text (pos' + 1))
                    rw [← y1, ← y2] at this
                    rw [len_lst, lst_append, List.length_append, ← len_lst tok, Nat.add_assoc]
                    exact Nat.le_trans (Nat.add_le_add_left this _) hi4
                  · show lst (tok ++ e) ++ (unq (txR text pos6)).1 = _
                    rw [lst_append, y1, y2, List.append_assoc]; exact hi6
                  · show (unq (txR text pos6)).2 = _
                    rw [y2]; exact hi7
                  · show (txR text pos6).length + 1 < (txR text pos').length + 1
                    rw [hr, y2, List.length_cons]; exact Nat.succ_lt_succ (Nat.lt_succ_of_le (esc_short _ _))
              · intro he h3 tk3 hk1 hk2
                have hlt : pos' = text.length := by
                  rcases Int.lt_or_eq_of_le hi1 with h | h
                  · obtain ⟨c, hc, _⟩ := ch_at hi0 h
                    rw [hc] at he; exact absurd he (one_ne_empty c)
                  · exact h
                have hz : (chAt text pos').length = 0 := by rw [(ch_end hlt).1, ofEmpty]; rfl
                have hz2 : ¬ (chAt text pos' = Str.ofString "\n") := by rw [(ch_end hlt).1]; decide +kernel
                have hz3 : txR text pos' = [] := (ch_end hlt).2
                have N3 := N2
                dsimp only at N3
                rw [hz, if_neg hz2, Int.add_zero] at N3
                have e0 : pos' + ((0 : Nat) : Int) = pos' := Int.add_zero _
                rw [e0] at N3
                have hd1 : ∀ z ∈ x.led 69 ⟨pos', ln', #[], tp2, ea, tl2, ep⟩, z.1 ≠ it := fun z hzm => Nat.ne_of_lt (led_lt hOrd (by (first | lia | omega)) z hzm)
                have hd2 : ∀ z ∈ (q, methodObj (.ref 52) (.ref x.lx)) :: rest, z.1 ≠ it := by
                  intro z hzm
                  rcases List.mem_cons.mp hzm with h | h
                  · rw [h]; refine neN ?_; dsimp only; (first | lia | omega)
                  · exact hrc z h
                refine joinA_end ⟨false, pos', ln', tok, tp2, tl2, tt⟩ (fr_but F2 N2 (List.mem_append_right _ (.head _)) hk2) (news_but (o' := ciO .none .none true) N3 hd1 hd2 hk1 hk2) (fun _ h => h) (by kst_all) ⟨rfl, hi0, hi1, hi2, hi3, hi4, hi5, ?_⟩
                rw [hz3, unq_nil] at hi6 hi7
                exact ⟨by rw [← hi6]; simp, by rw [← hi7]; exact hz3⟩
      · intro he h3 tk3 hk1 hk2
        have hlt : pos' = text.length := by
          rcases Int.lt_or_eq_of_le hi1 with h | h
          · obtain ⟨c, hc, _⟩ := ch_at hi0 h
            rw [hc] at he; exact absurd he (one_ne_empty c)
          · exact h
        have hz : (chAt text pos').length = 0 := by rw [(ch_end hlt).1, ofEmpty]; rfl
        have hz2 : ¬ (chAt text pos' = Str.ofString "\n") := by rw [(ch_end hlt).1]; decide +kernel
        have hz3 : txR text pos' = [] := (ch_end hlt).2
        have N3 := N2
        dsimp only at N3
        rw [hz, if_neg hz2, Int.add_zero] at N3
        have e0 : pos' + ((0 : Nat) : Int) = pos' := Int.add_zero _
        rw [e0] at N3
        have hd1 : ∀ z ∈ x.led 69 ⟨pos', ln', #[], tp2, ea, tl2, ep⟩, z.1 ≠ it := fun z hzm => Nat.ne_of_lt (led_lt hOrd (by (first | lia | omega)) z hzm)
        have hd2 : ∀ z ∈ (q, methodObj (.ref 52) (.ref x.lx)) :: rest, z.1 ≠ it := by
          intro z hzm
          rcases List.mem_cons.mp hzm with h | h
          · rw [h]; refine neN ?_; dsimp only; (first | lia | omega)
          · exact hrc z h
        refine joinA_end ⟨false, pos', ln', (Str.ofString ""), tp2, tl2, tt⟩ (fr_but F2 N2 (List.mem_append_right _ (.head _)) hk2) (news_but (o' := ciO .none .none true) N3 hd1 hd2 hk1 hk2) (fun _ h => h) (by kst_all) ⟨rfl, hi0, hi1, hi2, hi3, hi4, hi5, ?_⟩
        rw [hz3, gtok_nil] at hi8
        exact ⟨by rw [← congrArg Prod.fst hi8]; exact lst_empty, by rw [← congrArg Prod.snd hi8]; exact hz3⟩
end Mine
end
section
theorem Mine.forget_Qd2 : True := by
  w_top off
  trivial
open PySem PySem.W PyProof.Rows PySem.Calls PySem.Spec
set_option maxRecDepth 100000
set_option maxHeartbeats 8000000
namespace Mine
/-- what quotedata makes -/
def quot (l : List Nat) : List Nat := dots true (crlf l)
theorem news_keep {h₀ h h' : Heap} {L : Addr} {news : List (Addr × Obj)} (N : News h₀ L h news) (hk : ∀ b o, h.get? b = some o → h'.get? b = some o) : News h₀ L h' news := fun p hp => ⟨hk _ _ (N p hp).1, (N p hp).2⟩
theorem crlf_len : ∀ (n : Nat) (l : List Nat), l.length ≤ n → (crlf l).length ≤ 2 * l.length := by
  intro n
  induction n with
  | zero => intro l h; cases l with | nil => simp [crlf] | cons c r => simp at h
  | succ n ih =>
    intro l h
    match l with
    | [] => simp [crlf]
    | [c] => unfold crlf; split <;> simp
    | c :: d :: r =>
      unfold crlf
      simp only [List.length_cons] at h ⊢
      split
      · have := ih r (by omega); simp only [List.length_cons]; omega
      · split
        · have := ih (d :: r) (by simp only [List.length_cons]; omega); simp only [List.length_cons] at this ⊢; omega
        · have := ih (d :: r) (by simp only [List.length_cons]; omega); simp only [List.length_cons] at this ⊢; omega
section
variable {prog : Program} {w : World} {A : Around} {E : Value → Shared → Prop} {s : Shared} {h₀ : Heap} {L : Addr} {m : Str → Option Value} {news : List (Addr × Obj)}
theorem call_sub2 {P T : Addr} {pv fl : Value} {its : Array Value} {x : Str} {t tr : Tok} {Q : Value → Shared → Prop} (F : Fr h₀ L s.heap m) (N : News h₀ L s.heap news) (hp : h₀.get? P = some (patO pv fl T)) (hT : h₀.get? T = some (codO its)) (he : (its.map Builtin.Re.reRawOf).map (·.toNat) = c2) (hx : x.length ≤ 100000)
    (h : ∀ h' tv k', Fr h₀ L h' m → News h₀ L h' news → Q (.str ⟨(crlf (lst x)).toArray⟩ tv) { s with heap := h', toks := k' }) : wpAny (model prog w) A (call (.builtin "re.Pattern.sub") [.ref P, .str (Str.ofString "\r\n") tr, .str x t]) Q E s := by
  refine call_sub (c := c2) (G := fun a => crlf (x.cps.toList.drop a)) (F.keep _ _ hp) (F.keep _ _ hT) he (fun a ha => ?_) hx (by decide +kernel) (by decide +kernel) fun h' tv k' hk => ?_
  · rw [show lst (Str.ofString "\r\n") = [13, 10] from by decide +kernel]; exact finds2 ha
  · exact h h' tv k' (F.keeps hk) (news_keep N hk)
theorem call_sub1 {P T : Addr} {pv fl : Value} {its : Array Value} {x : Str} {t tr : Tok} {Q : Value → Shared → Prop} (F : Fr h₀ L s.heap m) (N : News h₀ L s.heap news) (hp : h₀.get? P = some (patO pv fl T)) (hT : h₀.get? T = some (codO its)) (he : (its.map Builtin.Re.reRawOf).map (·.toNat) = c1) (hx : x.length ≤ 100000)
    (h : ∀ h' tv k', Fr h₀ L h' m → News h₀ L h' news → Q (.str ⟨(dots true (lst x)).toArray⟩ tv) { s with heap := h', toks := k' }) : wpAny (model prog w) A (call (.builtin "re.Pattern.sub") [.ref P, .str (Str.ofString "..") tr, .str x t]) Q E s := by
  refine call_sub (c := c1) (G := fun a => dots (bol x.cps a) (x.cps.toList.drop a)) (F.keep _ _ hp) (F.keep _ _ hT) he (fun a ha => ?_) hx (by decide +kernel) (by decide +kernel) fun h' tv k' hk => ?_
  · rw [show lst (Str.ofString "..") = [46, 46] from by decide +kernel]; exact finds1 ha hx
  · exact h h' tv k' (F.keeps hk) (news_keep N hk)
end
local macro_rules | `(tactic| k_all) => `(tactic| assumption)
local macro_rules | `(tactic| k_room) => `(tactic| ktr_room)
local macro_rules | `(tactic| k_units) => `(tactic| ktr_units)
local macro_rules | `(tactic| walk_at "getMethod ref") => `(tactic| ((with_reducible show wpAny _ _ (getMethod _ (Str.ofString "sub") _) _ _ _); (rename Fr _ _ _ _ => fX); k_dflt (refine getMethod_re (Frag.In.keeps (by k_asm) fX.keep _ _ (by k_dflt k_is)) ?_)))
local macro_rules | `(tactic| walk_at "call builtin:re.Pattern.sub") => `(tactic| (refine Held.out ?_))
theorem quotedata_ctr (w : World) (p : Program) (loose : List Str) (mean : ExcName → Option Value) (mg mb : Str → Option Value) (Xt : Heap → Prop) (news : List (Addr × Obj)) (a : Str) (t1 : Tok) :
   Ctr (PySem.Challenge.rw_pe0114_02).row.prog w (hd.heap_39 w.params) p loose mean mg mb Xt 90 2 news (a.length ≤ 1000) [.str a t1] (fun v nw => (∃ t, v = .str ⟨(quot (lst a)).toArray⟩ t) ∧ nw = news) := by
  k_fill
  dsimp only [Ctr]
  intros
  rename_i hXt _ _ _ _ _ _ hpre _ _ hret
  k_dflt cell_enter
  k_steps
  refine Held.put ?_
  (rename Fr _ _ _ _ => fX); (rename News _ _ _ _ => nX); (rename Frag.In _ _ => xX)
  k_dflt (refine call_sub2 fX nX (xX _ _ (by k_dflt k_is)) (xX _ _ (by k_dflt k_is)) (by decide +kernel) (Nat.le_trans hpre (by decide)) ?_)
  intro h1 tv1 k1 F1 N1
  clear fX nX
  k_steps
  refine Held.put ?_
  k_dflt (refine call_sub1 F1 N1 (xX _ _ (by k_dflt k_is)) (xX _ _ (by k_dflt k_is)) (by decide +kernel) ?_ ?_)
  · rw [len_lst, lst_mk]
    have := crlf_len _ _ (Nat.le_refl (lst a).length)
    rw [← len_lst] at this
    omega
  intro h2 tv2 k2 F2 N2
  rw [lst_mk]
  clear F1 N1
  k_steps
  exact hret _ _ _ _ ⟨⟨_, rfl⟩, rfl⟩ (by k_asm) (by k_asm)
end Mine
end
section
theorem Mine.forget_Pb2 : True := by
  w_top off
  trivial
local macro_rules | `(tactic| walk_at "no such key 0") => `(tactic| fail)
open PySem PySem.W PyProof.Rows PySem.Calls PySem.Spec
set_option maxRecDepth 100000
set_option maxHeartbeats 2000000
namespace Mine
local macro_rules | `(tactic| k_all) => `(tactic| assumption)
local macro_rules | `(tactic| k_room) => `(tactic| ktr_room)
local macro_rules | `(tactic| k_units) => `(tactic| ktr_units)
local macro_rules | `(tactic| walk_at "call builtin:list.pop") => `(tactic| (refine Held.out ?_))
local macro_rules | `(tactic| walk_at "truthy ref") => `(tactic| (refine Held.out ?_))
theorem truthy_some {prog : Program} {w : World} {A : Around} {E : Value → Shared → Prop} {s : Shared} {l : Addr} {v : Value} {vs : List Value} {Q : Bool → Shared → Prop} (hl : s.heap.IsList l (v :: vs).toArray) (hfit : ((v :: vs).toArray.size : Int) < 2 ^ 63) (h : Q true { s with toks := s.toks + 1 + 1 }) :
    wpAny (model prog w) A (truthy (.ref l)) Q E s := wpAny_truthy_list hl hfit (by simpa using h)
theorem push_ctr (w : World) (p : Program) (loose : List Str) (mean : ExcName → Option Value) (mg mb : Str → Option Value) (Xt : Heap → Prop) (x : Lx) (pos ln : Int) (tp : Tok) (ea : Nat) (tl : Tok) (ep : Nat) (vs : List Value) (v : Str) (tv : Tok) (rest : List (Addr × Obj)) :
   Ctr (PySem.Challenge.rw_pe0114_02).row.prog w (hd.heap_39 w.params) p loose mean mg mb Xt 66 2 (x.led 69 ⟨pos, ln, vs.toArray, tp, ea, tl, ep⟩ ++ rest)
     (x.Ord ∧ vs.length ≤ 1000 ∧ ∀ q ∈ rest, q.1 ≠ x.pbL) [.ref x.lx, .str v tv]
     (fun r nw => r = Value.none ∧ nw = x.led 69 ⟨pos, ln, (vs ++ [Value.str v tv]).toArray, tp, ea, tl, ep + 1⟩ ++ rest) := by
  k_fill
  dsimp only [Ctr]
  intros
  rename_i hXt _ _ _ _ _ _ hpre _ _ hret
  obtain ⟨⟨a1, a2, a3, a4, a5, a6, a7, a8, a9, a10⟩, hvl, hr⟩ := hpre
  have hvs : vs.toArray.size ≤ 1000 := by rw [List.size_toArray]; exact hvl
  rename News _ _ _ _ => hN0
  simp only [List.cons_append, List.nil_append] at hN0
  k_dflt cell_enter
  k_steps
  rename News _ _ _ _ => nX
  simp only [List.push_toArray] at nX
  exact hret _ _ _ _ ⟨rfl, rfl⟩ (by k_asm) nX
theorem pop_ctr (w : World) (p : Program) (loose : List Str) (mean : ExcName → Option Value) (mg mb : Str → Option Value) (Xt : Heap → Prop) (x : Lx) (pos ln : Int) (tp : Tok) (ea : Nat) (tl : Tok) (ep : Nat) (v : Value) (vs : List Value) (rest : List (Addr × Obj)) :
   Ctr (PySem.Challenge.rw_pe0114_02).row.prog w (hd.heap_39 w.params) p loose mean mg mb Xt 59 2 (x.led 69 ⟨pos, ln, (v :: vs).toArray, tp, ea, tl, ep⟩ ++ rest)
     (x.Ord ∧ vs.length ≤ 1000 ∧ ∀ q ∈ rest, q.1 ≠ x.pbL) [.ref x.lx]
     (fun r nw => ∃ ep', r = v ∧ nw = x.led 69 ⟨pos, ln, vs.toArray, tp, ea, tl, ep'⟩ ++ rest) := by
  k_fill
  dsimp only [Ctr]
  intros
  rename_i hXt _ _ _ _ _ _ hpre _ _ hret
  obtain ⟨⟨a1, a2, a3, a4, a5, a6, a7, a8, a9, a10⟩, hvl, hr⟩ := hpre
  rename News _ _ _ _ => hN0
  simp only [List.cons_append, List.nil_append] at hN0
  k_dflt cell_enter
  k_steps
  refine Held.put ?_
  (rename News _ _ _ _ => nX)
  refine truthy_some (nX.isList (by k_mem)) (by simp; omega) ?_
  k_steps
  refine Held.put ?_
  have hz : (v :: vs).toArray.toList.length ≤ sizeLine := by rw [PySem.sizeLine_eq]; simp; omega
  have hk0 : seqIndex? 0 (v :: vs).toArray.size = some 0 := by simp [seqIndex?]
  k_dflt (refine' kl_popAt (p := []) (q := vs) (y := v) (k := 0) ?xF ?xN ?xf ?xk ?xe ?xU ?xz ?_; (case xF => k_asm); (case xN => k_asm); (case xU => k_upd); (case xf => rfl); (case xk => exact hk0); (case xe => rfl); (case xz => exact hz))
  intro h9 F9 N9
  simp only [List.nil_append] at N9
  k_steps
  exact hret _ _ _ _ ⟨ep + 1, rfl, rfl⟩ (by k_asm) (by k_asm)
end Mine
end
section
theorem Mine.forget_Sn2 : True := by
  w_top off
  trivial
open PySem PySem.W PyProof.Rows PySem.Calls PySem.Spec
set_option maxRecDepth 100000
set_option maxHeartbeats 2000000
namespace Mine
def quotN : Nat → List Nat → List Nat
  | 0, l => l
  | n + 1, l => quot (quotN n l)
theorem dots_len : ∀ (b : Bool) (l : List Nat), (dots b l).length ≤ 2 * l.length
  | _, [] => by simp [dots]
  | b, c :: r => by
    have := dots_len (c == 10) r
    rw [dots, List.length_append, List.length_cons]
    split <;> simp only [List.length_cons, List.length_nil] <;> (first | lia | omega)
theorem quot_len (l : List Nat) : (quot l).length ≤ 4 * l.length := by
  unfold quot
  have h1 := dots_len true (crlf l)
  have h2 := crlf_len _ l (Nat.le_refl _)
  (first | lia | omega)
theorem quotN_len : ∀ (n : Nat) (l : List Nat), (quotN n l).length ≤ 4 ^ n * l.length
  | 0, l => by simp [quotN]
  | n + 1, l => by
    have h1 := quot_len (quotN n l)
    have h2 := quotN_len n l
    rw [quotN, Nat.pow_succ]
    have : 4 ^ n * 4 * l.length = 4 * (4 ^ n * l.length) := by rw [Nat.mul_comm (4 ^ n) 4, Nat.mul_assoc]
    (first | lia | omega)
local macro_rules | `(tactic| k_all) => `(tactic| assumption)
local macro_rules | `(tactic| k_room) => `(tactic| ktr_room)
local macro_rules | `(tactic| k_units) => `(tactic| ktr_units)
local macro_rules | `(tactic| walk_at "pyIter ref") => `(tactic| (refine Held.out ?_))
local macro_rules | `(tactic| walk_at "call ref") => `(tactic| (refine Held.out ?_))
theorem sent_ctr (w : World) (p : Program) (loose : List Str) (mean : ExcName → Option Value) (mg mb : Str → Option Value) (Xt : Heap → Prop) (news : List (Addr × Obj)) (a : Str) (t1 : Tok) (n : Nat) (t2 : Tok) :
   Ctr (PySem.Challenge.rw_pe0114_02).row.prog w (hd.heap_39 w.params) p loose mean mg mb Xt 118 3 news (a.length ≤ 60 ∧ n ≤ 3) [.str a t1, .int (n : Int) t2] (fun v nw => (∃ t, v = .str ⟨(quotN n (lst a)).toArray⟩ t) ∧ nw = news) := by
  k_fill
  dsimp only [Ctr]
  intros
  rename_i hXt _ _ _ _ _ _ hpre _ _ hret
  obtain ⟨hal, hn⟩ := hpre
  k_dflt cell_enter
  k_steps
  refine Held.put ?_
  refine range_all (σ := Str × Tok) (n := n) (fun _ => news) (fun c => [(Str.ofString "text", .str c.1 c.2)]) (fun i c => c.1 = ⟨(quotN i (lst a)).toArray⟩) (a, _) rfl (by assumption) (small_one (by (first | lia | omega)) (by (first | lia | omega)) (by (first | lia | omega)) (by (first | lia | omega))) ?hn (by k_asm) (by k_asm) (by kst_all) ?hp ?turn ?done
  case hn => exact rangeSize_nat _ _
  case hp => exact str_ext (by rw [lst_mk]; rfl)
  case turn =>
    (rename Fr _ _ _ _ => oF; clear oF); (rename Fr _ _ _ _ => oF; clear oF); (rename News _ _ _ _ => oN; clear oN); (rename News _ _ _ _ => oN; clear oN)
    intro c i tj u h tk own hi hoff hP F' N'
    obtain ⟨x, tx⟩ := c
    dsimp only [kstB] at F' hP N' hoff
    have hxl : x.length ≤ 1000 := by
      rw [hP, len_lst, lst_mk]
      have h1 := quotN_len i (lst a)
      rw [← len_lst] at h1
      have h2 : 4 ^ i ≤ 16 := by
        have : i = 0 ∨ i = 1 ∨ i = 2 := by (first | lia | omega)
        rcases this with h | h | h <;> subst h <;> decide
      have h3 : 4 ^ i * a.length ≤ 16 * 60 := Nat.mul_le_mul h2 hal
      (first | lia | omega)
    k_steps
    refine Held.put ?_
    k_dflt (refine' ctr_use (quotedata_ctr w p loose mean mg mb Xt _ _ _) hXt ?k1 ?k2 ?k3 ?k4 ?k5 ?kK ?kp ?kd ?ku ?_; (case k1 => k_asm); (case k2 => k_asm); (case k3 => k_asm); (case k4 => k_asm); (case k5 => k_asm); (case kK => first | exact rfl | assumption); (case kd => ktr_room); (case ku => ktr_units))
    case kp => exact hxl
    intro v5 nw5 h5 tk5 hr5 F5 N5
    obtain ⟨⟨t5, rfl⟩, rfl⟩ := hr5
    k_steps
    dsimp only [EndR]
    exact joinA_end (_, t5) (by k_asm) (by k_asm) (fun _ h => h) (by kst_all) ⟨rfl, by dsimp only; rw [hP, lst_mk]; rfl⟩
  case done =>
    (rename Fr _ _ _ _ => oF; clear oF); (rename Fr _ _ _ _ => oF; clear oF); (rename News _ _ _ _ => oN; clear oN); (rename News _ _ _ _ => oN; clear oN)
    intro c u h tk hP F' N'
    obtain ⟨x, tx⟩ := c
    dsimp only [kstB] at F' hP N'
    k_steps
    exact hret _ _ _ _ ⟨⟨tx, by rw [hP]⟩, rfl⟩ (by k_asm) (by k_asm)
end Mine
end
section
theorem Mine.forget_Hf2 : True := by
  w_top off
  trivial
open PySem PySem.W PyProof.Rows PySem.Calls PySem.Spec
set_option maxRecDepth 100000
set_option maxHeartbeats 2000000
namespace Mine
theorem lst_mul1 {x : Str} {c : Nat} (e : x = ⟨#[c]⟩) (n : Int) : lst (Txt.mul x n) = List.replicate n.toNat c := by subst e; exact mul_one_list c n
local macro_rules | `(tactic| walk_at "call ref") => `(tactic| (refine Held.out ?_))
local macro_rules | `(tactic| k_room) => `(tactic| ktr_room)
local macro_rules | `(tactic| k_units) => `(tactic| ktr_units)
local macro_rules | `(tactic| walk_at "binaryOp FloorDiv int int") => `(tactic| (refine Held.out ?_))
local macro_rules | `(tactic| walk_at "binaryOp Mod int int") => `(tactic| (refine Held.out ?_))
theorem fdivN {prog : Program} {w : World} {A : Around} {E : Value → Shared → Prop} {s : Shared} {a b V : Int} {t u : Tok} {Q : Value → Shared → Prop} (hb : 0 < b) (hb2 : b ≤ 1000) (hV : a / b = V) (h : ∀ t', Q (.int V t') { s with toks := s.toks + 1 }) :
    wpAny (model prog w) A (binaryOp .FloorDiv (.int a t) (.int b u)) Q E s := by
  subst hV
  refine floordiv_int (by omega) ?_ (Or.inl (PyProof.noPylong_small (by omega)))
  rw [Int.fdiv_eq_ediv_of_nonneg _ (by omega)]; exact h _
theorem modN {prog : Program} {w : World} {A : Around} {E : Value → Shared → Prop} {s : Shared} {a b V : Int} {t u : Tok} {Q : Value → Shared → Prop} (hb : 0 < b) (hV : a % b = V) (h : ∀ t', Q (.int V t') { s with toks := s.toks + 1 }) (hb2 : b ≤ 1000) :
    wpAny (model prog w) A (binaryOp .Mod (.int a t) (.int b u)) Q E s := by
  subst hV
  refine mod_int' (by omega) ?_ 
  rw [Int.fmod_eq_emod_of_nonneg _ (by omega)]; exact h _
local macro_rules | `(tactic| walk_at "call builtin:list.append") => `(tactic| ((fail_if_success (rename HoldOff => hx)); refine Held.out ?_))
theorem half_ctr (w : World) (p : Program) (loose : List Str) (mean : ExcName → Option Value) (mg mb : Str → Option Value) (Xt : Heap → Prop) (news : List (Addr × Obj)) (a b : Nat) (t1 t2 : Tok) :
   Ctr (PySem.Challenge.rw_pe0114_02).row.prog w (hd.heap_39 w.params) p loose mean mg mb Xt 125 3 news (a ≤ 20 ∧ b ≤ 20) [.str (dotS a) t1, .str (dotS b) t2] (fun v nw => (∃ t, v = .str (dotS ((a : Int) - b).natAbs) t) ∧ nw = news) := by
  k_fill
  dsimp only [Ctr]
  intros
  rename_i hXt _ _ _ _ _ _ hpre _ _ hret
  obtain ⟨ha, hb⟩ := hpre
  k_dflt cell_enter
  k_steps
  refine Held.put ?_
  k_dflt (refine' ctr_use (levd_ctr w p loose mean mg mb Xt _ _ _ _ _ _) hXt ?k1 ?k2 ?k3 ?k4 ?k5 ?kK ?kp ?kd ?ku ?_; (case k1 => k_asm); (case k2 => k_asm); (case k3 => k_asm); (case k4 => k_asm); (case k5 => k_asm); (case kK => first | exact rfl | assumption); (case kd => ktr_room); (case ku => ktr_units))
  case kp => exact ⟨ha, hb⟩
  intro v5 nw5 h5 tk5 hr5 F5 N5
  obtain ⟨⟨t5, rfl⟩, rfl⟩ := hr5
  obtain ⟨d, hd⟩ := ex_eq2 (((a : Int) - b).natAbs : Int)
  rw [hd]
  have hd0 : 0 ≤ d := by omega
  have hd1 : d ≤ 20 := by omega
  k_steps
  refine Held.put ?_
  refine fdivN (V := d) (by decide) (by decide) (by omega) ?_
  intro t7
  k_steps
  refine Held.put ?_
  refine modN (V := 0) (by decide) (by omega) ?_ (by decide)
  intro t8
  k_steps
  refine hret _ _ _ _ ⟨ret_str ?_, rfl⟩ (by k_asm) (by k_asm)
  refine str_ext ?_
  rw [lst_append, lst_mul1 (c := 46) (by decide +kernel), lst_mul1 (c := 33) (by decide +kernel), lst_dotS]
  have e1 : d.toNat = ((a : Int) - b).natAbs := by omega
  rw [e1]
  simp
end Mine
end
section
theorem Mine.forget_Tu : True := by
  w_top off
  trivial
open PySem PySem.W PyProof.Rows PySem.Calls PySem.Spec
set_option maxRecDepth 100000
namespace Mine
/-- half the distance of the words at i and at i + 1 -/
def halfAt (ms : List Nat) (i : Nat) : Nat := (((ms[i]?).getD 0 : Nat) - ((ms[(i + 1) % ms.length]?).getD 0 : Nat) : Int).natAbs
def turnL (ms : List Nat) : List Nat := (List.range ms.length).map (halfAt ms)
theorem get_le {ms : List Nat} {b : Nat} (h : ∀ m ∈ ms, m ≤ b) (i : Nat) : (ms[i]?).getD 0 ≤ b := by
  cases e : ms[i]? with
  | none => exact Nat.zero_le _
  | some m => exact h m (List.mem_of_getElem? e)
def turnN : Nat → List Nat → List Nat
  | 0, ms => ms
  | k + 1, ms => turnL (turnN k ms)
theorem turnL_len (ms : List Nat) : (turnL ms).length = ms.length := by simp [turnL]
theorem turnN_len (k : Nat) (ms : List Nat) : (turnN k ms).length = ms.length := by
  induction k with
  | zero => rfl
  | succ k ih => rw [turnN, turnL_len, ih]
theorem turnN_le {ms : List Nat} {b : Nat} (h : ∀ m ∈ ms, m ≤ b) (k : Nat) : ∀ m ∈ turnN k ms, m ≤ b := by
  induction k with
  | zero => exact h
  | succ k ih =>
    intro m hm
    rw [turnN, turnL] at hm
    obtain ⟨i, _, rfl⟩ := List.mem_map.mp hm
    unfold halfAt
    have h1 := get_le ih i
    have h2 := get_le ih ((i + 1) % (turnN k ms).length)
    (first | lia | omega)
theorem turnN_add (j k : Nat) (ms : List Nat) : turnN j (turnN k ms) = turnN (j + k) ms := by
  induction j with
  | zero => rw [Nat.zero_add]; rfl
  | succ j ih => rw [Nat.succ_add, turnN, turnN, ih]
/-- a turn of doubled words -/
theorem turnL_dbl (ms : List Nat) : turnL (ms.map (2 * ·)) = (turnL ms).map (2 * ·) := by
  unfold turnL
  rw [List.length_map, List.map_map]
  apply List.map_congr_left
  intro i _
  have g : ∀ j, ((ms.map (2 * ·))[j]?).getD 0 = 2 * (ms[j]?).getD 0 := fun j => by
    rw [List.getElem?_map]; cases ms[j]? <;> rfl
  show halfAt _ i = 2 * halfAt ms i
  unfold halfAt
  rw [List.length_map, g, g]
  (first | lia | omega)
theorem turnN_dbl (k : Nat) (ms : List Nat) : turnN k (ms.map (2 * ·)) = (turnN k ms).map (2 * ·) := by
  induction k with
  | zero => rfl
  | succ k ih => rw [turnN, ih, turnL_dbl]; rfl
theorem turn4 (a b c d : Nat) : turnL [a, b, c, d] = [((a : Int) - b).natAbs, ((b : Int) - c).natAbs, ((c : Int) - d).natAbs, ((d : Int) - a).natAbs] := by
  simp [turnL, halfAt, List.range, List.range.loop]
theorem turn3 (a b c : Nat) : turnL [a, b, c] = [((a : Int) - b).natAbs, ((b : Int) - c).natAbs, ((c : Int) - a).natAbs] := by
  simp [turnL, halfAt, List.range, List.range.loop]
theorem par (x y : Nat) : ((x : Int) - y).natAbs % 2 = (x + y) % 2 := by (first | lia | omega)
theorem par2 {x y z u v w : Nat} (h : z % 2 = (x + y) % 2) (hx : x % 2 = (u + v) % 2) (hy : y % 2 = (v + w) % 2) : z % 2 = (u + w) % 2 := by (first | lia | omega)
theorem par0 {x y z s : Nat} (h : z % 2 = (x + y) % 2) (hx : x % 2 = s) (hy : y % 2 = s) : z % 2 = 0 := by (first | lia | omega)
theorem par3 {x y z a b c d : Nat} (h : z % 2 = (x + y) % 2) (hx : x % 2 = (a + c) % 2) (hy : y % 2 = (b + d) % 2) : z % 2 = (a + b + c + d) % 2 := by (first | lia | omega)
theorem par3' {x y z a b c d : Nat} (h : z % 2 = (x + y) % 2) (hx : x % 2 = (b + d) % 2) (hy : y % 2 = (c + a) % 2) : z % 2 = (a + b + c + d) % 2 := by (first | lia | omega)
/-- four turns make four words even -/
theorem even4 (a b c d : Nat) : ∃ ys : List Nat, turnN 4 [a, b, c, d] = ys.map (2 * ·) ∧ ys.length = 4 := by
  have key : ∀ x ∈ turnN 4 [a, b, c, d], x % 2 = 0 := by
    rw [turnN, turnN, turnN, turnN, turnN, turn4]
    have p1 := par a b; have p2 := par b c; have p3 := par c d; have p4 := par d a
    generalize ((a : Int) - b).natAbs = a1 at *; generalize ((b : Int) - c).natAbs = b1 at *; generalize ((c : Int) - d).natAbs = c1 at *; generalize ((d : Int) - a).natAbs = d1 at *
    rw [turn4]
    have q1 := par2 (par a1 b1) p1 p2; have q2 := par2 (par b1 c1) p2 p3; have q3 := par2 (par c1 d1) p3 p4; have q4 := par2 (par d1 a1) p4 p1
    generalize ((a1 : Int) - b1).natAbs = a2 at *; generalize ((b1 : Int) - c1).natAbs = b2 at *; generalize ((c1 : Int) - d1).natAbs = c2 at *; generalize ((d1 : Int) - a1).natAbs = d2 at *
    rw [turn4]
    have r1 := par3 (a := a) (b := b) (c := c) (d := d) (par a2 b2) q1 q2; have r2 := par3' (a := a) (b := b) (c := c) (d := d) (par b2 c2) q2 q3
    have r3 := par3 (a := a) (b := b) (c := c) (d := d) (par c2 d2) (q3.trans (by rw [Nat.add_comm])) (q4.trans (by rw [Nat.add_comm]))
    have r4 := par3' (a := a) (b := b) (c := c) (d := d) (par d2 a2) (q4.trans (by rw [Nat.add_comm])) (q1.trans (by rw [Nat.add_comm]))
    generalize ((a2 : Int) - b2).natAbs = a3 at *; generalize ((b2 : Int) - c2).natAbs = b3 at *; generalize ((c2 : Int) - d2).natAbs = c3 at *; generalize ((d2 : Int) - a2).natAbs = d3 at *
    rw [turn4]
    have s1 := par0 (par a3 b3) r1 r2; have s2 := par0 (par b3 c3) r2 r3; have s3 := par0 (par c3 d3) r3 r4; have s4 := par0 (par d3 a3) r4 r1
    intro x hx
    simp only [List.mem_cons, List.not_mem_nil, or_false] at hx
    rcases hx with rfl | rfl | rfl | rfl <;> assumption
  refine ⟨(turnN 4 [a, b, c, d]).map (· / 2), ?_, by rw [List.length_map, turnN_len]; rfl⟩
  rw [List.map_map]
  have e : ∀ l : List Nat, (∀ x ∈ l, x % 2 = 0) → l = l.map ((2 * ·) ∘ (· / 2)) := by
    intro l h
    induction l with
    | nil => rfl
    | cons x l ih =>
      rw [List.map_cons, ← ih fun y hy => h y (.tail _ hy)]
      have := h x (.head _)
      show x :: l = (2 * (x / 2)) :: l
      congr 1; (first | lia | omega)
  exact e _ key
theorem even4L {ms : List Nat} (h : ms.length = 4) : ∃ ys : List Nat, turnN 4 ms = ys.map (2 * ·) ∧ ys.length = 4 := by
  match ms, h with
  | [a, b, c, d], _ => exact even4 a b c d
theorem first7 {ms : List Nat} (h : ms.length = 4) (hb : ∀ m ∈ ms, 1 ≤ m ∧ m ≤ 8) : ∀ m ∈ turnN 1 ms, m ≤ 7 := by
  match ms, h with
  | [a, b, c, d], _ =>
    intro m hm
    have ha := hb a (by simp); have hb' := hb b (by simp); have hc := hb c (by simp); have hd := hb d (by simp)
    rw [turnN, turnN, turn4] at hm
    simp only [List.mem_cons, List.not_mem_nil, or_false] at hm
    rcases hm with rfl | rfl | rfl | rfl <;> (first | lia | omega)
theorem dead {w : List Nat} (h : w.length = 4) (z : ∀ u ∈ w, u = 0) : w.map (8 * ·) = [0, 0, 0, 0] := by
  match w, h with
  | [a, b, c, d], _ => rw [z a (by simp), z b (by simp), z c (by simp), z d (by simp)]; rfl
/-- the words of four die out -/
theorem ducci {ms : List Nat} (h : ms.length = 4) (hb : ∀ m ∈ ms, 1 ≤ m ∧ m ≤ 8) : (∀ x ∈ turnN 4 ms, x % 2 = 0) ∧ (∀ x ∈ turnN 4 (turnN 4 ms), x % 4 = 0) ∧ turnN 4 (turnN 4 (turnN 4 ms)) = [0, 0, 0, 0] := by
  obtain ⟨y, e1, l1⟩ := even4L h
  obtain ⟨z, e2, l2⟩ := even4L l1
  obtain ⟨w, e3, l3⟩ := even4L l2
  have f2 : turnN 4 (turnN 4 ms) = z.map (4 * ·) := by
    rw [e1, turnN_dbl, e2, List.map_map]
    apply List.map_congr_left; intro x _; show 2 * (2 * x) = 4 * x; (first | lia | omega)
  have f3 : turnN 4 (turnN 4 (turnN 4 ms)) = w.map (8 * ·) := by
    rw [e1, turnN_dbl, turnN_dbl, e2, turnN_dbl, e3, List.map_map, List.map_map]
    apply List.map_congr_left; intro x _; show 2 * (2 * (2 * x)) = 8 * x; (first | lia | omega)
  refine ⟨?_, ?_, ?_⟩
  · intro x hx; rw [e1] at hx; obtain ⟨u, _, rfl⟩ := List.mem_map.mp hx; (first | lia | omega)
  · intro x hx; rw [f2] at hx; obtain ⟨u, _, rfl⟩ := List.mem_map.mp hx; (first | lia | omega)
  · have b7 := first7 h hb
    have b8 : ∀ m ∈ turnN 4 (turnN 4 (turnN 4 ms)), m ≤ 7 := by
      rw [turnN_add, turnN_add, show 4 + (4 + 4) = 11 + 1 from rfl, ← turnN_add]
      exact turnN_le b7 11
    rw [f3] at b8 ⊢
    have z : ∀ u ∈ w, u = 0 := fun u hu => by have := b8 _ (List.mem_map_of_mem hu); (first | lia | omega)
    exact dead l3 z
end Mine
end
section
theorem Mine.forget_Tn2 : True := by
  w_top off
  trivial
open PySem PySem.W PyProof.Rows PySem.Calls PySem.Spec
set_option maxRecDepth 100000
set_option maxHeartbeats 4000000
namespace Mine
theorem strs_snoc {y : Str} {t : Tok} : ∀ {vs : List Value} {ys : List Str}, StrsAre vs ys → StrsAre (vs ++ [.str y t]) (ys ++ [y])
  | _, _, .nil => .cons y t .nil
  | _, _, .cons z u r => .cons z u (strs_snoc r)
theorem strs_len : ∀ {vs : List Value} {ys : List Str}, StrsAre vs ys → vs.length = ys.length
  | _, _, .nil => rfl
  | _, _, .cons _ _ r => by rw [List.length_cons, List.length_cons, strs_len r]
theorem turn_pop {m0 : Nat} {mr : List Nat} {i : Nat} (hi : i < mr.length) : ((((m0 :: mr).drop (i + 1)) ++ (List.range i).map (halfAt (m0 :: mr))).map dotS) = dotS (((m0 :: mr)[i + 1]?).getD 0) :: ((((m0 :: mr).drop (i + 2)) ++ (List.range i).map (halfAt (m0 :: mr))).map dotS) := by
  have h : i + 1 < (m0 :: mr).length := by simpa using hi
  rw [List.drop_eq_getElem_cons h, List.getElem?_eq_getElem h]
  rfl
theorem turn_next {m0 : Nat} {mr : List Nat} {i : Nat} (hi : i < mr.length) : ((((m0 :: mr).drop (i + 1 + 1)) ++ (List.range (i + 1)).map (halfAt (m0 :: mr))).map dotS) = ((((m0 :: mr).drop (i + 2)) ++ (List.range i).map (halfAt (m0 :: mr))).map dotS) ++ [dotS ((((m0 :: mr)[i]?).getD 0 : Nat) - (((m0 :: mr)[i + 1]?).getD 0 : Nat) : Int).natAbs] := by
  have e : halfAt (m0 :: mr) i = ((((m0 :: mr)[i]?).getD 0 : Nat) - (((m0 :: mr)[i + 1]?).getD 0 : Nat) : Int).natAbs := by
    unfold halfAt
    rw [Nat.mod_eq_of_lt (by simpa using hi)]
  rw [List.range_succ, ← e]
  simp [List.append_assoc]
theorem turn_last {m0 : Nat} {mr : List Nat} : (turnL (m0 :: mr)).map dotS = ((((m0 :: mr).drop (mr.length + 1)) ++ (List.range mr.length).map (halfAt (m0 :: mr))).map dotS) ++ [dotS ((((m0 :: mr)[mr.length]?).getD 0 : Nat) - (m0 : Nat) : Int).natAbs] := by
  have e : halfAt (m0 :: mr) mr.length = ((((m0 :: mr)[mr.length]?).getD 0 : Nat) - (m0 : Nat) : Int).natAbs := by
    unfold halfAt
    rw [show (m0 :: mr).length = mr.length + 1 from rfl, Nat.mod_self]
    rfl
  unfold turnL
  rw [show (m0 :: mr).length = mr.length + 1 from rfl, List.range_succ, ← e]
  simp
local macro_rules | `(tactic| k_all) => `(tactic| assumption)
local macro_rules | `(tactic| k_room) => `(tactic| ktr_room)
local macro_rules | `(tactic| k_units) => `(tactic| ktr_units)
local macro_rules | `(tactic| walk_at "pyIter ref") => `(tactic| (refine Held.out ?_))
local macro_rules | `(tactic| walk_at "call ref") => `(tactic| (refine Held.out ?_))
theorem turn_ctr (w : World) (p : Program) (loose : List Str) (mean : ExcName → Option Value) (mg mb : Str → Option Value) (Xt : Heap → Prop) (x : Lx) (pos ln : Int) (tp : Tok) (ea : Nat) (tl : Tok) (ep : Nat) (vs : List Value) (ms : List Nat) (n : Nat) (tn : Tok) (rest : List (Addr × Obj)) :
   Ctr (PySem.Challenge.rw_pe0114_02).row.prog w (hd.heap_39 w.params) p loose mean mg mb Xt 132 5 (x.led 69 ⟨pos, ln, vs.toArray, tp, ea, tl, ep⟩ ++ rest)
     (x.Ord ∧ StrsAre vs (ms.map dotS) ∧ ms.length = n ∧ 1 ≤ n ∧ n ≤ 10 ∧ (∀ m ∈ ms, m ≤ 20) ∧ ∀ q ∈ rest, q.1 ≠ x.pbL) [.ref x.lx, .int (n : Int) tn]
     (fun r nw => r = Value.none ∧ ∃ vs' ep', StrsAre vs' ((turnL ms).map dotS) ∧ nw = x.led 69 ⟨pos, ln, vs'.toArray, tp, ea, tl, ep'⟩ ++ rest) := by
  k_fill
  dsimp only [Ctr]
  intros
  rename_i hXt _ _ _ _ _ _ hpre _ _ hret
  obtain ⟨hOrd, hV, hml, hn1, hn2, hms, hr⟩ := hpre
  obtain ⟨a1, a2, a3, a4, a5, a6, a7, a8, a9, a10⟩ := id hOrd
  obtain ⟨m0, mr, rfl⟩ : ∃ m0 mr, ms = m0 :: mr := by
    cases ms with
    | nil => simp at hml; (first | lia | omega)
    | cons a b => exact ⟨a, b, rfl⟩
  obtain ⟨t0, vr, rfl, hVr⟩ : ∃ t0 vr, vs = Value.str (dotS m0) t0 :: vr ∧ StrsAre vr (mr.map dotS) := by
    cases hV with
    | cons y t h => exact ⟨t, _, rfl, h⟩
  rename News _ _ _ _ => hN0
  simp only [List.cons_append, List.nil_append] at hN0
  k_dflt cell_enter
  k_steps
  refine Held.put ?_
  (rename News _ _ _ _ => nX)
  have hvl : vr.length ≤ 1000 := by rw [strs_len hVr, List.length_map]; simp at hml; (first | lia | omega)
  k_dflt (refine' ctr_use (pop_ctr w p loose mean mg mb Xt x pos ln tp ea tl ep _ vr rest) hXt ?k1 ?k2 ?k3 nX ?k5 ?kK ?kp ?kd ?ku ?_; (case k1 => k_asm); (case k2 => k_asm); (case k3 => k_asm); (case k5 => k_asm); (case kK => first | exact rfl | assumption); (case kd => ktr_room); (case ku => ktr_units))
  case kp => exact ⟨hOrd, hvl, hr⟩
  clear nX
  intro v5 nw5 h5 tk5 hr5 F5 N5
  obtain ⟨ep5, rfl, rfl⟩ := hr5
  simp only [List.cons_append, List.nil_append] at N5
  k_steps
  refine Held.put ?_
  have hml' : mr.length + 1 = n := by simpa using hml
  refine range_all (σ := Str × Tok × List Value × Nat) (n := mr.length) (fun c => x.led 69 ⟨pos, ln, c.2.2.1.toArray, tp, ea, tl, c.2.2.2⟩ ++ rest)
    (fun c => [(Str.ofString "lexer", .ref x.lx), (Str.ofString "first", .str (dotS m0) t0), (Str.ofString "word", .str c.1 c.2.1)])
    (fun i c => c.1 = dotS (((m0 :: mr)[i]?).getD 0) ∧ StrsAre c.2.2.1 ((((m0 :: mr).drop (i + 1)) ++ (List.range i).map (halfAt (m0 :: mr))).map dotS)) (dotS m0, t0, vr, ep5) rfl (by assumption) (small_one (by (first | lia | omega)) (by (first | lia | omega)) (by (first | lia | omega)) (by (first | lia | omega))) ?hn (by k_asm) (by k_asm) (by kst_all) ?hp ?turn ?done
  case hn => rw [show ((n : Int) - 1) = (mr.length : Int) by (first | lia | omega)]; exact rangeSize_nat _ _
  case hp => exact ⟨rfl, by simpa using hVr⟩
  case turn =>
    (rename Fr _ _ _ _ => oF; clear oF); (rename Fr _ _ _ _ => oF; clear oF); (rename News _ _ _ _ => oN; clear oN); (rename News _ _ _ _ => oN; clear oN)
    intro c i tj u h tk own hi hoff hP F' N'
    obtain ⟨wd, tw, pb, e5⟩ := c
    dsimp only [kstB] at F' hP N' hoff
    obtain ⟨rfl, hpb⟩ := hP
    have hro : ∀ q ∈ rest ++ own, q.1 ≠ x.pbL := fun q hq => (List.mem_append.mp hq).elim (hr q) (fun h => hoff q h x.pbL (by simp))
    rw [List.append_assoc] at N'
    simp only [List.cons_append, List.nil_append] at N'
    rw [turn_pop hi] at hpb
    obtain ⟨t9, vr9, rfl, hV9⟩ : ∃ t9 vr9, pb = Value.str (dotS (((m0 :: mr)[i + 1]?).getD 0)) t9 :: vr9 ∧ StrsAre vr9 ((((m0 :: mr).drop (i + 2)) ++ (List.range i).map (halfAt (m0 :: mr))).map dotS) := by
      cases hpb with
      | cons y t h => exact ⟨t, _, rfl, h⟩
    have hl9 : vr9.length ≤ 1000 := by rw [strs_len hV9]; simp; (first | lia | omega)
    k_steps
    refine Held.put ?_
    (rename News _ _ _ _ => nX)
    k_dflt (refine' ctr_use (pop_ctr w p loose mean mg mb Xt x pos ln tp ea tl e5 _ vr9 (rest ++ own)) hXt ?k1 ?k2 ?k3 nX ?k5 ?kK ?kp ?kd ?ku ?_; (case k1 => k_asm); (case k2 => k_asm); (case k3 => k_asm); (case k5 => k_asm); (case kK => first | exact rfl | assumption); (case kd => ktr_room); (case ku => ktr_units))
    case kp => exact ⟨hOrd, hl9, hro⟩
    clear nX
    intro v6 nw6 h6 tk6 hr6 F6 N6
    obtain ⟨e6, rfl, rfl⟩ := hr6
    simp only [List.cons_append, List.nil_append] at N6
    k_steps
    refine Held.put ?_
    (rename News _ _ _ _ => nX)
    k_dflt (refine' ctr_use (half_ctr w p loose mean mg mb Xt _ (((m0 :: mr)[i]?).getD 0) (((m0 :: mr)[i + 1]?).getD 0) _ _) hXt ?k1 ?k2 ?k3 nX ?k5 ?kK ?kp ?kd ?ku ?_; (case k1 => k_asm); (case k2 => k_asm); (case k3 => k_asm); (case k5 => k_asm); (case kK => first | exact rfl | assumption); (case kd => ktr_room); (case ku => ktr_units))
    case kp => exact ⟨get_le hms _, get_le hms _⟩
    clear nX
    intro v7 nw7 h7 tk7 hr7 F7 N7
    obtain ⟨⟨t7, rfl⟩, rfl⟩ := hr7
    k_steps
    refine Held.put ?_
    (rename News _ _ _ _ => nX)
    k_dflt (refine' ctr_use (push_ctr w p loose mean mg mb Xt x pos ln tp ea tl e6 vr9 _ _ (rest ++ own)) hXt ?k1 ?k2 ?k3 nX ?k5 ?kK ?kp ?kd ?ku ?_; (case k1 => k_asm); (case k2 => k_asm); (case k3 => k_asm); (case k5 => k_asm); (case kK => first | exact rfl | assumption); (case kd => ktr_room); (case ku => ktr_units))
    case kp => exact ⟨hOrd, hl9, hro⟩
    clear nX
    intro v8 nw8 h8 tk8 hr8 F8 N8
    obtain ⟨rfl, rfl⟩ := hr8
    simp only [List.cons_append, List.nil_append] at N8
    k_steps
    dsimp only [EndR]
    refine joinA_end (_, t9, vr9 ++ [Value.str (dotS _) t7], e6 + 1) (by k_asm) (by k_asm) (fun p hp => by simpa [List.append_assoc] using hp) (by kst_all) ⟨by simp, rfl, ?_⟩
    rw [turn_next hi]
    exact strs_snoc hV9
  case done =>
    (rename Fr _ _ _ _ => oF; clear oF); (rename Fr _ _ _ _ => oF; clear oF); (rename News _ _ _ _ => oN; clear oN); (rename News _ _ _ _ => oN; clear oN)
    intro c u h tk hP F' N'
    obtain ⟨wd, tw, pb, e5⟩ := c
    dsimp only [kstB] at F' hP N'
    obtain ⟨rfl, hpb⟩ := hP
    simp only [List.cons_append, List.nil_append] at N'
    k_steps
    refine Held.put ?_
    have hm0 : m0 ≤ 20 := hms m0 (.head _)
    have hmk : ((m0 :: mr)[mr.length]?).getD 0 ≤ 20 := get_le hms _
    (rename News _ _ _ _ => nX)
    k_dflt (refine' ctr_use (half_ctr w p loose mean mg mb Xt _ (((m0 :: mr)[mr.length]?).getD 0) m0 _ _) hXt ?k1 ?k2 ?k3 nX ?k5 ?kK ?kp ?kd ?ku ?_; (case k1 => k_asm); (case k2 => k_asm); (case k3 => k_asm); (case k5 => k_asm); (case kK => first | exact rfl | assumption); (case kd => ktr_room); (case ku => ktr_units))
    case kp => exact ⟨hmk, hm0⟩
    clear nX
    intro v6 nw6 h6 tk6 hr6 F6 N6
    obtain ⟨⟨t6, rfl⟩, rfl⟩ := hr6
    k_steps
    refine Held.put ?_
    (rename News _ _ _ _ => nX)
    k_dflt (refine' ctr_use (push_ctr w p loose mean mg mb Xt x pos ln tp ea tl e5 pb _ _ rest) hXt ?k1 ?k2 ?k3 nX ?k5 ?kK ?kp ?kd ?ku ?_; (case k1 => k_asm); (case k2 => k_asm); (case k3 => k_asm); (case k5 => k_asm); (case kK => first | exact rfl | assumption); (case kd => ktr_room); (case ku => ktr_units))
    case kp => exact ⟨hOrd, by rw [strs_len hpb]; simp; (first | lia | omega), hr⟩
    clear nX
    intro v7 nw7 h7 tk7 hr7 F7 N7
    obtain ⟨rfl, rfl⟩ := hr7
    k_steps
    refine hret _ _ _ _ ⟨rfl, _, _, ?_, rfl⟩ (by k_asm) (by k_asm)
    rw [turn_last]
    exact strs_snoc hpb

end Mine
end
section
theorem Mine.forget_Rg2 : True := by
  w_top off
  trivial
open PySem PySem.W PyProof.Rows PySem.Calls PySem.Spec
set_option maxRecDepth 100000
set_option maxHeartbeats 4000000
namespace Mine
theorem ring_in {A : List (Addr × Obj)} {c : Addr × Obj} {rest : List (Addr × Obj)} : ∀ p ∈ A ++ c :: rest, p ∈ c :: (A ++ rest) := mem_blk [A, [c], rest] [0, 1, 2] [1, 0, 2] (by decide)
theorem ring_out {A : List (Addr × Obj)} {c : Addr × Obj} {rest : List (Addr × Obj)} : ∀ p ∈ c :: (A ++ rest), p ∈ A ++ c :: rest := mem_blk [A, [c], rest] [1, 0, 2] [0, 1, 2] (by decide)
theorem strs_at {ys : List Str} : ∀ {vs : List Value} {i : Nat} {v : Value}, StrsAre vs ys → vs[i]? = some v → ∃ y t, ys[i]? = some y ∧ v = .str y t := by
  intro vs i v h
  induction h generalizing i with
  | nil => intro e; simp at e
  | cons y t r ih =>
    intro e
    cases i with
    | zero => simp at e; exact ⟨y, t, by simp, e.symm⟩
    | succ i => simp at e; obtain ⟨y', t', h1, h2⟩ := ih e; exact ⟨y', t', by simpa using h1, h2⟩
theorem ring_in4 {A : List (Addr × Obj)} {a b c d : Addr × Obj} {rest : List (Addr × Obj)} : ∀ p ∈ A ++ a :: b :: c :: d :: rest, p ∈ a :: b :: c :: d :: (A ++ rest) := mem_blk [A, [a, b, c, d], rest] [0, 1, 2] [1, 0, 2] (by decide)
theorem ring_out4 {A : List (Addr × Obj)} {a b c d : Addr × Obj} {rest : List (Addr × Obj)} : ∀ p ∈ a :: b :: c :: d :: (A ++ rest), p ∈ A ++ a :: b :: c :: d :: rest := mem_blk [A, [a, b, c, d], rest] [1, 0, 2] [0, 1, 2] (by decide)
theorem ring_in3 {A : List (Addr × Obj)} {a b c : Addr × Obj} {rest : List (Addr × Obj)} : ∀ p ∈ A ++ a :: b :: c :: rest, p ∈ a :: b :: c :: (A ++ rest) := mem_blk [A, [a, b, c], rest] [0, 1, 2] [1, 0, 2] (by decide)
theorem ring_out3 {A : List (Addr × Obj)} {a b c : Addr × Obj} {rest : List (Addr × Obj)} : ∀ p ∈ a :: b :: c :: (A ++ rest), p ∈ A ++ a :: b :: c :: rest := mem_blk [A, [a, b, c], rest] [1, 0, 2] [0, 1, 2] (by decide)
theorem off1_mem {D : Addr} : ∀ {l : List (Addr × Obj)}, LCg.Off1 D l → ∀ p ∈ l, p.1 ≠ D
  | [], _, _, h => nomatch h
  | _ :: _, x, p, h => by
    rcases List.mem_cons.mp h with rfl | h
    · exact x.1
    · exact off1_mem x.2 p h
/-- the lexer's ledger holds the same addresses whatever it holds -/
theorem led_adr {C : Addr} {x : Lx} {y y' : Ls} {rest : List (Addr × Obj)} {D : Addr} (h : ∀ p ∈ x.led C y ++ rest, p.1 ≠ D) : ∀ p ∈ x.led C y' ++ rest, p.1 ≠ D := by
  have e : (x.led C y ++ rest).map (·.1) = (x.led C y' ++ rest).map (·.1) := rfl
  intro p hp
  have hm : p.1 ∈ (x.led C y ++ rest).map (·.1) := by rw [e]; exact List.mem_map_of_mem hp
  obtain ⟨q, hq, e2⟩ := List.mem_map.mp hm
  rw [← e2]; exact h q hq
theorem led_pb {C : Addr} {x : Lx} {y : Ls} {rest : List (Addr × Obj)} : (x.pbL, listOf y.pb y.ep) ∈ x.led C y ++ rest := by simp
local macro_rules | `(tactic| k_all) => `(tactic| first | assumption | exact allLt_ne (by assumption) (by (first | lia | omega)))
local macro_rules | `(tactic| k_room) => `(tactic| ktr_room)
local macro_rules | `(tactic| k_units) => `(tactic| ktr_units)
local macro_rules | `(tactic| walk_at "pyIter ref") => `(tactic| (refine Held.out ?_))
local macro_rules | `(tactic| walk_at "call ref") => `(tactic| (refine Held.out ?_))
local macro_rules | `(tactic| walk_at "exec For Name Name cons nil") => `(tactic| ((rename Fr _ _ _ _ => lF'); (with_unfolding_all refine' For_invVF lF' ?k1 ?k2 ?_; (case k1 => exact rfl); (case k2 => exact rfl); k_whole)))
local macro_rules | `(tactic| walk_at "CompSrc") => `(tactic| (refine Held.out ?_))
local macro_rules | `(tactic| walk_at "CompEnd") => `(tactic| (refine Held.out ?_))
theorem ring_ctr (w : World) (p : Program) (loose : List Str) (mean : ExcName → Option Value) (mg mb : Str → Option Value) (Xt : Heap → Prop) (x : Lx) (pos ln : Int) (tp : Tok) (ea : Nat) (tl : Tok) (ep : Nat) (vs : List Value) (ms : List Nat) (n k : Nat) (tn tk : Tok) (rest : List (Addr × Obj)) :
   Ctr (PySem.Challenge.rw_pe0114_02).row.prog w (hd.heap_39 w.params) p loose mean mg mb Xt 137 6 (x.led 69 ⟨pos, ln, vs.toArray, tp, ea, tl, ep⟩ ++ rest)
     (x.Ord ∧ StrsAre vs (ms.map dotS) ∧ ms.length = n ∧ 1 ≤ n ∧ n ≤ 10 ∧ k ≤ 10 ∧ (∀ m ∈ ms, m ≤ 20) ∧ ∀ q ∈ rest, q.1 ≠ x.pbL) [.ref x.lx, .int (n : Int) tn, .int (k : Int) tk]
     (fun r nw => ∃ D us vs' ep' e9, r = Value.ref D ∧ StrsAre us ((turnN k ms).map dotS) ∧ StrsAre vs' ((turnN k ms).map dotS) ∧ (∀ q ∈ x.led 69 ⟨pos, ln, vs'.toArray, tp, ea, tl, ep'⟩ ++ rest, q.1 ≠ D) ∧ nw = (D, listOf us.toArray e9) :: (x.led 69 ⟨pos, ln, vs'.toArray, tp, ea, tl, ep'⟩ ++ rest)) := by
  k_fill
  dsimp only [Ctr]
  intros
  rename_i hXt _ _ _ _ _ _ hpre _ _ hret
  obtain ⟨hOrd, hV, hml, hn1, hn2, hk1, hms, hr⟩ := hpre
  obtain ⟨a1, a2, a3, a4, a5, a6, a7, a8, a9, a10⟩ := id hOrd
  rename News _ _ _ _ => hN0
  simp only [List.cons_append, List.nil_append] at hN0
  k_dflt (refine' code_defC ?k1 ?k2 ?k3 ?k4 ?k5 ?kA ?kF ?kK ?k6 ?k7 ?k8 ?k9 ?kB ?kD ?_ ?c2 ?c3 ?c4; (case kA => exact rfl); (case kF => exact rfl); (case kK => assumption); (case k1 => k_asm); (case k2 => k_asm); (case k3 => k_asm); (case k4 => k_asm); (case k5 => k_asm); (case k6 => k_is); (case k7 => k_is); (case k8 => ktr_room); (case k9 => exact BindsTo.of_eq rfl); (case kB => exact rfl); (case kD => decide +kernel); (case c2 => exact rfl); (case c3 => exact rfl); (case c4 => exact rfl); k_whole; intro g' L' h' tk' cells' FG' F' N' Y' B' X' T' l1; (try k_lt l1); k_cells Y'; (try simp only [List.cons_append, List.nil_append] at N'); (try dsimp only); (try k_lift B'); (try k_fold))
  k_steps
  refine Held.put ?_
  (rename Obj => cO); (rename cO.data = _ => hcO)
  replace hcO : cO.data = .cell (some (.ref x.lx)) := hcO
  refine range_all (σ := List Value × Nat) (n := k) (fun c => (L' + 1, cO) :: (x.led 69 ⟨pos, ln, c.1.toArray, tp, ea, tl, c.2⟩ ++ rest))
    (fun _ => [(Str.ofString "size", .int (n : Int) tn)])
    (fun i c => StrsAre c.1 ((turnN i ms).map dotS)) (vs, ep) rfl (by assumption) (small_one (by (first | lia | omega)) (by (first | lia | omega)) (by (first | lia | omega)) (by (first | lia | omega))) ?hn (by k_asm) (by k_asm) (by kst_all) ?hp ?turn ?done
  case hn => exact rangeSize_nat _ _
  case hp => exact hV
  case turn =>
    (rename Fr _ _ _ _ => oF; clear oF); (rename Fr _ _ _ _ => oF; clear oF); (rename News _ _ _ _ => oN; clear oN); (rename News _ _ _ _ => oN; clear oN)
    intro c i tj u h tk own hi hoff hP F' N'
    obtain ⟨pb, e5⟩ := c
    dsimp only [kstB] at F' hP N' hoff
    replace F' : Fr g' L' h _ := F'
    replace N' : News g' L' h _ := N'
    have hro : ∀ q ∈ (L' + 1, cO) :: (rest ++ own), q.1 ≠ x.pbL := fun q hq => by
      rcases List.mem_cons.mp hq with rfl | hq
      · exact Nat.ne_of_gt (Nat.lt_succ_of_lt l1.2.2.2.2.2.1)
      · exact (List.mem_append.mp hq).elim (hr q) (fun h => hoff q h x.pbL (by simp))
    simp only [List.cons_append, List.nil_append] at N'
    k_steps
    refine Held.put ?_
    (rename News _ _ _ _ => nX)
    have N5 : News _ _ _ (x.led 69 ⟨pos, ln, pb.toArray, tp, ea, tl, e5⟩ ++ (L' + 1, cO) :: (rest ++ own)) := fun p hp => nX p (ring_in p hp)
    k_dflt (refine' ctr_use (turn_ctr w p loose mean mg mb Xt x pos ln tp ea tl e5 pb (turnN i ms) n tn ((L' + 1, cO) :: (rest ++ own))) hXt ?k1 ?k2 ?k3 N5 ?k5 ?kK ?kp ?kd ?ku ?_; (case k1 => k_asm); (case k2 => k_asm); (case k3 => k_asm); (case k5 => k_asm); (case kK => first | exact rfl | assumption); (case kd => ktr_room); (case ku => ktr_units))
    case kp => exact ⟨hOrd, hP, by rw [turnN_len, hml], hn1, hn2, turnN_le hms i, hro⟩
    clear nX N5
    intro v6 nw6 h6 tk6 hr6 F6 N6
    obtain ⟨rfl, vs6, e6, hV6, rfl⟩ := hr6
    have N7 : News _ _ _ _ := fun p hp => N6 p (ring_out p hp)
    clear N6
    k_steps
    dsimp only [EndR]
    exact joinA_end (vs6, e6) (by k_asm) (by k_asm) (fun p hp => by simpa [List.append_assoc] using hp) (by kst_all) ⟨by simp, hV6⟩
  case done =>
    (rename Fr _ _ _ _ => oF; clear oF); (rename Fr _ _ _ _ => oF; clear oF); (rename News _ _ _ _ => oN; clear oN); (rename News _ _ _ _ => oN; clear oN)
    intro c u h tk hP F' N'
    obtain ⟨pb, e5⟩ := c
    dsimp only [kstB] at F' hP N'
    replace F' : Fr g' L' h _ := F'
    replace N' : News g' L' h _ := N'
    simp only [List.cons_append, List.nil_append] at N'
    k_steps
    refine Held.put ?_
    (rename News _ _ _ _ => nX); (rename Fr _ _ _ _ => fX)
    have hlen : (turnN k ms).length = n := by rw [turnN_len, hml]
    have nX' : News _ _ _ ((L' + 1, cO) :: (x.led 69 ⟨pos, ln, pb.toArray, tp, ea, tl, e5⟩ ++ rest)) := nX
    refine LCg.CompSrc.range (n := n) rfl fX nX' (by assumption) (small_one (by (first | lia | omega)) (by (first | lia | omega)) (by (first | lia | omega)) (by (first | lia | omega))) (rangeSize_nat _ _) (Nat.le_trans hn2 (by rw [PySem.sizeLine_eq]; decide)) fun g1 => ?_
    refine comp_all (σ := List Value × Nat) (fun c => (L' + 1, cO) :: (x.led 69 ⟨pos, ln, c.1.toArray, tp, ea, tl, c.2⟩ ++ rest)) (fun i c ys => StrsAre c.1 (((turnN k ms).drop i).map dotS) ∧ StrsAre ys (((turnN k ms).take i).map dotS)) (pb, e5) ⟨by simpa using hP, .nil⟩ ?turn1 ?fin1
    case turn1 =>
      clear nX nX' fX hP
      intro i c ys v I oI C oC D m₂ h tk E' hi hP hv hC hx F' N' off ne
      obtain ⟨pb, e5⟩ := c
      dsimp only at hP N' off
      obtain ⟨hpb, hys⟩ := hP
      have hil : i < (turnN k ms).length := by rw [hlen]; exact hi
      rw [List.drop_eq_getElem_cons hil, List.map_cons] at hpb
      obtain ⟨t9, vr9, rfl, hV9⟩ : ∃ t9 vr9, pb = Value.str (dotS ((turnN k ms)[i])) t9 :: vr9 ∧ StrsAre vr9 (((turnN k ms).drop (i + 1)).map dotS) := by
        cases hpb with
        | cons y t h => exact ⟨t, _, rfl, h⟩
      have hl9 : vr9.length ≤ 1000 := by rw [strs_len hV9]; simp; (first | lia | omega)
      have hoff := off.mem
      have hpb3 := hoff (x.pbL, _) (.tail _ led_pb)
      have hro : ∀ q ∈ (I, oI) :: (C, oC) :: (D, LCg.lst ys) :: (L' + 1, cO) :: rest, q.1 ≠ x.pbL := fun q hq => by
        rcases List.mem_cons.mp hq with rfl | hq
        · exact Ne.symm hpb3.1
        rcases List.mem_cons.mp hq with rfl | hq
        · exact Ne.symm hpb3.2.1
        rcases List.mem_cons.mp hq with rfl | hq
        · exact Ne.symm hpb3.2.2
        rcases List.mem_cons.mp hq with rfl | hq
        · exact Nat.ne_of_gt (Nat.lt_succ_of_lt l1.2.2.2.2.2.1)
        · exact hr q hq
      simp only [List.cons_append, List.nil_append] at N'
      k_steps
      refine Held.put ?_
      (rename News _ _ _ _ => nX)
      have N5 : News _ _ _ (x.led 69 ⟨pos, ln, (Value.str (dotS ((turnN k ms)[i])) t9 :: vr9).toArray, tp, ea, tl, e5⟩ ++ (I, oI) :: (C, oC) :: (D, LCg.lst ys) :: (L' + 1, cO) :: rest) := fun p hp => nX p (ring_in4 p hp)
      k_dflt (refine' ctr_use (pop_ctr w p loose mean mg mb Xt x pos ln tp ea tl e5 _ vr9 ((I, oI) :: (C, oC) :: (D, LCg.lst ys) :: (L' + 1, cO) :: rest)) hXt ?k1 ?k2 ?k3 N5 ?k5 ?kK ?kp ?kd ?ku ?_; (case k1 => k_asm); (case k2 => k_asm); (case k3 => k_asm); (case k5 => k_asm); (case kK => first | exact rfl | assumption); (case kd => ktr_room); (case ku => ktr_units))
      case kp => exact ⟨hOrd, hl9, hro⟩
      clear nX N5
      intro v6 nw6 h6 tk6 hr6 F6 N6
      obtain ⟨e6, rfl, rfl⟩ := hr6
      have N7 : News _ _ _ _ := fun p hp => N6 p (ring_out4 p hp)
      clear N6
      k_steps
      refine Held.put ?_
      refine LCg.CompEnd.intro F6 N7 ((L' + 1, cO) :: (x.led 69 ⟨pos, ln, vr9.toArray, tp, ea, tl, e6⟩ ++ rest)) (fun p hp => hp) off trivial ⟨(vr9, e6), rfl, hV9, ?_⟩
      rw [List.take_add_one, List.getElem?_eq_getElem hil, List.map_append]
      exact strs_snoc hys
    case fin1 =>
      clear nX nX' fX hP
      intro c ys hP D h tk F' N' o1
      obtain ⟨pb, e5⟩ := c
      dsimp only at hP N' o1
      obtain ⟨hpb, hys⟩ := hP
      have hpb0 : pb = [] := by
        rw [← hlen, List.drop_length] at hpb
        cases hpb; rfl
      subst hpb0
      rw [← hlen, List.take_length] at hys
      have hD := off1_mem o1
      have hyl : ys.length = n := by rw [strs_len hys, List.length_map, hlen]
      simp only [List.cons_append, List.nil_append] at N'
      k_steps
      refine Held.put ?_
      (rename News _ _ _ _ => nX); (rename Fr _ _ _ _ => fX)
      have nX' : News _ _ _ ((D, listOf ys.toArray ys.length) :: (L' + 1, cO) :: (x.led 69 ⟨pos, ln, #[], tp, ea, tl, e5⟩ ++ rest)) := nX
      refine list_grow (σ := List Value × Nat) (vs := ys) (ep := ys.length) (fun c => (D, listOf ys.toArray ys.length) :: (L' + 1, cO) :: (x.led 69 ⟨pos, ln, c.1.toArray, tp, ea, tl, c.2⟩ ++ rest))
        (fun _ => [(Str.ofString "ring", .ref D)]) (fun i c => c.1 = ys.take i) ([], e5) rfl (by exact fX) (by exact nX') (by kst_all) (by simp) (fun i c _ => .head _) ?turn2 ?done2
      case turn2 =>
        clear nX nX' fX
        intro c i v u h tk I it hv ho hP F' N'
        obtain ⟨pb, e5⟩ := c
        dsimp only [kstB] at F' hP N' ho
        replace F' : Fr g' L' h _ := F'
        replace N' : News g' L' h _ := N'
        obtain ⟨y, tv, hy, rfl⟩ := strs_at hys hv
        have hil : i < ys.length := (List.getElem?_eq_some_iff.mp hv).1
        have hpl : pb.length ≤ 1000 := by rw [hP, List.length_take]; (first | lia | omega)
        have hro : ∀ q ∈ (I, it) :: (D, listOf ys.toArray ys.length) :: (L' + 1, cO) :: rest, q.1 ≠ x.pbL := fun q hq => by
          rcases List.mem_cons.mp hq with rfl | hq
          · exact Ne.symm (ho (x.pbL, _) (.tail _ (.tail _ led_pb)))
          rcases List.mem_cons.mp hq with rfl | hq
          · exact Ne.symm (hD (x.pbL, _) (.tail _ led_pb))
          rcases List.mem_cons.mp hq with rfl | hq
          · exact Nat.ne_of_gt (Nat.lt_succ_of_lt l1.2.2.2.2.2.1)
          · exact hr q hq
        simp only [List.cons_append, List.nil_append] at N'
        k_steps
        refine Held.put ?_
        (rename News _ _ _ _ => nX)
        have N5 : News _ _ _ (x.led 69 ⟨pos, ln, pb.toArray, tp, ea, tl, e5⟩ ++ (I, it) :: (D, listOf ys.toArray ys.length) :: (L' + 1, cO) :: rest) := fun p hp => nX p (ring_in3 p hp)
        k_dflt (refine' ctr_use (push_ctr w p loose mean mg mb Xt x pos ln tp ea tl e5 pb y tv ((I, it) :: (D, listOf ys.toArray ys.length) :: (L' + 1, cO) :: rest)) hXt ?k1 ?k2 ?k3 N5 ?k5 ?kK ?kp ?kd ?ku ?_; (case k1 => k_asm); (case k2 => k_asm); (case k3 => k_asm); (case k5 => k_asm); (case kK => first | exact rfl | assumption); (case kd => ktr_room); (case ku => ktr_units))
        case kp => exact ⟨hOrd, hpl, hro⟩
        clear nX N5
        intro v6 nw6 h6 tk6 hr6 F6 N6
        obtain ⟨rfl, rfl⟩ := hr6
        have N7 : News _ _ _ _ := fun p hp => N6 p (ring_out3 p hp)
        clear N6
        k_steps
        dsimp only [EndG]
        refine joinA_end (pb ++ [.str y tv], e5 + 1) (by k_asm) N7 (fun p hp => by simpa using hp) (by kst_all) ⟨?_, ?_⟩
        · intro p hp
          rcases List.mem_cons.mp hp with rfl | hp
          · exact ho _ (.head _)
          rcases List.mem_cons.mp hp with rfl | hp
          · exact ho _ (.tail _ (.head _))
          · exact led_adr (y := ⟨pos, ln, pb.toArray, tp, ea, tl, e5⟩) (y' := ⟨pos, ln, (pb ++ [Value.str y tv]).toArray, tp, ea, tl, e5 + 1⟩) (fun p hp => ho p (.tail _ (.tail _ hp))) p (by simpa using hp)
        · dsimp only
          rw [List.take_add_one, hv, hP]; rfl
      case done2 =>
        clear nX nX' fX
        intro c u h tk hP F' N'
        obtain ⟨pb, e5⟩ := c
        dsimp only [kstB] at F' hP N'
        replace F' : Fr g' L' h _ := F'
        replace N' : News g' L' h _ := N'
        rw [List.take_length] at hP
        subst hP
        k_steps
        (rename News _ _ _ _ => nX)
        refine hret _ _ _ _ ⟨D, pb, pb, e5, pb.length, rfl, hys, hys, ?_, rfl⟩ (by k_asm) ?nw
        · exact led_adr (y := ⟨pos, ln, #[], tp, ea, tl, _⟩) (fun p hp => hD p (.tail _ hp))
        case nw =>
          intro p hp
          refine nX p ?_
          rcases List.mem_cons.mp hp with rfl | hp
          · exact .head _
          · exact .tail _ (.tail _ hp)
end Mine
end
section
theorem Mine.forget_CmM : True := by
  w_top off
  trivial
open PySem PySem.W PyProof.Rows PySem.Calls PySem.Spec
set_option maxRecDepth 100000
namespace Mine
def goodK (ms : List Int) (k : Int) : Bool := (ms.filter fun m => decide ((m - ms.headD 0).fmod k ≠ 0)) == []
def goodsK (ms : List Int) : List Int := ((List.range 7).map fun k : Nat => 1 + (k : Int)).filter (goodK ms)
/-- what _law_common gives back -/
def CommonIs (a b c r : Int) : Prop := (a = b ∧ b = c ∧ r = 0) ∨ (¬ (a = b ∧ b = c) ∧ r ∈ goodsK [a, b, c] ∧ ∀ x ∈ goodsK [a, b, c], x ≤ r)
theorem goods_one (a b c : Int) : 0 < (goodsK [a, b, c]).length := by
  have e : goodK [a, b, c] 1 = true := by
    unfold goodK
    have h : ∀ m : Int, decide (m.fmod 1 ≠ 0) = false := fun m => by rw [Int.fmod_eq_emod_of_nonneg _ (by decide), Int.emod_one]; rfl
    simp [h]
  have hm : (1 : Int) ∈ goodsK [a, b, c] := List.mem_filter.mpr ⟨by decide, e⟩
  exact List.length_pos_of_mem hm
theorem ints_at {ys : List Int} : ∀ {vs : List Value} {i : Nat} {v : Value}, IntsAre vs ys → vs[i]? = some v → ∃ y t, ys[i]? = some y ∧ v = .int y t := by
  intro vs i v h
  induction h generalizing i with
  | nil => intro e; simp at e
  | cons y t r ih =>
    intro e
    cases i with
    | zero => simp at e; exact ⟨y, t, by simp, e.symm⟩
    | succ i => simp at e; obtain ⟨y', t', h1, h2⟩ := ih e; exact ⟨y', t', by simpa using h1, h2⟩
theorem ints_len : ∀ {vs : List Value} {ys : List Int}, IntsAre vs ys → vs.length = ys.length
  | _, _, .nil => rfl
  | _, _, .cons _ _ r => by rw [List.length_cons, List.length_cons, ints_len r]
theorem ints_snoc {y : Int} {t : Tok} : ∀ {vs : List Value} {ys : List Int}, IntsAre vs ys → IntsAre (vs ++ [.int y t]) (ys ++ [y])
  | _, _, .nil => .cons y t .nil
  | _, _, .cons z u r => .cons z u (ints_snoc r)
end Mine
end
section
theorem Mine.forget_Eu : True := by
  w_top off
  trivial
open PySem PySem.W PyProof.Rows PySem.Calls PySem.Spec
set_option maxRecDepth 100000
namespace Mine
/-- the greatest number by which three leave the same -/
def leave (a b c : Nat) : Nat := Nat.gcd (((a : Int) - b).natAbs) (((a : Int) - c).natAbs)
def euB (a b c : Nat) : Bool :=
  let r := turnN 7 [a, b, c]
  let g := leave a b c
  (r == [0, g, g] || r == [g, 0, g] || r == [g, g, 0]) && decide (g ≤ 7) && (if a == b && b == c then g == 0 else (goodsK [a, b, c]).all (fun x => decide (x ≤ (g : Int))) && (goodsK [a, b, c]).contains (g : Int))
def euR (i : Nat) : Bool := (List.range 8).all fun j => (List.range 8).all fun k => euB (i + 1) (j + 1) (k + 1)
theorem eu0 : euR 0 = true := by decide +kernel
theorem eu1 : euR 1 = true := by decide +kernel
theorem eu2 : euR 2 = true := by decide +kernel
theorem eu3 : euR 3 = true := by decide +kernel
theorem eu4 : euR 4 = true := by decide +kernel
theorem eu5 : euR 5 = true := by decide +kernel
theorem eu6 : euR 6 = true := by decide +kernel
theorem eu7 : euR 7 = true := by decide +kernel
theorem euA {i : Nat} (h : i < 8) : euR i = true := by
  match i, h with
  | 0, _ => exact eu0
  | 1, _ => exact eu1
  | 2, _ => exact eu2
  | 3, _ => exact eu3
  | 4, _ => exact eu4
  | 5, _ => exact eu5
  | 6, _ => exact eu6
  | 7, _ => exact eu7
theorem euF {a b c : Nat} (ha : 1 ≤ a ∧ a ≤ 8) (hb : 1 ≤ b ∧ b ≤ 8) (hc : 1 ≤ c ∧ c ≤ 8) : euB a b c = true := by
  have h := euA (i := a - 1) (by (first | lia | omega))
  unfold euR at h
  have h2 := List.all_eq_true.mp (List.all_eq_true.mp h (b - 1) (List.mem_range.mpr (by (first | lia | omega)))) (c - 1) (List.mem_range.mpr (by (first | lia | omega)))
  rw [show a - 1 + 1 = a by (first | lia | omega), show b - 1 + 1 = b by (first | lia | omega), show c - 1 + 1 = c by (first | lia | omega)] at h2
  exact h2
/-- seven turns of three words -/
theorem euclid {a b c : Nat} {r : Int} (ha : 1 ≤ a ∧ a ≤ 8) (hb : 1 ≤ b ∧ b ≤ 8) (hc : 1 ≤ c ∧ c ≤ 8) (hr : CommonIs a b c r) : ∃ g : Nat, r = g ∧ g ≤ 7 ∧ (turnN 7 [a, b, c] = [0, g, g] ∨ turnN 7 [a, b, c] = [g, 0, g] ∨ turnN 7 [a, b, c] = [g, g, 0]) := by
  have h := euF ha hb hc
  unfold euB at h
  simp only [Bool.and_eq_true, Bool.or_eq_true, beq_iff_eq, decide_eq_true_eq] at h
  obtain ⟨⟨h1, h2⟩, h3⟩ := h
  refine ⟨leave a b c, ?_, h2, by rcases h1 with (h | h) | h <;> simp [h]⟩
  rcases hr with ⟨e1, e2, rfl⟩ | ⟨hne, hm, hx⟩
  · have e : a = b ∧ b = c := ⟨by (first | lia | omega), by (first | lia | omega)⟩
    rw [if_pos e] at h3
    have := eq_of_beq h3
    rw [this]; rfl
  · have e : ¬ (a = b ∧ b = c) := fun z => hne ⟨by (first | lia | omega), by (first | lia | omega)⟩
    rw [if_neg e] at h3
    simp only [Bool.and_eq_true, List.all_eq_true, decide_eq_true_eq] at h3
    have h4 := h3.1 r hm
    have h5 := hx _ (List.contains_iff_mem.mp h3.2)
    (first | lia | omega)
theorem turnL_rot {a b c g : Nat} (h : [a, b, c] = [0, g, g] ∨ [a, b, c] = [g, 0, g] ∨ [a, b, c] = [g, g, 0]) : turnL [a, b, c] = [c, a, b] := by
  rw [turn3]
  rcases h with h | h | h <;> (injection h with h1 h; injection h with h2 h; injection h with h3 h; subst h1 h2 h3; simp)
end Mine
end
section
theorem Mine.forget_PmR : True := by
  w_top off
  trivial
open PySem PySem.W PyProof.Rows PySem.Calls PySem.Spec
set_option maxRecDepth 100000
namespace Mine
/-- plain signs: no row end -/
def plainL (l : List Nat) : Prop := ∀ x ∈ l, x ≠ 10 ∧ x ≠ 13
theorem plainL.tail {c : Nat} {l : List Nat} (h : plainL (c :: l)) : plainL l := fun x hx => h x (.tail _ hx)
theorem plainL.app {a b : List Nat} (h : plainL a) (h' : plainL b) : plainL (a ++ b) := fun x hx => (List.mem_append.mp hx).elim (h x) (h' x)
def eolL : Nat → List Nat
  | 0 => [10]
  | 1 => [13]
  | _ => [13, 10]
def rowsT (rs : List (List Nat × Nat)) : List Nat := rs.flatMap fun r => r.1 ++ eolL r.2
def rowsC (bs : List (List Nat)) : List Nat := bs.flatMap fun b => b ++ [13, 10]
theorem rowsC_cons (b : List Nat) (bs : List (List Nat)) : rowsC (b :: bs) = b ++ 13 :: 10 :: rowsC bs := by simp [rowsC]
theorem rowsT_cons (b : List Nat) (e : Nat) (rs : List (List Nat × Nat)) : rowsT ((b, e) :: rs) = b ++ (eolL e ++ rowsT rs) := by simp [rowsT]
theorem crlf_body : ∀ {b : List Nat} (r : List Nat), plainL b → crlf (b ++ r) = b ++ crlf r
  | [], _, _ => rfl
  | c :: b, r, h => by
    have h1 := h c (.head _)
    rw [List.cons_append, crlf_plain (by simp [eol]; (first | lia | omega)), crlf_body r h.tail]; rfl
theorem crlf_eol (e : Nat) {r : List Nat} (h : ∀ r', r ≠ 10 :: r') : crlf (eolL e ++ r) = 13 :: 10 :: crlf r := by
  match e with
  | 0 => exact crlf_nl r
  | 1 => exact crlf_cr h
  | _ + 2 => exact crlf_crlf r
theorem rowsT_no : ∀ {rs : List (List Nat × Nat)}, (∀ r ∈ rs, plainL r.1 ∧ r.1 ≠ []) → ∀ r', rowsT rs ≠ 10 :: r'
  | [], _, _ => by simp [rowsT]
  | (b, e) :: rs, h, r' => by
    have h1 := h _ (.head _)
    rw [rowsT_cons]
    cases b with
    | nil => exact absurd rfl h1.2
    | cons c b => intro e; injection e with e1; exact (h1.1 c (.head _)).1 e1
theorem crlf_rows : ∀ {rs : List (List Nat × Nat)}, (∀ r ∈ rs, plainL r.1 ∧ r.1 ≠ []) → crlf (rowsT rs) = rowsC (rs.map (·.1))
  | [], _ => by simp [rowsT, rowsC, crlf]
  | (b, e) :: rs, h => by
    have h1 := h _ (.head _)
    have h2 := fun r hr => h r (.tail _ hr)
    rw [rowsT_cons, crlf_body _ h1.1, crlf_eol e (rowsT_no h2), crlf_rows h2, List.map_cons, rowsC_cons]
def dotB (b : List Nat) : List Nat := if b.head? = some 46 then 46 :: b else b
theorem dots_false : ∀ {b : List Nat} (r : List Nat), plainL b → dots false (b ++ 13 :: 10 :: r) = b ++ 13 :: 10 :: dots true r
  | [], r, _ => by simp [dots]
  | c :: b, r, h => by
    have h1 := h c (.head _)
    have hc : (c == 10) = false := by simpa using h1.1
    rw [List.cons_append, dots, if_neg (by simp), hc, dots_false r h.tail]; rfl
theorem dots_true {b : List Nat} (r : List Nat) (h : plainL b) : dots true (b ++ 13 :: 10 :: r) = dotB b ++ 13 :: 10 :: dots true r := by
  cases b with
  | nil => simp [dots, dotB]
  | cons c b =>
    have h1 := h c (.head _)
    have hc : (c == 10) = false := by simpa using h1.1
    rw [List.cons_append, dots, hc, dots_false r h.tail]
    unfold dotB
    by_cases e : c = 46
    · subst e; simp
    · simp [e]
theorem dots_rows : ∀ {bs : List (List Nat)}, (∀ b ∈ bs, plainL b) → dots true (rowsC bs) = rowsC (bs.map dotB)
  | [], _ => by simp [rowsC, dots]
  | b :: bs, h => by
    rw [rowsC_cons, dots_true _ (h b (.head _)), dots_rows fun b hb => h b (.tail _ hb), List.map_cons, rowsC_cons]
def quotM (l : List Nat) : List Nat := dots true (crlf l)
theorem quot_rowsT {rs : List (List Nat × Nat)} (h : ∀ r ∈ rs, plainL r.1 ∧ r.1 ≠ []) : quotM (rowsT rs) = rowsC (rs.map fun r => dotB r.1) := by
  unfold quotM
  rw [crlf_rows h, dots_rows]
  · rw [List.map_map]; rfl
  · intro b hb
    obtain ⟨r, hr, rfl⟩ := List.mem_map.mp hb
    exact (h r hr).1
theorem rowsC_T (bs : List (List Nat)) : rowsC bs = rowsT (bs.map fun b => (b, 2)) := by
  unfold rowsC rowsT
  rw [List.flatMap_map]; rfl
theorem quot_rowsC {bs : List (List Nat)} (h : ∀ b ∈ bs, plainL b ∧ b ≠ []) : quotM (rowsC bs) = rowsC (bs.map dotB) := by
  rw [rowsC_T, quot_rowsT]
  · rw [List.map_map]; rfl
  · intro r hr
    obtain ⟨b, hb, rfl⟩ := List.mem_map.mp hr
    exact h b hb
def escd (t : List Nat) : List Nat := t.flatMap fun c => if c = 32 ∨ c = 34 ∨ c = 92 then [92, c] else [c]
/-- a row's body: guard, dots, tail -/
def bodyL (g : Bool) (m : Nat) (t : List Nat) : List Nat := (if g then [92] else []) ++ (List.replicate m 46 ++ escd t)
/-- the dots behind n sendings -/
def grow (g : Bool) (n m : Nat) : Nat := if g = true ∨ m = 0 then m else m + n
/-- the signs of a tail -/
def tailOk (t : List Nat) : Prop := ∀ c ∈ t, c ≠ 10 ∧ c ≠ 13 ∧ c ≠ 9 ∧ c ≠ 46
theorem escd_mem {t : List Nat} {x : Nat} (h : x ∈ escd t) : x = 92 ∨ x ∈ t := by
  unfold escd at h
  obtain ⟨c, hc, hx⟩ := List.mem_flatMap.mp h
  split at hx
  · simp at hx; rcases hx with h | h
    · exact .inl h
    · exact .inr (h ▸ hc)
  · simp at hx; exact .inr (hx ▸ hc)
theorem body_plain {g : Bool} {m : Nat} {t : List Nat} (h : tailOk t) : plainL (bodyL g m t) := by
  intro x hx
  unfold bodyL at hx
  rcases List.mem_append.mp hx with hx | hx
  · cases g <;> simp at hx; (first | lia | omega)
  rcases List.mem_append.mp hx with hx | hx
  · have := List.eq_of_mem_replicate hx; (first | lia | omega)
  · rcases escd_mem hx with h' | h'
    · (first | lia | omega)
    · have := h x h'; (first | lia | omega)
theorem escd_nil {t : List Nat} (h : escd t = []) : t = [] := by
  cases t with
  | nil => rfl
  | cons c t => unfold escd at h; rw [List.flatMap_cons] at h; split at h <;> simp at h
theorem body_ne {g : Bool} {m : Nat} {t : List Nat} (h : m = 0 → t ≠ []) : bodyL g m t ≠ [] := by
  intro e
  unfold bodyL at e
  have h1 := (List.append_eq_nil_iff.mp (List.append_eq_nil_iff.mp e).2)
  have h2 : m = 0 := by simpa using h1.1
  exact h h2 (escd_nil h1.2)
theorem escd_head {t : List Nat} (h : tailOk t) : (escd t).head? ≠ some 46 := by
  cases t with
  | nil => simp [escd]
  | cons c t =>
    have := h c (.head _)
    unfold escd; rw [List.flatMap_cons]
    split
    · simp
    · simp; (first | lia | omega)
theorem dotB_body {g : Bool} {m : Nat} {t : List Nat} (h : tailOk t) : dotB (bodyL g m t) = bodyL g (grow g 1 m) t := by
  unfold dotB grow
  cases g with
  | true => simp [bodyL]
  | false =>
    cases m with
    | zero =>
      have := escd_head h
      simp [bodyL, this]
    | succ m => simp [bodyL, List.replicate_succ]
theorem grow_add (g : Bool) (a b m : Nat) : grow g a (grow g b m) = grow g (b + a) m := by
  unfold grow
  by_cases h : g = true ∨ m = 0
  · simp [h]
  · have h2 : ¬ (g = true ∨ m + b = 0) := fun z => h (z.imp_right fun e => by (first | lia | omega))
    rw [if_neg h, if_neg h2, if_neg h]; (first | lia | omega)
def quotMN : Nat → List Nat → List Nat
  | 0, l => l
  | n + 1, l => quotM (quotMN n l)
/-- a word: guard, dots, tail -/
abbrev Wd := Bool × Nat × List Nat
def Wd.ok (w : Wd) : Prop := tailOk w.2.2 ∧ (w.2.1 = 0 → w.2.2 ≠ [] ∧ w.1 = false)
def Wd.sent (n : Nat) (w : Wd) : Wd := (w.1, grow w.1 n w.2.1, w.2.2)
def Wd.body (w : Wd) : List Nat := bodyL w.1 w.2.1 w.2.2
def Wd.tok (w : Wd) : List Nat := List.replicate w.2.1 46 ++ w.2.2
theorem Wd.ok.sent {w : Wd} (h : w.ok) (n : Nat) : (w.sent n).ok := by
  refine ⟨h.1, fun e => h.2 ?_⟩
  unfold Wd.sent grow at e
  dsimp only at e
  split at e
  · exact e
  · next hn => exact absurd (.inr (by (first | lia | omega))) hn
theorem quotN_rows {ws : List (Wd × Nat)} (h : ∀ w ∈ ws, w.1.ok) : ∀ n : Nat, quotMN (n + 1) (rowsT (ws.map fun w => (w.1.body, w.2))) = rowsC (ws.map fun w => (w.1.sent (n + 1)).body) := by
  intro n
  induction n with
  | zero =>
    rw [quotMN, quotMN, quot_rowsT]
    · rw [List.map_map]
      congr 1
      apply List.map_congr_left
      intro w hw
      exact dotB_body (h w hw).1
    · intro r hr
      obtain ⟨w, hw, rfl⟩ := List.mem_map.mp hr
      exact ⟨body_plain (h w hw).1, body_ne fun e => ((h w hw).2 e).1⟩
  | succ n ih =>
    rw [quotMN, ih, quot_rowsC]
    · rw [List.map_map]
      congr 1
      apply List.map_congr_left
      intro w hw
      refine (dotB_body (h w hw).1).trans ?_
      show bodyL w.1.1 (grow w.1.1 1 (grow w.1.1 (n + 1) w.1.2.1)) w.1.2.2 = _
      rw [grow_add]; rfl
    · intro b hb
      obtain ⟨w, hw, rfl⟩ := List.mem_map.mp hb
      have := (h w hw).sent (n + 1)
      exact ⟨body_plain this.1, body_ne fun e => (this.2 e).1⟩
theorem unq_plain {c : Nat} {r : List Nat} (h : isWs c = false) (h2 : c ≠ 92) : unq (c :: r) = (c :: (unq r).1, (unq r).2) := by
  rw [unq.eq_def]; simp [h, h2]
theorem unq_two {d : Nat} {r : List Nat} : unq (92 :: d :: r) = (d :: (unq r).1, (unq r).2) := by
  rw [unq.eq_def]; simp [isWs]
theorem unq_dots {r : List Nat} : ∀ a : Nat, unq (List.replicate a 46 ++ r) = (List.replicate a 46 ++ (unq r).1, (unq r).2)
  | 0 => by simp
  | a + 1 => by
    rw [List.replicate_succ, List.cons_append, unq_plain (by decide) (by decide), unq_dots a]; rfl
theorem unq_escd {r : List Nat} : ∀ {t : List Nat}, tailOk t → unq (escd t ++ 13 :: r) = (t, r)
  | [], _ => by show unq (13 :: r) = _; exact unq_ws (by decide)
  | c :: t, h => by
    have h1 := h c (.head _)
    have ih := unq_escd (r := r) (t := t) fun x hx => h x (.tail _ hx)
    have e : escd (c :: t) = (if c = 32 ∨ c = 34 ∨ c = 92 then [92, c] else [c]) ++ escd t := by unfold escd; rw [List.flatMap_cons]
    rw [e]
    by_cases hc : c = 32 ∨ c = 34 ∨ c = 92
    · rw [if_pos hc]
      show unq (92 :: c :: (escd t ++ 13 :: r)) = _
      rw [unq_two, ih]
    · rw [if_neg hc]
      show unq (c :: (escd t ++ 13 :: r)) = _
      have hw : isWs c = false := by unfold isWs; simp; (first | lia | omega)
      rw [unq_plain hw (by (first | lia | omega)), ih]
theorem escd_first {t : List Nat} (h : tailOk t) (ht : t ≠ []) : ∃ c r, escd t = c :: r ∧ isWs c = false ∧ c ≠ 34 := by
  cases t with
  | nil => exact absurd rfl ht
  | cons c t =>
    have h1 := h c (.head _)
    have e : escd (c :: t) = (if c = 32 ∨ c = 34 ∨ c = 92 then [92, c] else [c]) ++ escd t := by unfold escd; rw [List.flatMap_cons]
    rw [e]
    by_cases hc : c = 32 ∨ c = 34 ∨ c = 92
    · rw [if_pos hc]; exact ⟨92, _, rfl, by decide, by decide⟩
    · rw [if_neg hc]; refine ⟨c, _, rfl, ?_, by (first | lia | omega)⟩
      unfold isWs; simp; (first | lia | omega)
theorem body_first {w : Wd} (h : w.ok) : ∃ c r, w.body = c :: r ∧ isWs c = false ∧ c ≠ 34 := by
  obtain ⟨g, m, t⟩ := w
  unfold Wd.body bodyL
  dsimp only
  cases g with
  | true => exact ⟨92, _, rfl, by decide, by decide⟩
  | false =>
    cases m with
    | zero => obtain ⟨c, r, e, h1, h2⟩ := escd_first h.1 (h.2 rfl).1; exact ⟨c, r, by simpa using e, h1, h2⟩
    | succ m => exact ⟨46, _, rfl, by decide, by decide⟩
theorem unq_body {w : Wd} (h : w.ok) (r : List Nat) : unq (w.body ++ 13 :: r) = (w.tok, r) := by
  obtain ⟨g, m, t⟩ := w
  unfold Wd.body bodyL Wd.tok
  dsimp only
  cases g with
  | false =>
    show unq (([] ++ (List.replicate m 46 ++ escd t)) ++ 13 :: r) = _
    rw [List.nil_append, List.append_assoc, unq_dots, unq_escd h.1]
  | true =>
    cases m with
    | zero => exact absurd (h.2 rfl).2 (by simp)
    | succ m =>
      show unq (92 :: 46 :: ((List.replicate m 46 ++ escd t) ++ 13 :: r)) = _
      rw [unq_two, List.append_assoc, unq_dots, unq_escd h.1]
      rfl
theorem gtok_body {w : Wd} (h : w.ok) (r : List Nat) : gtok (w.body ++ 13 :: r) = (w.tok, r) := by
  obtain ⟨c, l, e, h1, _⟩ := body_first h
  rw [← unq_body h r, e]
  exact gtok_no h1
/-- what is left of the text behind k words -/
def restR (ws : List Wd) (k : Nat) : List Nat := (if k = 0 then [] else [10]) ++ rowsC ((ws.drop k).map Wd.body)
theorem gtok_skip (k : Nat) (l : List Nat) : gtok ((if k = 0 then [] else [10]) ++ l) = gtok l := by
  split
  · rfl
  · exact gtok_ws (by decide)
theorem gtok_row {ws : List Wd} (h : ∀ w ∈ ws, w.ok) {k : Nat} {w : Wd} (hk : ws[k]? = some w) : gtok (restR ws k) = (w.tok, restR ws (k + 1)) := by
  unfold restR
  obtain ⟨hl, hw⟩ := List.getElem?_eq_some_iff.mp hk
  rw [gtok_skip, List.drop_eq_getElem_cons hl, hw, List.map_cons, rowsC_cons, gtok_body (h w (List.mem_of_getElem? hk)), if_neg (by (first | lia | omega))]
  rfl
theorem gtok_last (ws : List Wd) : gtok (restR ws ws.length) = ([], []) := by
  unfold restR
  rw [gtok_skip, List.drop_length]
  exact rfl
theorem okTok_skip (k : Nat) (l : List Nat) : okTok ((if k = 0 then [] else [10]) ++ l) = okTok l := by
  split
  · rfl
  · rw [List.cons_append, okTok]; rfl
theorem okTok_row {ws : List Wd} (h : ∀ w ∈ ws, w.ok) (k : Nat) : okTok (restR ws k) := by
  unfold restR
  rw [okTok_skip]
  cases e : ws.drop k with
  | nil => trivial
  | cons w r =>
    have hm : w ∈ ws.drop k := by rw [e]; exact List.mem_cons_self
    have hw : w.ok := h w (List.mem_of_mem_drop hm)
    obtain ⟨c, l, e2, h1, h2⟩ := body_first hw
    rw [List.map_cons, rowsC_cons, e2, List.cons_append, okTok, h1]
    exact h2
theorem nls_plain : ∀ {b : List Nat} (r : List Nat), plainL b → nls (b ++ r) = nls r
  | [], _, _ => rfl
  | c :: b, r, h => by
    rw [List.cons_append, nls_cons, nls_plain r h.tail, if_neg (h c (.head _)).1]; (first | lia | omega)
theorem nls_rows {ws : List Wd} (h : ∀ w ∈ ws, w.ok) : nls (rowsC (ws.map Wd.body)) = ws.length := by
  induction ws with
  | nil => rfl
  | cons w ws ih =>
    rw [List.map_cons, rowsC_cons, nls_plain (b := w.body) _ (body_plain (h w (.head _)).1), nls_cons, nls_cons, ih fun w hw => h w (.tail _ hw)]
    simp; (first | lia | omega)
theorem nls_rest {ws : List Wd} (h : ∀ w ∈ ws, w.ok) (k : Nat) : nls (restR ws k) = (if k = 0 then 0 else 1) + ((ws.length - k : Nat) : Int) := by
  unfold restR
  have := nls_rows (ws := ws.drop k) fun w hw => h w (List.mem_of_mem_drop hw)
  rw [List.length_drop] at this
  by_cases hk : k = 0
  · rw [if_pos hk, if_pos hk, List.nil_append, this]; (first | lia | omega)
  · rw [if_neg hk, if_neg hk, List.cons_append, List.nil_append, nls_cons, this]; rfl
theorem rowsC_len (bs : List (List Nat)) (n : Nat) (h : ∀ b ∈ bs, b.length ≤ n) : (rowsC bs).length ≤ bs.length * (n + 2) := by
  induction bs with
  | nil => simp [rowsC]
  | cons b bs ih =>
    have h1 := h b (.head _)
    have h2 := ih fun b hb => h b (.tail _ hb)
    rw [rowsC_cons, List.length_append, List.length_cons, List.length_cons, List.length_cons, Nat.add_mul]
    (first | lia | omega)
theorem escd_len (t : List Nat) : (escd t).length ≤ 2 * t.length := by
  induction t with
  | nil => simp [escd]
  | cons c t ih =>
    have e : escd (c :: t) = (if c = 32 ∨ c = 34 ∨ c = 92 then [92, c] else [c]) ++ escd t := by unfold escd; rw [List.flatMap_cons]
    rw [e, List.length_append, List.length_cons]
    split <;> simp only [List.length_cons, List.length_nil] <;> (first | lia | omega)
theorem body_len (w : Wd) : w.body.length ≤ 1 + w.2.1 + 2 * w.2.2.length := by
  unfold Wd.body bodyL
  have := escd_len w.2.2
  rw [List.length_append, List.length_append, List.length_replicate]
  split <;> simp <;> (first | lia | omega)
theorem grow_le (g : Bool) (n m : Nat) : grow g n m ≤ m + n := by unfold grow; split <;> (first | lia | omega)
/-- what is left behind i words, the empty one behind the last -/
def restS (ws : List Wd) (i : Nat) : List Nat := if i ≤ ws.length then restR ws i else []
def tokS (ws : List Wd) (i : Nat) : List Nat := match ws[i]? with | some w => w.tok | none => []
theorem gtok_S {ws : List Wd} (h : ∀ w ∈ ws, w.ok) {i : Nat} (hi : i ≤ ws.length) : gtok (restS ws i) = (tokS ws i, restS ws (i + 1)) := by
  unfold restS tokS
  rw [if_pos hi]
  rcases Nat.lt_or_eq_of_le hi with hl | hl
  · rw [if_pos (Nat.succ_le_of_lt hl), List.getElem?_eq_getElem hl]
    exact gtok_row h (List.getElem?_eq_getElem hl)
  · subst hl
    rw [if_neg (Nat.not_succ_le_self _), List.getElem?_eq_none (Nat.le_refl _)]
    exact gtok_last ws
theorem okTok_S {ws : List Wd} (h : ∀ w ∈ ws, w.ok) (i : Nat) : okTok (restS ws i) := by
  unfold restS
  split
  · exact okTok_row h i
  · trivial
/-- the words heard -/
def tokL (ws : List Wd) : List Str := (List.range (ws.length + 1)).map fun i => ⟨(tokS ws i).toArray⟩
theorem tokL_take {ws : List Wd} {i : Nat} (hi : i < ws.length + 1) : (tokL ws).take (i + 1) = (tokL ws).take i ++ [⟨(tokS ws i).toArray⟩] := by
  have e : (tokL ws)[i]? = some ⟨(tokS ws i).toArray⟩ := by
    unfold tokL
    rw [List.getElem?_map, List.getElem?_range hi]; rfl
  rw [List.take_add_one, e]; rfl
theorem tokL_eq (ws : List Wd) : tokL ws = (ws.map fun w => (⟨w.tok.toArray⟩ : Str)) ++ [⟨#[]⟩] := by
  unfold tokL
  rw [List.range_succ, List.map_append]
  congr 1
  · apply List.ext_getElem
    · simp
    · intro i h1 h2
      simp at h1
      simp [tokS, List.getElem?_eq_getElem h1]
  · simp [tokS]
theorem nls_nonneg (l : List Nat) : 0 ≤ nls l := Int.natCast_nonneg _
end Mine
end
section
theorem Mine.forget_MySl : True := by
  w_top off
  trivial
open PySem PySem.W PyProof.Rows PySem.Calls PySem.Spec
set_option maxRecDepth 100000
namespace Mine
section
variable {prog : Program} {w : World} {A : Around} {E : Value → Shared → Prop} {s : Shared} {h₀ : Heap} {L l : Addr} {m : Str → Option Value} {news : List (Addr × Obj)} {value slice : PySem.Expr} {vs : List Value} {ns : List Int} {x : Int} {tx : Tok} {Q : Value → Shared → Prop}
theorem slice_tmp (F : Fr h₀ L s.heap m) (N : News h₀ L s.heap news) (hl : s.heap.IsList l vs.toArray) (hi : IntsAre vs ns) (h0 : 0 ≤ x)
    (h : ∀ D ws h', Fr h₀ L h' m → News h₀ L h' ((D, listOf (List.toArray ws) 0) :: news) → (∀ p ∈ news, p.1 < D) → IntsAre ws (ns.drop x.toNat) → Q (.ref D) { s with heap := h' })
    (hs : subscripted slice false (.ref l) (.ref s.heap.objs.size) = operate [.ref s.heap.objs.size, .ref l] (getItem (.ref l) (.ref s.heap.objs.size))) (hz : vs.toArray.size ≤ sizeLine) :
    wpAny (model prog w) A (subscriptTail value slice (.ref l) (.ref s.heap.objs.size)) Q E { s with heap := s.heap.push { cls := .type "slice", data := .fields #[.int x tx, .none, .none] } } := by
  refine tail_any (Heap.IsList.typeIs (s := { s with heap := s.heap.push { cls := .type "slice", data := .fields #[.int x tx, .none, .none] } }) (hl.push _)) list_getitem_lookup
    (wpAny_getItem_list_slice (hl.push _) (Heap.IsSliceOf.new ..) (IsPart.int _ _) .none .none (by simp) ?_ hz) hs
  have N1 := News.push (F.push { cls := .type "slice", data := .fields #[.int x tx, .none, .none] }) (N.grown fun _ _ e => Heap.get?_push_of_some _ e) { cls := .type "list", data := .seq (slicePick vs.toArray (some x) none none) }
  rw [Heap.size_push] at N1
  show Q (.ref (s.heap.push _).objs.size) _
  rw [Heap.size_push]
  refine h _ (slicePick vs.toArray (some x) none none).toList _ ((F.push _).push _) ?_ (fun p hp => Nat.lt_succ_of_lt (Heap.lt_size (N p hp).1)) (kmk_from hi h0)
  rw [Array.toArray_toList]
  exact N1
theorem len_ints {ep : Nat} (N : News h₀ L s.heap news) (hm : (l, listOf vs.toArray ep) ∈ news) (hi : IntsAre vs ns) (hb : ns.length ≤ 1000)
    (h : ∀ t k, Q (.int ns.length t) { s with toks := k }) : wpAny (model prog w) A (call (.builtin "len") [.ref l]) Q E s := by
  have := len_list_made (prog := prog) (w := w) (A := A) (E := E) (Q := Q) (N.isList hm) (ke_carried hi) (by rw [List.length_map]; omega)
  rw [List.length_map] at this
  exact this (h _ _)
end
end Mine
end
section
theorem Mine.forget_MyC2 : True := by
  w_top off
  trivial
open PySem PySem.W PyProof.Rows PySem.Calls PySem.Spec
open PySem.Sem (wp)
set_option maxRecDepth 100000
set_option maxHeartbeats 1000000
namespace Mine
abbrev two (elt it1 it2 : Expr) (x y : Str) (px py : Pos) (ifs : List Expr) (scope : Scope) (pos : Pos) : Expr := .ListComp elt [⟨.Name x px, it1, [], 0⟩, ⟨.Name y py, it2, ifs, 0⟩] scope pos
section
variable {prog : Program} {w : World} {A : Around} {R : Result → Shared → Prop} {s : Shared} {elt it1 it2 : Expr} {x y : Str} {px py : Pos} {ifs : List Expr} {scope : Scope} {pos : Pos} {it acc : Value} {env : Env}
theorem turn_outer : compTurn (two elt it1 it2 x y px py ifs scope pos) 0 it acc env = (do
    standAt it1.pos
    match ← pyNext it with
    | none => pure (.done .next)
    | some v =>
      letOwnedTupleGo (.Name x px) it v
      assign (.Name x px) env v
      let z ← eval it2 env
      standAt it2.pos
      let z ← foldedSetIterable it2 env z
      let _ ← runOwn (.compStart (two elt it1 it2 x y px py ifs scope pos) 1 (← holding [z] (pyIter z)) acc env) env
      again (.compLoop (two elt it1 it2 x y px py ifs scope pos) 0 it acc env)) := by rfl
theorem turn_inner : compTurn (two elt it1 it2 x y px py ifs scope pos) 1 it acc env = (do
    standAt it2.pos
    match ← pyNext it with
    | none => pure (.done .next)
    | some v =>
      letOwnedTupleGo (.Name y py) it v
      assign (.Name y py) env v
      let mut ok := true
      for c in ifs do
        if ok then ok ← isTrue c env (eval c env)
      if ok then
        (do let _ ← call (.builtin "list.append") [acc, ← eval elt env])
      again (.compLoop (two elt it1 it2 x y px py ifs scope pos) 1 it acc env)) := by rfl
theorem code_inner (I : Nat → Shared → Prop)
    (turn : ∀ n s, I n s → wpAny (model prog w) A (pyNext it) (fun r s₁ => match r with
      | none => R (.ok .next) s₁
      | some v => wpAny (model prog w) A (assign (.Name y py) env v) (fun _ s₂ =>
          wpAny (model prog w) A (forIn ifs true fun c r => if r = true then do let ok ← isTrue c env (eval c env); pure (ForInStep.yield ok) else pure (ForInStep.yield r)) (fun ok s₃ =>
            if ok = true then wpAny (model prog w) A (eval elt env) (fun x s₄ =>
              wpAny (model prog w) A (call (.builtin "list.append") [acc, x]) (fun _ s₅ => ∃ m, m < n ∧ I m s₅) (notedBy (model prog w) A env fun e s' => R (.error e) s') s₄) (notedBy (model prog w) A env fun e s' => R (.error e) s') s₃
            else ∃ m, m < n ∧ I m s₃) (notedBy (model prog w) A env fun e s' => R (.error e) s') s₂) (notedBy (model prog w) A env fun e s' => R (.error e) s') s₁) (notedBy (model prog w) A env fun e s' => R (.error e) s') s)
    (n : Nat) (h : I n s) : codeAny (model prog w) A (.compLoop (two elt it1 it2 x y px py ifs scope pos) 1 it acc env) R s := by
  refine codeAny_loop rfl I (fun n s hI => ?_) n h
  show wpAny _ A ((compTurn (two elt it1 it2 x y px py ifs scope pos) 1 it acc env).onRaise (fun x => do noteFrame x env; theTreesLotGoes x)) _ _ s
  refine wpAny_noted ?_
  rw [turn_inner]
  refine wpAny_bind (wpAny_standAt (wpAny_bind (wpAny_mono (turn n s hI) (fun r s₁ h₁ => ?_) fun _ _ h' => h')))
  cases r with
  | none => exact wpAny_pure h₁
  | some v =>
    refine wpAny_bind (wpAny_of_eq (show letOwnedTupleGo (.Name y py) it v = pure () from rfl) ?_)
    refine wpAny_bind (wpAny_mono h₁ (fun _ s₂ h₂ => wpAny_bind (wpAny_mono h₂ (fun ok s₃ h₃ => ?_) fun _ _ h' => h')) fun _ _ h' => h')
    cases ok with
    | false => exact wpAny_pure ⟨rfl, h₃⟩
    | true =>
      exact wpAny_bind (wpAny_bind (wpAny_mono h₃ (fun x s₄ h₄ => wpAny_bind (wpAny_mono h₄ (fun _ s₅ h₅ => wpAny_pure (wpAny_pure ⟨rfl, h₅⟩)) fun _ _ h' => h')) fun _ _ h' => h'))
theorem code_outer (I : Nat → Shared → Prop) (hf : ∀ z, foldedSetIterable it2 env z = pure z)
    (turn : ∀ n s, I n s → wpAny (model prog w) A (pyNext it) (fun r s₁ => match r with
      | none => R (.ok .next) s₁
      | some v => wpAny (model prog w) A (assign (.Name x px) env v) (fun _ s₂ =>
          wpAny (model prog w) A (eval it2 env) (fun z s₃ => wpAny (model prog w) A (pyIter z) (fun it' s₄ =>
            codeAny (model prog w) A (.compStart (two elt it1 it2 x y px py ifs scope pos) 1 it' acc env) (fun r s' => match r with | .ok _ => ∃ m, m < n ∧ I m s' | .error e => cameBackBy (model prog w) A env (notedBy (model prog w) A env fun e s' => R (.error e) s') e s') s₄)
            (notedBy (model prog w) A env fun e s' => R (.error e) s') s₃) (notedBy (model prog w) A env fun e s' => R (.error e) s') s₂) (notedBy (model prog w) A env fun e s' => R (.error e) s') s₁) (notedBy (model prog w) A env fun e s' => R (.error e) s') s)
    (n : Nat) (h : I n s) : codeAny (model prog w) A (.compLoop (two elt it1 it2 x y px py ifs scope pos) 0 it acc env) R s := by
  refine codeAny_loop rfl I (fun n s hI => ?_) n h
  show wpAny _ A ((compTurn (two elt it1 it2 x y px py ifs scope pos) 0 it acc env).onRaise (fun x => do noteFrame x env; theTreesLotGoes x)) _ _ s
  refine wpAny_noted ?_
  rw [turn_outer]
  refine wpAny_bind (wpAny_standAt (wpAny_bind (wpAny_mono (turn n s hI) (fun r s₁ h₁ => ?_) fun _ _ h' => h')))
  cases r with
  | none => exact wpAny_pure h₁
  | some v =>
    refine wpAny_bind (wpAny_of_eq (show letOwnedTupleGo (.Name x px) it v = pure () from rfl) ?_)
    refine wpAny_bind (wpAny_mono h₁ (fun _ s₂ h₂ => wpAny_bind (wpAny_mono h₂ (fun z s₃ h₃ => wpAny_bind (wpAny_standAt (wpAny_bind (wpAny_of_eq (hf z) ?_)))) fun _ _ h' => h')) fun _ _ h' => h')
    refine wpAny_bind (wpAny_holding (wpAny_mono h₃ (fun it' s₄ h₄ => ?_) fun _ _ h' => h'))
    exact wpAny_bind (wpAny_runOwn (codeAny_mono h₄ fun r s' hr => by
      cases r with
      | ok f => exact wpAny_pure ⟨rfl, hr⟩
      | error e => exact hr))
theorem code_start (h0 : codeAny (model prog w) A (.compLoop (two elt it1 it2 x y px py ifs scope pos) 1 it acc env) R s)
    (h : wpAny (model prog w) A (pyIter it) (fun it' s' => codeAny (model prog w) A (.compLoop (two elt it1 it2 x y px py ifs scope pos) 1 it' acc env) R s')
      (notedBy (model prog w) A env fun x s' => R (.error x) s') s) :
    codeAny (model prog w) A (.compStart (two elt it1 it2 x y px py ifs scope pos) 1 it acc env) R s := by
  refine codeAny_of_tree ?_
  show wpAny _ _ ((compStart (two elt it1 it2 x y px py ifs scope pos) 1 it acc env).onRaise (fun x => do noteFrame x env; standAt theWindowsPlace)) _ _ s
  refine wpAny_notedAt ?_
  unfold compStart
  show wpAny _ _ (ask >>= _) _ _ s
  refine wpAny_bind (wpAny_askSetting (wpAny_ite ?_))
  split
  · first
      | exact wpAny_bind (wpAny_pure (wpAny_pure (And.intro rfl h0)))
      | exact wpAny_pure (And.intro rfl h0)
  · first
      | exact wpAny_bind (wpAny_rule (wpAny_bind (wpAny_standAt (wpAny_bind (wpAny_mono h (fun it' s' h' => wpAny_pure (And.intro rfl h')) fun _ _ x => x)))))
      | (refine wpAny_bind (wpAny_rule ?_); show wpAny _ _ (standAt it2.pos >>= _) _ _ s; exact wpAny_bind (wpAny_standAt (wpAny_bind (wpAny_mono h (fun it' s' h' => wpAny_pure (And.intro rfl h')) fun _ _ x => x))))
end
/-- a list of texts is read -/
theorem strs_reads {h : Heap} : ∀ {vs : List Value} {ys : List Str}, StrsAre vs ys → ∃ as, ReadsAll h vs (ys.map PyData.str) as
  | _, _, .nil => ⟨_, ReadsAll.nil⟩
  | _, _, .cons y t r => by
    obtain ⟨as, q⟩ := strs_reads r
    exact ⟨_, ReadsAll.cons (Reads.str y t) q⟩
theorem strs_lay : ∀ {ys : List Str}, (∀ y ∈ ys, PyData.strOk y = true) → PyData.canLayAll0 (ys.map PyData.str) = true ∧ PyData.depthAll (ys.map PyData.str) ≤ 1
  | [], _ => by simp [PyData.canLayAll0, PyData.depthAll]
  | y :: r, h => by
    have h1 := h y (.head _)
    have h2 := strs_lay (ys := r) fun z hz => h z (.tail _ hz)
    simp [PyData.canLayAll0, PyData.depthAll, PyData.canLay0, PyData.depth, h1, h2.1, h2.2]
theorem strs_shaped {ys : List Str} (h : ∀ y ∈ ys, PyData.strOk y = true) : SeqAt.shaped (.list (ys.map PyData.str)) = true := by
  have := strs_lay h
  simp [SeqAt.shaped, PyData.canLay0, PyData.depth, this.1]
  omega
section
variable {prog : Program} {w : World} {A : Around} {E : Value → Shared → Prop} {s : Shared} {h₀ : Heap} {L a b : Addr} {news : List (Addr × Obj)} {vs ws : List Value} {ys : List Str} {e1 e2 : Nat} {Q : Value → Shared → Prop}
theorem strs_same (N : News h₀ L s.heap news) (ha : (a, listOf vs.toArray e1) ∈ news) (hb : (b, listOf ws.toArray e2) ∈ news) (hi : StrsAre vs ys) (hj : StrsAre ws ys) (hk : ∀ y ∈ ys, PyData.strOk y = true) (hu : A.units + 64 < cLine) :
    (∀ Q : Value → Shared → Prop, Q (.bool false) s → wpAny (model prog w) A (compareOp .NotEq (.ref a) (.ref b)) Q E s) ∧ (∀ Q : Value → Shared → Prop, Q (.bool true) s → wpAny (model prog w) A (compareOp .Eq (.ref a) (.ref b)) Q E s) := by
  obtain ⟨as, r1⟩ := strs_reads (h := s.heap) hi
  obtain ⟨bs, r2⟩ := strs_reads (h := s.heap) hj
  have e : PyData.eqv (.list (ys.map PyData.str)) (.list (ys.map PyData.str)) = true := by
    rw [PyData.eqv]; exact PySem.SeqAt.eqvAll_refl _ (strs_lay hk).1
  refine ⟨fun Q h => ?_, fun Q h => ?_⟩
  · refine ne_dataH (reads_list_at (N.get ha) rfl rfl (by simpa using r1)) (reads_list_at (N.get hb) rfl rfl (by simpa using r2)) (strs_shaped hk) (strs_shaped hk) hu ?_
    rw [e]; exact h
  · refine eq_dataH (reads_list_at (N.get ha) rfl rfl (by simpa using r1)) (reads_list_at (N.get hb) rfl rfl (by simpa using r2)) (strs_shaped hk) (strs_shaped hk) hu ?_
    rw [e]; exact h
end
end Mine
end
section
theorem Mine.forget_MyC3 : True := by
  w_top off
  trivial
open PySem PySem.W PyProof.Rows PySem.Calls PySem.Spec
set_option maxRecDepth 100000
set_option maxHeartbeats 1000000
namespace Mine
section
variable {prog : Program} {w : World} {A : Around} {E : Value → Shared → Prop} {s : Shared} {h₀ : Heap} {L : Addr} {m : Str → Option Value} {env : Env} {elt it1 it2 : Expr} {x y : Str} {px py : Pos} {ifs : List Expr} {scope : Scope} {cl : List (Str × Addr)} {pos : Pos}
/-- an inner turn's end -/
def End2 {σ : Type} (h₀ : Heap) (L : Addr) (m : Str → Option Value) (s : Shared) (own : List (Addr × Obj)) (Led : σ → List (Addr × Obj)) (off : List Addr) (P : σ → Prop) (s₂ : Shared) : Prop :=
  ∃ c h' tk news', s₂ = { s with heap := h', toks := tk } ∧ Fr h₀ L h' m ∧ News h₀ L h' news' ∧ (∀ p ∈ own ++ Led c, p ∈ news') ∧ (∀ p ∈ Led c, p.1 ∉ off) ∧ P c
theorem fr_but2 {h h' : Heap} {I : Addr} (F : Fr h₀ L h m) (hk : ∀ b o, b ∉ [I] → h.get? b = some o → h'.get? b = some o) (hL : L ≠ I) (hI : h₀.get? I = none) : Fr h₀ L h' m :=
  ⟨F.ns.at' fun o e => hk L o (by simpa using hL) e, fun b o e => hk b o (fun hm => by rw [List.mem_singleton.mp hm, hI] at e; cases e) (F.keep b o e), F.above⟩
theorem news_but2 {h h' : Heap} {I : Addr} {news : List (Addr × Obj)} (N : News h₀ L h news) (hk : ∀ b o, b ∉ [I] → h.get? b = some o → h'.get? b = some o) (off : ∀ p ∈ news, p.1 ≠ I) : News h₀ L h' news :=
  fun p hp => ⟨hk _ _ (by simpa using off p hp) (N p hp).1, (N p hp).2⟩
/-- the inner loop -/
theorem inner_loop {σ : Type} {I C D bx : Addr} {oI : Obj} {its : Array Value} {ep : Nat} {v1 : Value} (Led : σ → List (Addr × Obj)) (P : Nat → σ → List Value → Prop) {R : Result → Shared → Prop}
    (hh : A.handled = none) (hkind : scope.kind = .function) (hy : scope.names.lookup y = some .local) (hxy : x ≠ y)
    (hb : ∀ j c ys, P j c ys → (bx, listOf its ep) ∈ Led c) (hsz : ∀ j c ys, P j c ys → ys.length ≤ sizeLine) (hCD : C ≠ D) (hIC : I ≠ C) (hID : I ≠ D)
    (turn : ∀ j c ys v2 I2 oI2 oC m₂ h tk (E' : Value → Shared → Prop), its[j]? = some v2 → P j c ys → LCg.NsObj oC m₂ → m₂ x = some v1 → m₂ y = some v2 → Fr h₀ L h m →
      News h₀ L h ((I2, oI2) :: (I, oI) :: (C, oC) :: (D, LCg.lst ys) :: Led c) → (∀ p ∈ Led c, p.1 ∉ [I2, I, C, D]) → (I2 ≠ I ∧ I2 ≠ C ∧ I2 ≠ D) →
      wpAny (model prog w) A (forIn ifs true fun c r => if r = true then do let ok ← isTrue c (compEnvC scope cl C env) (eval c (compEnvC scope cl C env)); pure (ForInStep.yield ok) else pure (ForInStep.yield r)) (fun ok s₃ =>
        if ok = true then wpAny (model prog w) A (eval elt (compEnvC scope cl C env)) (fun z s₄ => End2 h₀ L m { s with heap := h, toks := tk } [(I2, oI2), (I, oI), (C, oC), (D, LCg.lst ys)] Led [I2, I, C, D] (fun c' => P (j + 1) c' (ys ++ [z])) s₄) E' s₃
        else End2 h₀ L m { s with heap := h, toks := tk } [(I2, oI2), (I, oI), (C, oC), (D, LCg.lst ys)] Led [I2, I, C, D] (fun c' => P (j + 1) c' ys) s₃) E' { s with heap := h, toks := tk })
    {c₀ : σ} {ys₀ : List Value} {oC : Obj} {m₂ : Str → Option Value} (hC : LCg.NsObj oC m₂) (hx1 : m₂ x = some v1) (hp : P 0 c₀ ys₀)
    {h₁ : Heap} {tk₁ : Nat} (F : Fr h₀ L h₁ m) (N : News h₀ L h₁ ((I, oI) :: (C, oC) :: (D, LCg.lst ys₀) :: Led c₀)) (off : ∀ p ∈ Led c₀, p.1 ∉ [I, C, D])
    (done : ∀ c ys oC m₂ h tk, P its.size c ys → LCg.NsObj oC m₂ → Fr h₀ L h m → News h₀ L h ((I, oI) :: (C, oC) :: (D, LCg.lst ys) :: Led c) → (∀ p ∈ Led c, p.1 ∉ [I, C, D]) → R (.ok .next) { s with heap := h, toks := tk }) :
    wpAny (model prog w) A (pyIter (.ref bx)) (fun it' s₄ => codeAny (model prog w) A (.compStart (two elt it1 it2 x y px py ifs scope pos) 1 it' (.ref D) (compEnvC scope cl C env)) R s₄) E { s with heap := h₁, toks := tk₁ } := by
  have hbx := N (bx, _) (.tail _ (.tail _ (.tail _ (hb 0 c₀ ys₀ hp))))
  have hl : h₁.IsList bx its := ⟨_, hbx.1, rfl, _, rfl⟩
  refine wpAny_pyIter_list hl ?_
  have hlt : ∀ p ∈ (I, oI) :: (C, oC) :: (D, LCg.lst ys₀) :: Led c₀, p.1 < h₁.objs.size := fun p hp => Heap.lt_size (N p hp).1
  have hI2L : L ≠ h₁.objs.size := Nat.ne_of_lt F.ns.lt
  have hI2₀ : h₀.get? h₁.objs.size = none := next_is_new F
  have hbxl : bx < h₁.objs.size := Heap.lt_size hbx.1
  generalize hH2 : h₁.push { cls := .type "list_iterator", data := .fields #[.ref bx, .int 0 0] } = H2
  have up : ∀ b o, h₁.get? b = some o → H2.get? b = some o := fun b o e => hH2 ▸ Heap.get?_push_of_some _ e
  have W := Walks.list (prog := prog) (w := w) hh h₁.objs.size bx (Nat.ne_of_lt hbxl) its
  have hst : H2.IsListIter h₁.objs.size bx 0 ∧ H2.IsList bx its := ⟨⟨_, hH2 ▸ Heap.get?_push_size _ rfl, rfl, rfl⟩, ⟨_, up _ _ hbx.1, rfl, _, rfl⟩⟩
  have hCI2 : C ≠ h₁.objs.size := Nat.ne_of_lt (hlt (C, oC) (.tail _ (.head _)))
  have hDI2 : D ≠ h₁.objs.size := Nat.ne_of_lt (hlt (D, _) (.tail _ (.tail _ (.head _))))
  have hII2 : I ≠ h₁.objs.size := Nat.ne_of_lt (hlt (I, oI) (.head _))
  have hCL : C ≠ L := (N (C, oC) (.tail _ (.head _))).2.1
  have hC₀ : h₀.get? C = none := (N (C, oC) (.tail _ (.head _))).2.2
  have hDL : D ≠ L := (N (D, _) (.tail _ (.tail _ (.head _)))).2.1
  have hD₀ : h₀.get? D = none := (N (D, _) (.tail _ (.tail _ (.head _)))).2.2
  have off₀ : ∀ p ∈ Led c₀, p.1 ∉ [h₁.objs.size, I, C, D] := fun p hp hm => by
    rcases List.mem_cons.mp hm with e | hm
    · exact absurd (hlt p (.tail _ (.tail _ (.tail _ hp)))) (by rw [e]; exact Nat.lt_irrefl _)
    · exact off p hp hm
  have loop : ∀ s₃ : Shared, s₃ = { s with heap := H2, toks := tk₁ } → codeAny (model prog w) A (.compLoop (two elt it1 it2 x y px py ifs scope pos) 1 (.ref h₁.objs.size) (.ref D) (compEnvC scope cl C env)) R s₃ := by
    rintro s₃ rfl
    refine code_inner (fun k s' => ∃ h' tk j ys oC m₂ c, s' = { s with heap := h', toks := tk } ∧ j ≤ its.size ∧ k = its.size + 1 - j ∧ (h'.IsListIter h₁.objs.size bx j ∧ h'.IsList bx its) ∧ P j c ys ∧ LCg.NsObj oC m₂ ∧ m₂ x = some v1 ∧ Fr h₀ L h' m ∧
      News h₀ L h' ((I, oI) :: (C, oC) :: (D, LCg.lst ys) :: Led c) ∧ (∀ p ∈ Led c, p.1 ∉ [h₁.objs.size, I, C, D])) ?_ (its.size + 1)
      ⟨H2, tk₁, 0, ys₀, oC, m₂, c₀, rfl, Nat.zero_le _, rfl, hst, hp, hC, hx1, F.keeps up, fun p hp => ⟨up _ _ (N p hp).1, (N p hp).2⟩, off₀⟩
    rintro k s' ⟨h', tk, j, ys, oC, m₂, c, rfl, hj, rfl, hst', hp', hC', hx', F', N', off'⟩
    have offN : ∀ p ∈ (I, oI) :: (C, oC) :: (D, LCg.lst ys) :: Led c, p.1 ≠ h₁.objs.size := fun p hp => by
      rcases List.mem_cons.mp hp with rfl | hp
      · exact hII2
      rcases List.mem_cons.mp hp with rfl | hp
      · exact hCI2
      rcases List.mem_cons.mp hp with rfl | hp
      · exact hDI2
      · exact fun e => off' p hp (by rw [e]; exact .head _)
    by_cases hlt2 : j < its.size
    · refine W.item j _ _ _ hlt2 hst' fun v h₂ tk₂ hPv hst₂ hk₂ => ?_
      have F₂ := fr_but2 F' hk₂ hI2L hI2₀
      have N₂ := news_but2 N' hk₂ offN
      refine wpAny_assign_Name (wpAny_storeName_local (lookup_relabel_local hy) (hC'.ns (N₂ (C, oC) (.tail _ (.head _))).1) (fun h₃ hn₃ hs₃ => ?_) (by simp [compEnvC, relabel, hkind]))
      obtain ⟨oC3, heC3, hoC3⟩ := LCg.ns_obj hn₃
      have F₃ : Fr h₀ L h₃ m := F₂.change hs₃ hCL hC₀
      obtain ⟨oI2, heI2⟩ : ∃ o, h₂.get? h₁.objs.size = some o := by obtain ⟨o, e, _⟩ := hst₂.1; exact ⟨o, e⟩
      have heI3 : h₃.get? h₁.objs.size = some oI2 := hs₃.extBut _ _ (Ne.symm hCI2) heI2
      have N₃ : News h₀ L h₃ ((h₁.objs.size, oI2) :: (I, oI) :: (C, oC3) :: (D, LCg.lst ys) :: Led c) := fun p hp => by
        rcases List.mem_cons.mp hp with rfl | hp
        · exact ⟨heI3, Ne.symm hI2L, hI2₀⟩
        rcases List.mem_cons.mp hp with rfl | hp
        · have z := N₂ (I, oI) (.head _)
          exact ⟨hs₃.extBut _ _ hIC z.1, z.2⟩
        rcases List.mem_cons.mp hp with rfl | hp
        · exact ⟨heC3, hCL, hC₀⟩
        rcases List.mem_cons.mp hp with rfl | hp
        · have z := N₂ (D, LCg.lst ys) (.tail _ (.tail _ (.head _)))
          exact ⟨hs₃.extBut _ _ (Ne.symm hCD) z.1, z.2⟩
        · have z := N₂ p (.tail _ (.tail _ (.tail _ hp)))
          exact ⟨hs₃.extBut _ _ (fun e => off' p hp (by rw [show p.1 = C from e]; simp)) z.1, z.2⟩
      have fin : ∀ (ys' : List Value) (s₅ : Shared) (oD : Obj), oD = LCg.lst ys' → ∀ c' h₅ tk₅, s₅ = { s with heap := h₅, toks := tk₅ } → Fr h₀ L h₅ m → News h₀ L h₅ ((h₁.objs.size, oI2) :: (I, oI) :: (C, oC3) :: (D, oD) :: Led c') → (∀ p ∈ Led c', p.1 ∉ [h₁.objs.size, I, C, D]) → P (j + 1) c' ys' →
          ∃ k', k' < its.size + 1 - j ∧ ∃ h' tk j ys oC m₂ c, s₅ = { s with heap := h', toks := tk } ∧ j ≤ its.size ∧ k' = its.size + 1 - j ∧ (h'.IsListIter h₁.objs.size bx j ∧ h'.IsList bx its) ∧ P j c ys ∧ LCg.NsObj oC m₂ ∧ m₂ x = some v1 ∧ Fr h₀ L h' m ∧
            News h₀ L h' ((I, oI) :: (C, oC) :: (D, LCg.lst ys) :: Led c) ∧ (∀ p ∈ Led c, p.1 ∉ [h₁.objs.size, I, C, D]) := by
        rintro ys' s₅ oD rfl c' h₅ tk₅ rfl F₅ N₅ off₅ hp₅
        refine ⟨its.size + 1 - (j + 1), by omega, h₅, tk₅, j + 1, ys', oC3, _, c', rfl, hlt2, rfl, ⟨?_, ?_⟩, hp₅, hoC3, ?_, F₅, fun p hp => N₅ p (.tail _ hp), off₅⟩
        · obtain ⟨o, e, r⟩ := hst₂.1
          rw [heI2] at e; cases e
          exact ⟨oI2, (N₅ _ (.head _)).1, r⟩
        · exact ⟨_, (N₅ (bx, listOf its ep) (.tail _ (.tail _ (.tail _ (.tail _ (hb _ _ _ hp₅)))))).1, rfl, _, rfl⟩
        · rw [if_neg hxy]; exact hx'
      refine wpAny_mono (turn j c ys v h₁.objs.size oI2 oC3 _ h₃ _ _ hPv hp' hoC3 (by rw [if_neg hxy]; exact hx') (by rw [if_pos rfl]) F₃ N₃ off' ⟨Ne.symm hII2, Ne.symm hCI2, Ne.symm hDI2⟩) (fun ok s₄ hq => ?_) fun _ _ e => e
      cases ok with
      | false =>
        simp only [Bool.false_eq_true, if_false] at hq ⊢
        obtain ⟨c', h₅, tk₅, news', rfl, F₅, N₅, sub, off₅, hp₅⟩ := hq
        exact fin ys _ _ rfl c' h₅ tk₅ rfl F₅ (fun p hp => N₅ p (sub p hp)) off₅ hp₅
      | true =>
        simp only [if_true] at hq ⊢
        refine wpAny_mono hq (fun z s₅ hz => ?_) fun _ _ e => e
        obtain ⟨c', h₅, tk₅, news', rfl, F₅, N₅, sub, off₅, hp₅⟩ := hz
        have N₅' : News h₀ L h₅ ((h₁.objs.size, oI2) :: (I, oI) :: (C, oC3) :: (D, LCg.lst ys) :: Led c') := fun p hp => N₅ p (sub p hp)
        refine append_at (hsz := by show ys.toArray.size ≤ sizeLine; rw [List.size_toArray]; exact hsz _ _ _ hp') (N₅' (D, LCg.lst ys) (.tail _ (.tail _ (.tail _ (.head _))))).1 fun h₆ hs₆ hD₆ => ?_
        refine fin (ys ++ [z]) _ _ rfl c' h₆ tk₅ rfl (F₅.change hs₆ hDL hD₀) (fun p hp => ?_) off₅ hp₅
        rcases List.mem_cons.mp hp with rfl | hp
        · have q := N₅' _ (.head _); exact ⟨hs₆.extBut _ _ (Ne.symm hDI2) q.1, q.2⟩
        rcases List.mem_cons.mp hp with rfl | hp
        · have q := N₅' (I, oI) (.tail _ (.head _)); exact ⟨hs₆.extBut _ _ hID q.1, q.2⟩
        rcases List.mem_cons.mp hp with rfl | hp
        · have q := N₅' (C, oC3) (.tail _ (.tail _ (.head _))); exact ⟨hs₆.extBut _ _ hCD q.1, q.2⟩
        rcases List.mem_cons.mp hp with rfl | hp
        · exact ⟨hD₆.trans (congrArg some (LCg.lst_snoc ys z)), hDL, hD₀⟩
        · have q := N₅' p (.tail _ (.tail _ (.tail _ (.tail _ hp)))); exact ⟨hs₆.extBut _ _ (fun e => off₅ p hp (by rw [show p.1 = D from e]; simp)) q.1, q.2⟩
    · obtain rfl : j = its.size := Nat.le_antisymm hj (Nat.not_lt.mp hlt2)
      refine W.done _ _ _ hst' fun h₂ tk₂ hk₂ => ?_
      exact done c ys oC m₂ h₂ tk₂ hp' hC' (fr_but2 F' hk₂ hI2L hI2₀) (news_but2 N' hk₂ offN) fun p hp hm => off' p hp (.tail _ hm)
  exact code_start (loop _ rfl) (W.self 0 _ _ _ hst (loop _ rfl))
end
end Mine
end
section
theorem Mine.forget_MyC4 : True := by
  w_top off
  trivial
open PySem PySem.W PyProof.Rows PySem.Calls PySem.Spec
set_option maxRecDepth 100000
set_option maxHeartbeats 1000000
namespace Mine
section
variable {prog : Program} {w : World} {A : Around} {E : Value → Shared → Prop} {s : Shared} {h₀ : Heap} {L : Addr} {m : Str → Option Value} {env : Env} {elt it1 it2 : Expr} {x y : Str} {px py : Pos} {ifs : List Expr} {scope : Scope} {cl : List (Str × Addr)} {pos : Pos}
/-- what a comprehension with two clauses asks of its turns -/
structure Turns2 {σ : Type} (prog : Program) (w : World) (A : Around) (h₀ : Heap) (L : Addr) (m : Str → Option Value) (env : Env) (elt it2 : Expr) (x y : Str) (ifs : List Expr) (scope : Scope) (cl : List (Str × Addr)) (s : Shared) (I : Addr) (n : Nat) (Pv : Nat → Value → Prop)
    (Led : σ → List (Addr × Obj)) (P : Nat → σ → List Value → Prop) (P2 : Nat → Nat → σ → List Value → Prop) (bx : Nat → Addr) (its : Nat → Array Value) (ep : Nat → Nat) : Prop where
  src : ∀ i c ys v1 oI C oC D m₂ h tk (Q : Value → Shared → Prop) (E' : Value → Shared → Prop), i < n → Pv i v1 → P i c ys → LCg.NsObj oC m₂ → m₂ x = some v1 → Fr h₀ L h m → News h₀ L h ((I, oI) :: (C, oC) :: (D, LCg.lst ys) :: Led c) →
    (∀ tk', Q (.ref (bx i)) { s with heap := h, toks := tk' }) → wpAny (model prog w) A (eval it2 (compEnvC scope cl C env)) Q E' { s with heap := h, toks := tk }
  go : ∀ i c ys, i < n → P i c ys → P2 i 0 c ys
  back : ∀ i c ys, i < n → P2 i (its i).size c ys → P (i + 1) c ys
  has : ∀ i j c ys, P2 i j c ys → (bx i, listOf (its i) (ep i)) ∈ Led c
  size : ∀ i j c ys, P2 i j c ys → ys.length ≤ sizeLine
  turn : ∀ i v1 j c ys v2 oI C D I2 oI2 oC m₂ h tk (E' : Value → Shared → Prop), i < n → Pv i v1 → (its i)[j]? = some v2 → P2 i j c ys → LCg.NsObj oC m₂ → m₂ x = some v1 → m₂ y = some v2 → Fr h₀ L h m →
      News h₀ L h ((I2, oI2) :: (I, oI) :: (C, oC) :: (D, LCg.lst ys) :: Led c) → (∀ p ∈ Led c, p.1 ∉ [I2, I, C, D]) → (I2 ≠ I ∧ I2 ≠ C ∧ I2 ≠ D) →
      wpAny (model prog w) A (forIn ifs true fun c r => if r = true then do let ok ← isTrue c (compEnvC scope cl C env) (eval c (compEnvC scope cl C env)); pure (ForInStep.yield ok) else pure (ForInStep.yield r)) (fun ok s₃ =>
        if ok = true then wpAny (model prog w) A (eval elt (compEnvC scope cl C env)) (fun z s₄ => End2 h₀ L m { s with heap := h, toks := tk } [(I2, oI2), (I, oI), (C, oC), (D, LCg.lst ys)] Led [I2, I, C, D] (fun c' => P2 i (j + 1) c' (ys ++ [z])) s₄) E' s₃
        else End2 h₀ L m { s with heap := h, toks := tk } [(I2, oI2), (I, oI), (C, oC), (D, LCg.lst ys)] Led [I2, I, C, D] (fun c' => P2 i (j + 1) c' ys) s₃) E' { s with heap := h, toks := tk }
theorem outer_block {σ : Type} {I : Addr} {fp : List Addr} {n : Nat} {Pv : Nat → Value → Prop} {St : Nat → Heap → Prop} {Led : σ → List (Addr × Obj)} {P : Nat → σ → List Value → Prop} {P2 : Nat → Nat → σ → List Value → Prop} {bx : Nat → Addr} {its : Nat → Array Value} {ep : Nat → Nat}
    {RR : Value → Addr → Result → Shared → Prop} {c₀ : σ}
    (W : Walks prog w A I fp [I] n Pv St) (hIo : ∀ i h, St i h → ∃ o, h.get? I = some o) (hh : A.handled = none)
    (hSt : ∀ i h h' o c ys, St i h → h.get? I = some o → h'.get? I = some o → (∀ b o, h₀.get? b = some o → h'.get? b = some o) → News h₀ L h' (Led c) → P i c ys → St i h')
    (hcell : ∀ y ∈ scope.names, y.2 ≠ .cell) (hkind : scope.kind = .function) (hx : scope.names.lookup x = some .local) (hy : scope.names.lookup y = some .local) (hxy : x ≠ y) (hf : ∀ env z, foldedSetIterable it2 env z = pure z)
    (hst : St 0 s.heap) (hfp : ∀ b ∈ fp, b < s.heap.objs.size) (F : Fr h₀ L s.heap m) (N : News h₀ L s.heap (Led c₀)) (hIL : L ≠ I) (hI₀ : h₀.get? I = none) (off : ∀ p ∈ Led c₀, p.1 ≠ I)
    (T : Turns2 prog w A h₀ L m env elt it2 x y ifs scope cl s I n Pv Led P P2 bx its ep) (hp : P 0 c₀ [])
    (hRR : ∀ D C h tk m' ys c, Fr h₀ L h m → News h₀ L h ((D, LCg.lst ys) :: Led c) → (∀ p ∈ Led c, p.1 ≠ D) → h.Ns C m' → h₀.get? C = none → h₀.get? D = none → C ≠ L → D ≠ L → C ≠ D → (∀ p ∈ Led c, p.1 ≠ C) → P n c ys → RR (.ref D) C (.ok .next) { s with heap := h, toks := tk }) :
    wpAny (model prog w) A (newList []) (fun acc s₃ => wpAny (model prog w) A (newFunctionEnv scope env.globals cl [] env.qual none .none (some env)) (fun cenv s₄ =>
      codeAny (model prog w) A (.compStart (two elt it1 it2 x y px py ifs scope pos) 0 (.ref I) acc { cenv with scope := relabel scope env }) (RR acc cenv.locals) s₄) E s₃) E s := by
  refine wpAny_newObj_type (wpAny_newFunctionEnv hcell (by intro y hy; simp at hy) (fun h₁ hns₁ hsb₁ => ?_) hkind)
  dsimp only at hns₁ hsb₁ ⊢
  generalize hH2 : s.heap.push { cls := .type "list", dict := none, data := .seq ([] : List Value).toArray } = H2 at hns₁ hsb₁ ⊢
  have hC : H2.objs.size = s.heap.objs.size + 1 := by rw [← hH2, Heap.size_push]
  have hDC : s.heap.objs.size ≠ H2.objs.size := by rw [hC]; exact Nat.ne_of_lt (Nat.lt_succ_self _)
  have below : ∀ b, b < s.heap.objs.size → b ≠ H2.objs.size ∧ b ≠ s.heap.objs.size := fun b hb => ⟨by rw [hC]; exact Nat.ne_of_lt (Nat.lt_succ_of_lt hb), Nat.ne_of_lt hb⟩
  have hCf : H2.objs.size ∉ fp := fun hm => by have := hfp _ hm; rw [hC] at this; exact Nat.lt_irrefl _ (Nat.lt_of_succ_lt this)
  have hIlt : I < s.heap.objs.size := hfp I (W.sub I (List.mem_singleton.mpr rfl))
  have old : ∀ b o, s.heap.get? b = some o → h₁.get? b = some o := fun b o e => hsb₁.extBut b o (below b (Heap.lt_size e)).1 (Heap.get?_push_of_some _ (hH2 ▸ Heap.get?_push_of_some _ e))
  have hacc : h₁.get? s.heap.objs.size = some (LCg.lst []) := hsb₁.extBut _ _ hDC (Heap.get?_push_of_some _ (hH2 ▸ Heap.get?_push_size _ rfl))
  have hst₁ : St 0 h₁ := W.frame _ _ _ hst fun b _ o e => old b o e
  have fresh : ∀ a, s.heap.objs.size ≤ a → s.heap.get? a = none := fun a ha => by
    cases e : s.heap.get? a with
    | none => rfl
    | some o' => exact absurd (Heap.lt_size e) (Nat.not_lt.mpr ha)
  have fresh₀ : ∀ a, s.heap.objs.size ≤ a → h₀.get? a = none := fun a ha => by
    cases e : h₀.get? a with
    | none => rfl
    | some o' => have := F.keep a o' e; rw [fresh a ha] at this; cases this
  have hD₀ : h₀.get? s.heap.objs.size = none := fresh₀ _ (Nat.le_refl _)
  have hC₀ : h₀.get? H2.objs.size = none := fresh₀ _ (by rw [hC]; exact Nat.le_succ _)
  have hLlt : L < s.heap.objs.size := F.ns.lt
  have hDL : s.heap.objs.size ≠ L := Ne.symm (below L hLlt).2
  have hCL : H2.objs.size ≠ L := Ne.symm (below L hLlt).1
  have hIC : I ≠ H2.objs.size := (below I hIlt).1
  have hID : I ≠ s.heap.objs.size := (below I hIlt).2
  have off₀ : ∀ p ∈ Led c₀, p.1 ∉ [I, H2.objs.size, s.heap.objs.size] := fun p hp hm => by
    have hlt := Heap.lt_size (N p hp).1
    simp only [List.mem_cons, List.not_mem_nil, or_false] at hm
    rcases hm with e | e | e
    · exact off p hp e
    · exact (below _ hlt).1 e
    · exact (below _ hlt).2 e
  have loop : ∀ s₃ : Shared, s₃ = { s with heap := h₁, toks := s.toks + ([] : List (Str × Value)).length } →
      codeAny (model prog w) A (.compLoop (two elt it1 it2 x y px py ifs scope pos) 0 (.ref I) (.ref s.heap.objs.size) (compEnvC scope cl H2.objs.size env)) (RR (.ref s.heap.objs.size) H2.objs.size) s₃ := by
    rintro s₃ rfl
    refine code_outer (fun k s' => ∃ h' tk i ys m' c, s' = { s with heap := h', toks := tk } ∧ i ≤ n ∧ k = n + 1 - i ∧ St i h' ∧ Fr h₀ L h' m ∧ h'.Ns H2.objs.size m' ∧ News h₀ L h' ((s.heap.objs.size, LCg.lst ys) :: Led c) ∧
      (∀ p ∈ Led c, p.1 ∉ [I, H2.objs.size, s.heap.objs.size]) ∧ P i c ys) (hf _) ?_ (n + 1) ⟨h₁, _, 0, [], _, c₀, rfl, Nat.zero_le _, rfl, hst₁, F.keeps old, hns₁, fun p hp => ?_, off₀, hp⟩
    · rintro k s' ⟨h', tk, i, ys, m', c, rfl, hi, rfl, hst', F', hn', N', off', hp'⟩
      have offI : ∀ p ∈ (s.heap.objs.size, LCg.lst ys) :: Led c, p.1 ≠ I := fun p hp => by
        rcases List.mem_cons.mp hp with rfl | hp
        · exact Ne.symm hID
        · exact fun e => off' p hp (by rw [e]; exact .head _)
      by_cases hlt : i < n
      · refine W.item i _ _ _ hlt hst' fun v h₂ tk₂ hPv hst₂ hk₂ => ?_
        refine wpAny_assign_Name (wpAny_storeName_local (lookup_relabel_local hx) (hn'.at' fun o e => hk₂ _ o (by simpa using Ne.symm hIC) e) (fun h₃ hn₃ hs₃ => ?_) (by simp [compEnvC, relabel, hkind]))
        have hst₃ : St (i + 1) h₃ := W.frame _ _ _ hst₂ fun b hb o e => hs₃.extBut b o (fun q => hCf (by have q' : b = H2.objs.size := q; rw [← q']; exact hb)) e
        obtain ⟨oI, heI⟩ := hIo _ _ hst₃
        obtain ⟨oC, heC, hoC⟩ := LCg.ns_obj hn₃
        have F₃ : Fr h₀ L h₃ m := (fr_but2 F' hk₂ hIL hI₀).change hs₃ hCL hC₀
        have N₂ := news_but2 N' hk₂ offI
        have N₃ : News h₀ L h₃ ((I, oI) :: (H2.objs.size, oC) :: (s.heap.objs.size, LCg.lst ys) :: Led c) := fun p hp => by
          rcases List.mem_cons.mp hp with rfl | hp
          · exact ⟨heI, Ne.symm hIL, hI₀⟩
          rcases List.mem_cons.mp hp with rfl | hp
          · exact ⟨heC, hCL, hC₀⟩
          have z := N₂ p hp
          refine ⟨hs₃.extBut _ _ ?_ z.1, z.2⟩
          rcases List.mem_cons.mp hp with rfl | hp
          · exact hDC
          · exact fun e => off' p hp (by rw [show p.1 = H2.objs.size from e]; simp)
        refine T.src i c ys v oI _ oC _ _ h₃ _ _ _ hlt hPv hp' hoC (by rw [if_pos rfl]) F₃ N₃ fun tk₃ => ?_
        refine inner_loop (s := s) (R := fun r s' => match r with | .ok _ => ∃ m_1, m_1 < n + 1 - i ∧ _ | .error e => _) Led (P2 i) hh hkind hy hxy (fun j c ys => T.has i j c ys) (fun j c ys => T.size i j c ys) (Ne.symm hDC) hIC hID
          (fun j c ys v2 I2 oI2 oC m₂ h tk E' h1 h2 h3 h4 h5 h6 h7 h8 h9 => T.turn i v j c ys v2 oI _ _ I2 oI2 oC m₂ h tk E' hlt hPv h1 h2 h3 h4 h5 h6 h7 h8 h9) hoC (by rw [if_pos rfl]) (T.go i c ys hlt hp') F₃ N₃ off' ?_
        intro c' ys' oC' m₂' h₄ tk₄ hp₄ hC₄ F₄ N₄ off₄
        refine ⟨n + 1 - (i + 1), by omega, h₄, tk₄, i + 1, ys', _, c', rfl, hlt, rfl, ?_, F₄, hC₄.ns (N₄ (H2.objs.size, oC') (.tail _ (.head _))).1, fun p hp => N₄ p (.tail _ (.tail _ hp)), off₄, T.back i c' ys' hlt hp₄⟩
        exact hSt _ _ _ _ c' ys' hst₃ heI (N₄ (I, oI) (.head _)).1 F₄.keep (fun p hp => N₄ p (.tail _ (.tail _ (.tail _ hp)))) (T.back i c' ys' hlt hp₄)
      · obtain rfl : i = n := Nat.le_antisymm hi (Nat.not_lt.mp hlt)
        refine W.done _ _ _ hst' fun h₂ tk₂ hk₂ => ?_
        exact hRR _ _ h₂ tk₂ _ ys c (fr_but2 F' hk₂ hIL hI₀) (news_but2 N' hk₂ offI) (fun p hp e => off' p hp (by rw [e]; simp)) (hn'.at' fun o e => hk₂ _ o (by simpa using Ne.symm hIC) e) hC₀ hD₀ hCL hDL (Ne.symm hDC) (fun p hp e => off' p hp (by rw [e]; simp)) hp'
    · rcases List.mem_cons.mp hp with rfl | hp
      · exact ⟨hacc, hDL, hD₀⟩
      · exact ⟨old _ _ (N p hp).1, (N p hp).2⟩
  exact codeAny_compStart_list (loop _ rfl) (W.self 0 _ _ _ hst₁ (loop _ rfl))
end
end Mine
end
section
theorem Mine.forget_MyC5 : True := by
  w_top off
  trivial
open PySem PySem.W PyProof.Rows PySem.Calls PySem.Spec
set_option maxRecDepth 100000
set_option maxHeartbeats 1000000
namespace Mine
theorem off1_of {D : Addr} : ∀ {l : List (Addr × Obj)}, (∀ p ∈ l, p.1 ≠ D) → LCg.Off1 D l
  | [], _ => trivial
  | _ :: _, h => ⟨h _ (.head _), off1_of fun p hp => h p (.tail _ hp)⟩
section
variable {prog : Program} {w : World} {A : Around} {E : Value → Shared → Prop} {s : Shared} {h₀ : Heap} {L : Addr} {m : Str → Option Value} {env : Env} {elt it1 it2 : Expr} {x y : Str} {px py : Pos} {ifs : List Expr} {scope : Scope} {cl : List (Str × Addr)} {pos : Pos}
end
end Mine
end
section
theorem Mine.forget_MyC7 : True := by
  w_top off
  trivial
open PySem PySem.W PyProof.Rows PySem.Calls PySem.Spec
set_option maxRecDepth 100000
set_option maxHeartbeats 1000000
namespace Mine
/-- a range as the outer source of a comprehension with two clauses -/
def Src2R (prog : Program) (w : World) (A : Around) (h₀ : Heap) (L : Addr) (m : Str → Option Value) (env : Env) (elt it2 : Expr) (x y : Str) (ifs : List Expr) (scope : Scope) (cl : List (Str × Addr)) (Fin : Shared → List Value → List (Addr × Obj) → Prop) (xv : Value) (s₁ : Shared) : Prop :=
  ∃ (σ : Type) (r : Addr) (a b : Int) (t u v : Tok) (n : Nat) (Led : σ → List (Addr × Obj)) (P : Nat → σ → List Value → Prop) (P2 : Nat → Nat → σ → List Value → Prop) (bx : Nat → Addr) (its : Nat → Array Value) (ep : Nat → Nat) (c₀ : σ),
    xv = .ref r ∧ A.handled = none ∧ IsRange s₁.heap r a b 1 t u v ∧ Builtin.Range.small a b 1 = true ∧ Builtin.Range.rangeSize a b 1 = (n : Int) ∧ Fr h₀ L s₁.heap m ∧ News h₀ L s₁.heap (Led c₀) ∧ P 0 c₀ [] ∧
    (∀ s₂ I, (∃ h, s₂ = { s₁ with heap := h }) → Turns2 prog w A h₀ L m env elt it2 x y ifs scope cl s₂ I n (fun i v => ∃ t, v = .int (a + (i : Int)) t) Led P P2 bx its ep) ∧
    (∀ s₂ c ys, (∃ h, s₂ = { s₁ with heap := h }) → P n c ys → Fin s₂ ys (Led c))
section
variable {prog : Program} {w : World} {A : Around} {E : Value → Shared → Prop} {s : Shared} {h₀ : Heap} {L : Addr} {m : Str → Option Value} {env : Env} {elt it1 it2 : Expr} {x y : Str} {px py : Pos} {ifs : List Expr} {scope : Scope} {cl : List (Str × Addr)} {pos : Pos}
theorem assign_comp2R {z : Str} {pz : Pos} {spos : Pos} {Q : Flow → Shared → Prop} (F₀ : Fr h₀ L s.heap m) (hLe : env.locals = L)
    (hsw : swapsWith (two elt it1 it2 x y px py ifs scope pos) (some (.Name z pz)) spos.line env = pure true)
    (hclos : closureFor scope env = pure cl) (hcell : ∀ y ∈ scope.names, y.2 ≠ .cell) (hkind : scope.kind = .function)
    (hnames : ∀ y ∈ scope.names, y.2 = .local → scope.names.lookup y.1 = some .local) (hx : scope.names.lookup x = some .local) (hy : scope.names.lookup y = some .local) (hxy : x ≠ y) (hf : ∀ env z, foldedSetIterable it2 env z = pure z)
    (hz : env.kindOf z = some .local) (hpz : (env.scope.kind == .class || (env.scope.kind == .module && env.locals != env.globals)) = false)
    (h : wpAny (model prog w) A (eval it1 env) (Src2R prog w A h₀ L m env elt it2 x y ifs scope cl (fun s₂ => LCg.FinA h₀ L m s₂ z Q)) E s)
    (hs : ∀ x, foldedSetIterable it1 env x = pure x := by intro _; rfl) :
    wpAny (model prog w) A (exec (.Assign [.Name z pz] (two elt it1 it2 x y px py ifs scope pos) spos) env) Q E s := by
  subst hLe
  rw [exec_Assign_Name_used _ _ _ _ hsw]
  refine wpAny_bind (wpAny_standAt (wpAny_bind ?_))
  show wpAny _ A (do let _ ← comprehension (two elt it1 it2 x y px py ifs scope pos) scope env _ (newList []) false (eval it1 env) (some (assign (.Name z pz) env))) _ _ s
  refine wpAny_bind (wpAny_mono (wpAny_comprehension_free (use := some (assign (.Name z pz) env)) (Q := fun _ s' => Q .next s') rfl hs hclos hkind hnames
    (wpAny_mono h (fun xv s₁ h₁ => ?_) fun _ _ e => e)) (fun _ s' hq => wpAny_pure (wpAny_pure hq)) fun _ _ e => e)
  obtain ⟨σ, r, a, b, t, u, v, n, Led, P, P2, bx, its, ep, c₀, rfl, hh, hr, hsm, hrs, F, N, hp, T, fin⟩ := h₁
  refine wpAny_pyIter_range hr hsm ?_
  have up : ∀ b' o, s₁.heap.get? b' = some o → (s₁.heap.push { cls := .type "range_iterator", data := .fields #[rawInt a, rawInt (Builtin.Range.rangeSize a b 1), rawInt 1] }).get? b' = some o := fun b' o e => Heap.get?_push_of_some _ e
  refine outer_block (Led := Led) (P := P) (P2 := P2) (bx := bx) (its := its) (ep := ep) (c₀ := c₀) (LCg.range_walks (I := s₁.heap.objs.size) hh a n) (fun i h st => ⟨_, st⟩) hh
    (fun i h h' o c ys st e e' k Nc _ => LCg.range_st i h h' o (Led c) st e e' k Nc trivial)
    hcell hkind hx hy hxy hf (by show IsRangeIter _ _ _ _ _; rw [hrs]; simpa using Heap.get?_push_size _ rfl) (fun b' hb => ?_) (F.keeps up) (N.grown up) (Nat.ne_of_lt F.ns.lt) (next_is_new F) (fun p hp => Nat.ne_of_lt (Heap.lt_size (N p hp).1)) (T _ _ ⟨_, rfl⟩) hp ?_
  · show b' < (s₁.heap.push _).objs.size
    rw [Heap.size_push]
    rw [List.mem_singleton.mp hb]; exact Nat.lt_succ_self _
  · intro D C h tk m' ys c F' N' o1 hn hC₀ hD₀ hCL hDL hCD offC hpn
    show wpAny _ A (assign (.Name z pz) env (.ref D)) _ _ _
    refine wpAny_assign_Name (wpAny_storeName_local hz F'.ns (fun h₂ hn₂ hs₂ => ?_) hpz)
    have hL₀ : h₀.get? env.locals = none := Heap.get?_none_of_le F'.above
    have F₂ : Fr h₀ env.locals h₂ (fun q => if q = z then some (.ref D) else m q) := ⟨hn₂, fun b o e => hs₂.extBut b o (fun q => by rw [q, hL₀] at e; cases e) (F'.keep b o e), F'.above⟩
    refine ⟨m', hn.sameBut hs₂ hCL, fun h'' hs'' => fin { s₁ with heap := s₁.heap.push { cls := .type "range_iterator", data := .fields #[rawInt a, rawInt (Builtin.Range.rangeSize a b 1), rawInt 1] } } c ys ⟨_, rfl⟩ hpn D h'' _ (F₂.change hs'' hCL hC₀) (fun p hp => ?_) (off1_of o1)⟩
    have q : h₂.get? p.1 = some p.2 := hs₂.extBut _ _ (N' p hp).2.1 (N' p hp).1
    refine ⟨hs''.extBut _ _ ?_ q, (N' p hp).2⟩
    rcases List.mem_cons.mp hp with rfl | hp
    · exact Ne.symm hCD
    · exact offC p hp
/-- a test is false, the ledger stands -/
def NoEnd (s : Shared) (h₀ : Heap) (L : Addr) (m : Str → Option Value) (N : List (Addr × Obj)) (b : Bool) (s₄ : Shared) : Prop := b = false ∧ ∃ h' tk', s₄ = { s with heap := h', toks := tk' } ∧ Fr h₀ L h' m ∧ News h₀ L h' N
theorem NoEnd.made {s : Shared} {h₀ h' : Heap} {L : Addr} {m : Str → Option Value} {N : List (Addr × Obj)} {tk' : Nat} (F : Fr h₀ L h' m) (hN : News h₀ L h' N) : NoEnd s h₀ L m N false { s with heap := h', toks := tk' } := ⟨rfl, h', tk', rfl, F, hN⟩
theorem src2R_none {ct : Expr} {N : List (Addr × Obj)} {r : Addr} {a b : Int} {t u v : Tok} {n : Nat} {bx : Nat → Addr} {its : Nat → List Value} {ep : Nat → Nat} {Fin : Shared → List Value → List (Addr × Obj) → Prop} {s₁ : Shared} (hh : A.handled = none) (F : Fr h₀ L s₁.heap m) (hN : News h₀ L s₁.heap N)
    (hr : IsRange s₁.heap r a b 1 t u v) (hsm : Builtin.Range.small a b 1 = true) (hn : Builtin.Range.rangeSize a b 1 = (n : Int)) (hb : ∀ i, i < n → (bx i, listOf (its i).toArray (ep i)) ∈ N)
    (src : ∀ (g : Heap) (i : Nat) t I oI C oC D m₂ h tk (Q : Value → Shared → Prop) (E' : Value → Shared → Prop), i < n → LCg.NsObj oC m₂ → m₂ x = some (.int (a + (i : Int)) t) → Fr h₀ L h m → News h₀ L h ((I, oI) :: (C, oC) :: (D, LCg.lst []) :: N) →
      (∀ tk', Q (.ref (bx i)) { { s₁ with heap := g } with heap := h, toks := tk' }) → wpAny (model prog w) A (eval it2 (compEnvC scope cl C env)) Q E' { { s₁ with heap := g } with heap := h, toks := tk })
    (turn : ∀ (g : Heap) (i j : Nat) t v2 I oI C D I2 oI2 oC m₂ h tk (E' : Value → Shared → Prop), i < n → (its i)[j]? = some v2 → LCg.NsObj oC m₂ → m₂ x = some (.int (a + (i : Int)) t) → m₂ y = some v2 → Fr h₀ L h m → News h₀ L h ((I2, oI2) :: (I, oI) :: (C, oC) :: (D, LCg.lst []) :: N) →
      wpAny (model prog w) A (isTrue ct (compEnvC scope cl C env) (eval ct (compEnvC scope cl C env))) (NoEnd { s₁ with heap := g } h₀ L m ((I2, oI2) :: (I, oI) :: (C, oC) :: (D, LCg.lst []) :: N)) E' { { s₁ with heap := g } with heap := h, toks := tk })
    (fin : ∀ g, Fin { s₁ with heap := g } [] N) :
    Src2R prog w A h₀ L m env elt it2 x y [ct] scope cl Fin (.ref r) s₁ := by
  refine ⟨Unit, r, a, b, t, u, v, n, fun _ => N, fun _ _ ys => ys = [], fun i _ _ ys => ys = [] ∧ i < n, bx, fun i => (its i).toArray, ep, (), rfl, hh, hr, hsm, hn, F, hN, rfl, fun s₂ I hg => ?_, fun s₂ c ys hg hp => ?_⟩
  · obtain ⟨g, rfl⟩ := hg
    exact {
      src := fun i c ys v1 oI C oC D m₂ h tk Q E' hi hv hp hC hx F N' hq => by
        obtain ⟨t', rfl⟩ := hv
        subst hp
        exact src g i t' I oI C oC D m₂ h tk Q E' hi hC hx F N' hq
      go := fun i c ys hi hp => ⟨hp, hi⟩
      back := fun i c ys hi hp => hp.1
      has := fun i j c ys hp => hb i hp.2
      size := fun i j c ys hp => by rw [hp.1]; exact Nat.zero_le _
      turn := fun i v1 j c ys v2 oI C D I2 oI2 oC m₂ h tk E' hi hv1 hv2 hp hC hx hy F N' off ne => by
        obtain ⟨t', rfl⟩ := hv1
        obtain ⟨rfl, _⟩ := hp
        refine wpAny_tests_one (wpAny_mono (turn g i j t' v2 I oI C D I2 oI2 oC m₂ h tk E' hi (by simpa using hv2) hC hx hy F N') (fun ok s₃ hz => ?_) fun _ _ e => e)
        obtain ⟨rfl, h', tk', rfl, F', N''⟩ := hz
        rw [if_neg (by decide)]
        exact ⟨(), h', tk', _, rfl, F', N'', fun p hp => hp, off, rfl, hi⟩ }
  · obtain ⟨g, rfl⟩ := hg
    subst hp
    exact fin g
end
end Mine
end
section
theorem Mine.forget_MyCk : True := by
  w_top off
  trivial
open PySem PySem.W PyProof.Rows PySem.Calls PySem.Spec
set_option maxRecDepth 100000
set_option maxHeartbeats 1000000
namespace Mine
section
variable {prog : Program} {w : World} {A : Around} {E : Value → Shared → Prop} {s : Shared} {h₀ : Heap} {L : Addr} {m : Str → Option Value} {env : Env} {ct elt iter : Expr} {x : Str} {px : Pos} {scope : Scope} {cl : List (Str × Addr)} {pos : Pos}
abbrev dictO : Obj := { cls := .type "dict", data := .dict #[] }
abbrev cellO (v : Option Value) : Obj := { cls := .type "cell", data := .cell v }
/-- a comprehension's own frame, its name a cell -/
theorem newEnv_cell {Q : Env → Shared → Prop} (hcells : ∀ n, cellsFrom n scope.names cl = (x, n) :: cl) (hpush : ∀ h, pushCells h scope.names = h.push (cellO none))
    (hQ : Q { scope := scope, locals := s.heap.objs.size, globals := env.globals, cells := (x, s.heap.objs.size + 1) :: cl, qual := env.qual, func := none, code := env.code, frame := env.frame, builtins := env.builtins }
      { s with heap := (s.heap.push dictO).push (cellO none) }) :
    wpAny (model prog w) A (newFunctionEnv scope env.globals cl [] env.qual none .none (some env)) Q E s := by
  simp only [newFunctionEnv, Option.isSome_some, if_true]
  refine wpAny_bind (wpAny_alloc ?_)
  refine wpAny_bind (wpAny_layCells _ (fun name kind cells => by cases hkc : kind == NameKind.cell <;> simp [hkc]) _ _ _ _ ?_)
  refine wpAny_bind ?_
  rw [List.forIn_nil]
  refine wpAny_pure (wpAny_pure ?_)
  rw [hcells, hpush]
  dsimp only
  rw [Heap.size_push]
  exact hQ
/-- a turn of such a comprehension over a range -/
def TurnK (prog : Program) (w : World) (A : Around) (h₀ : Heap) (L : Addr) (m : Str → Option Value) (env : Env) (ct elt : Expr) (x : Str) (scope : Scope) (cl : List (Str × Addr)) {σ : Type} (Led : σ → List (Addr × Obj)) (P : Nat → σ → List Value → Prop) (a : Int) (n : Nat) (s : Shared) : Prop :=
  ∀ i c ys t I oI C oC K oK D h tk m₂ (E' : Value → Shared → Prop), i < n → P i c ys → LCg.NsObj oC m₂ → oK.data = .cell (some (.int (a + (i : Int)) t)) → Fr h₀ L h m →
    News h₀ L h ((I, oI) :: (C, oC) :: (K, oK) :: (D, LCg.lst ys) :: Led c) → (∀ p ∈ Led c, p.1 ∉ [I, C, K, D]) →
    wpAny (model prog w) A (isTrue ct (compEnvC scope ((x, K) :: cl) C env) (eval ct (compEnvC scope ((x, K) :: cl) C env))) (fun ok s' => if ok = true then
      wpAny (model prog w) A (eval elt (compEnvC scope ((x, K) :: cl) C env)) (fun y s'' => End2 h₀ L m { s with heap := h, toks := tk } [(I, oI), (C, oC), (K, oK), (D, LCg.lst ys)] Led [I, C, K, D] (fun c' => P (i + 1) c' (ys ++ [y])) s'') E' s'
      else End2 h₀ L m { s with heap := h, toks := tk } [(I, oI), (C, oC), (K, oK), (D, LCg.lst ys)] Led [I, C, K, D] (fun c' => P (i + 1) c' ys) s') E' { s with heap := h, toks := tk }
def SrcK (prog : Program) (w : World) (A : Around) (h₀ : Heap) (L : Addr) (m : Str → Option Value) (env : Env) (ct elt : Expr) (x : Str) (scope : Scope) (cl : List (Str × Addr)) (Q : Value → Shared → Prop) (xv : Value) (s₁ : Shared) : Prop :=
  ∃ (σ : Type) (Led : σ → List (Addr × Obj)) (P : Nat → σ → List Value → Prop) (c₀ : σ) (r : Addr) (a b : Int) (t u v : Tok) (n : Nat), xv = .ref r ∧ A.handled = none ∧ Fr h₀ L s₁.heap m ∧ News h₀ L s₁.heap (Led c₀) ∧ IsRange s₁.heap r a b 1 t u v ∧ Builtin.Range.small a b 1 = true ∧ Builtin.Range.rangeSize a b 1 = ((n : Nat) : Int) ∧ n ≤ sizeLine ∧ P 0 c₀ [] ∧
    TurnK prog w A h₀ L m env ct elt x scope cl Led P a n s₁ ∧
    ∀ c ys D h tk, P n c ys → Fr h₀ L h m → News h₀ L h ((D, LCg.lst ys) :: Led c) → (∀ p ∈ Led c, p.1 ≠ D) → Q (.ref D) { s₁ with heap := h, toks := tk }
theorem comp_cell {Q : Value → Shared → Prop} (_F₀ : Fr h₀ L s.heap m) (hclos : closureFor scope env = pure cl) (hkind : scope.kind = .function)
    (hnames : ∀ y ∈ scope.names, y.2 = .local → scope.names.lookup y.1 = some .local) (hcells : ∀ n, cellsFrom n scope.names cl = (x, n) :: cl) (hpush : ∀ h, pushCells h scope.names = h.push (cellO none))
    (hxk : ∀ K C, (compEnvC scope ((x, K) :: cl) C env).kindOf x = some .cell)
    (h : wpAny (model prog w) A (eval iter env) (SrcK prog w A h₀ L m env ct elt x scope cl Q) E s)
    (hs : ∀ x, foldedSetIterable iter env x = pure x := by intro _; rfl) :
    wpAny (model prog w) A (eval (.ListComp elt [⟨.Name x px, iter, [ct], 0⟩] scope pos) env) Q E s := by
  rw [eval_ListComp]
  refine wpAny_comprehension_free (use := none) rfl hs hclos hkind hnames (wpAny_mono h (fun xv s₁ h₁ => ?_) fun _ _ e => e)
  obtain ⟨σ, Led, P, c₀, r, a, b, t, u, v, n, rfl, hh, F, N, hr, hsm, hn, hsz, hP, turn, fin⟩ := h₁
  refine wpAny_pyIter_range hr hsm ?_
  generalize hI : s₁.heap.objs.size = I
  generalize hH1 : s₁.heap.push _ = H1
  have up1 : ∀ b o, s₁.heap.get? b = some o → H1.get? b = some o := fun b o e => hH1 ▸ Heap.get?_push_of_some _ e
  have sz1 : H1.objs.size = I + 1 := by rw [← hH1, Heap.size_push, hI]
  have W := LCg.range_walks (prog := prog) (w := w) (I := I) hh a n
  have st0 : IsRangeIter H1 I (a + (0 : Nat) * 1) ((n : Int) - (0 : Nat)) 1 := by
    show IsRangeIter _ _ _ _ _
    rw [← hH1, ← hI, hn]; simpa using Heap.get?_push_size _ rfl
  have hIL : L ≠ I := by rw [← hI]; exact Nat.ne_of_lt F.ns.lt
  have hI₀ : h₀.get? I = none := by rw [← hI]; exact next_is_new F
  have hNlt : ∀ p ∈ Led c₀, @LT.lt Nat _ p.1 I := fun p hp => by rw [← hI]; exact Heap.lt_size (N p hp).1
  have hLlt : @LT.lt Nat _ L I := by rw [← hI]; exact F.ns.lt
  refine wpAny_newObj_type (newEnv_cell hcells hpush ?_)
  dsimp only
  generalize hH2 : H1.push { cls := .type "list", dict := none, data := .seq ([] : List Value).toArray } = H2
  have sz2 : H2.objs.size = I + 2 := by rw [← hH2, Heap.size_push, sz1]
  rw [sz1, sz2]
  generalize hH3 : H2.push dictO = H3
  have sz3 : H3.objs.size = I + 3 := by rw [← hH3, Heap.size_push, sz2]
  generalize hH4 : H3.push (cellO none) = H4
  have up : ∀ b o, H1.get? b = some o → H4.get? b = some o := fun b o e => by
    rw [← hH4, ← hH3, ← hH2]
    exact Heap.get?_push_of_some _ (Heap.get?_push_of_some _ (Heap.get?_push_of_some _ e))
  have gD : H4.get? (I + 1) = some (LCg.lst []) := by
    rw [← hH4, ← hH3]
    refine Heap.get?_push_of_some _ (Heap.get?_push_of_some _ ?_)
    have e := Heap.get?_push_size H1 (o := LCg.lst []) rfl
    rw [sz1] at e
    rw [← hH2]
    exact e
  have gC : H4.Ns (I + 2) (fun _ => none) := by
    have e := Heap.Ns.new H2 (.type "dict")
    rw [sz2] at e
    rw [← hH4, ← hH3]
    exact e.keeps fun b o e => Heap.get?_push_of_some _ e
  have gK : H4.get? (I + 3) = some (cellO none) := by
    have e := Heap.get?_push_size H3 (o := cellO none) rfl
    rw [sz3] at e
    rw [← hH4]
    exact e
  have fresh₀ : ∀ q, I ≤ q → h₀.get? q = none := fun q hq => by
    cases e : h₀.get? q with
    | none => rfl
    | some o' =>
      have h1 := Heap.lt_size (F.keep q o' e)
      rw [hI] at h1
      exact absurd h1 (Nat.not_lt.mpr hq)
  have hDI : I + 1 ≠ I := by (first | lia | omega)
  have hne : ∀ (c : σ), (∀ p ∈ Led c, p.1 ∉ [I, I + 2, I + 3, I + 1]) → ∀ p ∈ Led c, p.1 ≠ I ∧ p.1 ≠ I + 2 ∧ p.1 ≠ I + 3 ∧ p.1 ≠ I + 1 := fun c h p hp => by
    have := h p hp
    simp only [List.mem_cons, List.not_mem_nil, or_false, not_or] at this
    exact this
  have loop : ∀ s₃ : Shared, s₃ = { s₁ with heap := H4 } →
      codeAny (model prog w) A (.compLoop (.ListComp elt [⟨.Name x px, iter, [ct], 0⟩] scope pos) 0 (.ref I) (.ref (I + 1)) (compEnvC scope ((x, I + 3) :: cl) (I + 2) env))
        (compPost (model prog w) A E none Q (.ref (I + 1)) (I + 2)) s₃ := by
    rintro s₃ rfl
    refine codeAny_compLoop_tests
      (fun k s' => ∃ h' tk i ys m' c oK kv, s' = { s₁ with heap := h', toks := tk } ∧ i ≤ n ∧ k = n + 1 - i ∧ ys.length ≤ i ∧ IsRangeIter h' I (a + (i : Nat) * 1) ((n : Int) - (i : Nat)) 1 ∧ Fr h₀ L h' m ∧ h'.Ns (I + 2) m' ∧ oK.data = .cell kv ∧ News h₀ L h' ((I + 3, oK) :: (I + 1, LCg.lst ys) :: Led c) ∧
        (∀ p ∈ Led c, p.1 ∉ [I, I + 2, I + 3, I + 1]) ∧ P i c ys) ?_ (n + 1)
      ⟨H4, _, 0, [], _, c₀, cellO none, none, rfl, Nat.zero_le _, rfl, Nat.le_refl _, W.frame _ _ _ st0 (fun b _ o e => up b o e), F.keeps fun b o e => up b o (up1 b o e), gC, rfl, ?_, ?_, hP⟩
    · rintro k s' ⟨h', tk, i, ys, m', c, oK, kv, rfl, hi, rfl, hyl, hst', F', hn', hoK, N', off', hP'⟩
      have off2 := hne c off'
      by_cases hlt : i < n
      · refine W.item i _ _ _ hlt hst' fun v h₂ tk₂ hPv hst₂ hk₂ => ?_
        obtain ⟨tv, rfl⟩ := hPv
        have F₂ := fr_but2 F' hk₂ hIL hI₀
        have N₂ : News h₀ L h₂ ((I + 3, oK) :: (I + 1, LCg.lst ys) :: Led c) := news_but2 N' hk₂ fun p hp => by
          rcases List.mem_cons.mp hp with rfl | hp
          · exact Nat.ne_of_gt (by (first | lia | omega))
          rcases List.mem_cons.mp hp with rfl | hp
          · exact Nat.ne_of_gt (by (first | lia | omega))
          · exact (off2 p hp).1
        have hn₂ : h₂.Ns (I + 2) m' := hn'.at' fun o e => hk₂ _ o (by simp) e
        refine wpAny_assign_Name (wpAny_storeName_cell (v₀ := kv) (c := I + 3) (by simp [compEnvC, relabel, hkind]) (hxk _ _) (by simp [compEnvC]) ⟨_, (N₂ _ (.head _)).1, hoK⟩ (fun h₃ hc₃ hs₃ => ?_))
        refine wpAny_tests_one ?_
        obtain ⟨oK3, heK3, hoK3⟩ := hc₃
        have hKL : I + 3 ≠ L := (N₂ _ (.head _)).2.1
        have hst₃ : IsRangeIter h₃ I (a + ((i + 1 : Nat) : Nat) * 1) ((n : Int) - ((i + 1 : Nat) : Nat)) 1 := W.frame _ _ _ hst₂ fun b hb o e => hs₃.extBut b o (by rw [List.mem_singleton.mp hb]; exact Nat.ne_of_lt (by (first | lia | omega))) e
        have F₃ : Fr h₀ L h₃ m := F₂.change hs₃ hKL (fresh₀ _ (by (first | lia | omega)))
        have hn₃ : h₃.Ns (I + 2) m' := hn₂.sameBut hs₃ (Nat.ne_of_lt (by (first | lia | omega)))
        obtain ⟨oC, heC, hoC⟩ := LCg.ns_obj hn₃
        obtain ⟨oI, heI⟩ : ∃ o, h₃.get? I = some o := ⟨_, hst₃⟩
        have N₃ : News h₀ L h₃ ((I, oI) :: (I + 2, oC) :: (I + 3, oK3) :: (I + 1, LCg.lst ys) :: Led c) := fun p hp => by
          rcases List.mem_cons.mp hp with rfl | hp
          · exact ⟨heI, Ne.symm hIL, hI₀⟩
          rcases List.mem_cons.mp hp with rfl | hp
          · exact ⟨heC, Nat.ne_of_gt (by (first | lia | omega)), fresh₀ _ (by (first | lia | omega))⟩
          rcases List.mem_cons.mp hp with rfl | hp
          · exact ⟨heK3, hKL, fresh₀ _ (by (first | lia | omega))⟩
          have z := N₂ p (.tail _ hp)
          refine ⟨hs₃.extBut _ _ ?_ z.1, z.2⟩
          rcases List.mem_cons.mp hp with rfl | hp
          · exact Nat.ne_of_lt (by (first | lia | omega))
          · exact (off2 p hp).2.2.1
        have fin2 : ∀ (ys' : List Value) (s₅ : Shared), ys'.length ≤ i + 1 → ∀ c' h₅ tk₅, s₅ = { s₁ with heap := h₅, toks := tk₅ } → Fr h₀ L h₅ m → News h₀ L h₅ ((I, oI) :: (I + 2, oC) :: (I + 3, oK3) :: (I + 1, LCg.lst ys') :: Led c') → (∀ p ∈ Led c', p.1 ∉ [I, I + 2, I + 3, I + 1]) → P (i + 1) c' ys' →
            ∃ k', k' < n + 1 - i ∧ ∃ h' tk i ys m' c oK kv, s₅ = { s₁ with heap := h', toks := tk } ∧ i ≤ n ∧ k' = n + 1 - i ∧ ys.length ≤ i ∧ IsRangeIter h' I (a + (i : Nat) * 1) ((n : Int) - (i : Nat)) 1 ∧ Fr h₀ L h' m ∧ h'.Ns (I + 2) m' ∧ oK.data = .cell kv ∧ News h₀ L h' ((I + 3, oK) :: (I + 1, LCg.lst ys) :: Led c) ∧
              (∀ p ∈ Led c, p.1 ∉ [I, I + 2, I + 3, I + 1]) ∧ P i c ys := by
          rintro ys' s₅ hyl' c' h₅ tk₅ rfl F₅ N₅ off₅ hp₅
          refine ⟨n + 1 - (i + 1), by (first | lia | omega), h₅, tk₅, i + 1, ys', _, c', oK3, _, rfl, hlt, rfl, hyl', ?_, F₅, hoC.ns (N₅ _ (.tail _ (.head _))).1, hoK3, fun p hp => N₅ p (.tail _ (.tail _ hp)), off₅, hp₅⟩
          have e1 := (N₅ _ (.head _)).1
          have e2 : h₃.get? I = some _ := hst₃
          rw [heI] at e2
          show h₅.get? I = some _
          rw [e1, e2]
        refine wpAny_mono (turn i c ys tv I oI (I + 2) oC (I + 3) oK3 (I + 1) h₃ _ _ _ hlt hP' hoC hoK3 F₃ N₃ off') (fun ok s₄ hq => ?_) fun _ _ e => e
        cases ok with
        | false =>
          simp only [Bool.false_eq_true, if_false] at hq ⊢
          obtain ⟨c', h₅, tk₅, news', rfl, F₅, N₅, sub, off₅, hp₅⟩ := hq
          exact fin2 ys _ (Nat.le_succ_of_le hyl) c' h₅ tk₅ rfl F₅ (fun p hp => N₅ p (sub p hp)) off₅ hp₅
        | true =>
          simp only [if_true] at hq ⊢
          refine wpAny_mono hq (fun z s₅ hz => ?_) fun _ _ e => e
          obtain ⟨c', h₅, tk₅, news', rfl, F₅, N₅, sub, off₅, hp₅⟩ := hz
          have N₅' : News h₀ L h₅ ((I, oI) :: (I + 2, oC) :: (I + 3, oK3) :: (I + 1, LCg.lst ys) :: Led c') := fun p hp => N₅ p (sub p hp)
          refine append_at (hsz := by show ys.toArray.size ≤ sizeLine; rw [List.size_toArray]; (first | lia | omega)) (N₅' (I + 1, LCg.lst ys) (.tail _ (.tail _ (.tail _ (.head _))))).1 fun h₆ hs₆ hD₆ => ?_
          have hDL : I + 1 ≠ L := (N₅' (I + 1, LCg.lst ys) (.tail _ (.tail _ (.tail _ (.head _))))).2.1
          have off5 := hne c' off₅
          refine fin2 (ys ++ [z]) _ (by rw [List.length_append, List.length_singleton]; (first | lia | omega)) c' h₆ tk₅ rfl (F₅.change hs₆ hDL (fresh₀ _ (by (first | lia | omega)))) (fun p hp => ?_) off₅ hp₅
          rcases List.mem_cons.mp hp with rfl | hp
          · have q := N₅' _ (.head _); exact ⟨hs₆.extBut _ _ (Nat.ne_of_lt (by (first | lia | omega))) q.1, q.2⟩
          rcases List.mem_cons.mp hp with rfl | hp
          · have q := N₅' _ (.tail _ (.head _)); exact ⟨hs₆.extBut _ _ (Nat.ne_of_gt (by (first | lia | omega))) q.1, q.2⟩
          rcases List.mem_cons.mp hp with rfl | hp
          · have q := N₅' _ (.tail _ (.tail _ (.head _))); exact ⟨hs₆.extBut _ _ (Nat.ne_of_gt (by (first | lia | omega))) q.1, q.2⟩
          rcases List.mem_cons.mp hp with rfl | hp
          · exact ⟨hD₆.trans (congrArg some (LCg.lst_snoc ys z)), hDL, fresh₀ _ (by (first | lia | omega))⟩
          · have q := N₅' p (.tail _ (.tail _ (.tail _ (.tail _ hp)))); exact ⟨hs₆.extBut _ _ (off5 p hp).2.2.2 q.1, q.2⟩
      · obtain rfl : i = n := Nat.le_antisymm hi (Nat.not_lt.mp hlt)
        refine W.done _ _ _ hst' fun h₂ tk₂ hk₂ => ?_
        have hn₂ : h₂.Ns (I + 2) m' := hn'.at' fun o e => hk₂ _ o (by simp) e
        refine ⟨m', hn₂, fun h₃ hs₃ => ?_⟩
        have F₂ := fr_but2 F' hk₂ hIL hI₀
        have N₂ : News h₀ L h₂ ((I + 1, LCg.lst ys) :: Led c) := news_but2 (fun p hp => N' p (.tail _ hp)) hk₂ fun p hp => by
          rcases List.mem_cons.mp hp with rfl | hp
          · exact Nat.ne_of_gt (by (first | lia | omega))
          · exact (off2 p hp).1
        refine fin c ys (I + 1) h₃ tk₂ hP' (F₂.change hs₃ (Nat.ne_of_gt (by (first | lia | omega))) (fresh₀ _ (by (first | lia | omega)))) (fun p hp => ?_) fun p hp => (off2 p hp).2.2.2
        refine ⟨hs₃.extBut _ _ ?_ (N₂ p hp).1, (N₂ p hp).2⟩
        rcases List.mem_cons.mp hp with rfl | hp
        · exact Nat.ne_of_lt (by (first | lia | omega))
        · exact (off2 p hp).2.1
    · intro p hp
      rcases List.mem_cons.mp hp with rfl | hp
      · exact ⟨gK, Nat.ne_of_gt (by (first | lia | omega)), fresh₀ _ (by (first | lia | omega))⟩
      rcases List.mem_cons.mp hp with rfl | hp
      · exact ⟨gD, Nat.ne_of_gt (by (first | lia | omega)), fresh₀ _ (by (first | lia | omega))⟩
      · exact ⟨up _ _ (up1 _ _ (N p hp).1), (N p hp).2⟩
    · intro p hp
      have := hNlt p hp
      simp only [List.mem_cons, List.not_mem_nil, or_false, not_or]
      exact ⟨Nat.ne_of_lt this, Nat.ne_of_lt (by (first | lia | omega)), Nat.ne_of_lt (by (first | lia | omega)), Nat.ne_of_lt (by (first | lia | omega))⟩
  refine codeAny_compStart_list (loop _ rfl) (W.self 0 _ _ _ (W.frame _ _ _ st0 (fun b _ o e => up b o e)) (loop _ rfl))
end
section
variable {prog : Program} {w : World} {A : Around} {h₀ : Heap} {L : Addr} {m : Str → Option Value} {env : Env} {ct elt : Expr} {x : Str} {scope : Scope} {cl : List (Str × Addr)} {s : Shared} {S : List (Addr × Obj) → Prop} {Pv : Nat → Value → Prop} {Fin : List Value → List (Addr × Obj) → Prop}
theorem comp_allT {σ : Type} (Led : σ → List (Addr × Obj)) (P : Nat → σ → List Value → Prop) {n : Nat} (c₀ : σ) (hp : P 0 c₀ [])
    (turn : ∀ i c ys v I oI C oC D m₂ h tk (E' : Value → Shared → Prop), i < n → P i c ys → Pv i v → LCg.NsObj oC m₂ → m₂ x = some v → Fr h₀ L h m → News h₀ L h ((I, oI) :: (C, oC) :: (D, LCg.lst ys) :: Led c) → LCg.Off3 I C D (Led c) → ((@Ne Nat I C) ∧ (@Ne Nat I D) ∧ (@Ne Nat C D)) →
      wpAny (model prog w) A (isTrue ct (compEnvC scope cl C env) (eval ct (compEnvC scope cl C env))) (fun ok s' => if ok = true then
        wpAny (model prog w) A (eval elt (compEnvC scope cl C env)) (LCg.CompEnd h₀ L m { s with heap := h, toks := tk } I oI C oC D (LCg.lst ys) S (fun y news' => ∃ c', news' = Led c' ∧ P (i + 1) c' (ys ++ [y]))) E' s'
        else LCg.CompEnd h₀ L m { s with heap := h, toks := tk } I oI C oC D (LCg.lst ys) S (fun _ news' => ∃ c', news' = Led c' ∧ P (i + 1) c' ys) Value.none s') E' { s with heap := h, toks := tk })
    (fin : ∀ c ys, P n c ys → Fin ys (Led c)) : LCt.CompRestT prog w A h₀ L m env ct elt x scope cl s S Pv Fin n 0 [] (Led c₀) := by
  have key : ∀ (k i : Nat) (c : σ) (ys : List Value), i + k = n → P i c ys → LCt.CompRestT prog w A h₀ L m env ct elt x scope cl s S Pv Fin k i ys (Led c) := by
    intro k
    induction k with
    | zero =>
      intro i c ys hi hp
      have : i = n := by (first | lia | omega)
      subst this
      exact LCt.CompRestT.zero (fin c ys hp)
    | succ k ih =>
      intro i c ys hi hp
      refine LCt.CompRestT.succ ?_
      intro v I oI C oC D m₂ h tk E' hv hC hx F N off ne
      refine wpAny_mono (turn i c ys v I oI C oC D m₂ h tk E' (by (first | lia | omega)) hp hv hC hx F N off ne) (fun ok s₂ hq => ?_) fun _ _ e => e
      cases ok with
      | true =>
        simp only [if_true] at hq ⊢
        refine wpAny_mono hq (fun y s₃ hy => ?_) fun _ _ e => e
        obtain ⟨h', tk', nw, e, F', N', off', hS, c', rfl, hp'⟩ := hy
        exact ⟨h', tk', _, e, F', N', off', hS, ih (i + 1) c' _ (by (first | lia | omega)) hp'⟩
      | false =>
        simp only [Bool.false_eq_true, if_false] at hq ⊢
        obtain ⟨h', tk', nw, e, F', N', off', hS, c', rfl, hp'⟩ := hq
        exact ⟨h', tk', _, e, F', N', off', hS, ih (i + 1) c' _ (by (first | lia | omega)) hp'⟩
  exact key n 0 c₀ [] (by (first | lia | omega)) hp
end
end Mine
end
section
theorem Mine.forget_Cm2 : True := by
  w_top off
  trivial
local macro_rules | `(tactic| walk_at "no such key 0") => `(tactic| fail)
open PySem PySem.W PyProof.Rows PySem.Calls PySem.Spec
set_option maxRecDepth 100000
set_option maxHeartbeats 4000000
namespace Mine
theorem modV {prog : Program} {w : World} {A : Around} {E : Value → Shared → Prop} {s : Shared} {a b : Int} {t u : Tok} {Q : Value → Shared → Prop} (hb : 0 < b) (h : ∀ t', Q (.int (a.fmod b) t') { s with toks := s.toks + 1 }) :
    wpAny (model prog w) A (binaryOp .Mod (.int a t) (.int b u)) Q E s := mod_int' (by (first | lia | omega)) (h _)
local macro_rules | `(tactic| k_all) => `(tactic| first | assumption | exact allLt_ne (by assumption) (by (first | lia | omega)))
local macro_rules | `(tactic| k_room) => `(tactic| ktr_room)
local macro_rules | `(tactic| k_units) => `(tactic| ktr_units)
local macro_rules | `(tactic| walk_at "eval ListComp") => `(tactic| (refine Held.out ?_))
local macro_rules | `(tactic| walk_at "CompSrcT") => `(tactic| (refine Held.out ?_))
local macro_rules | `(tactic| walk_at "CompEnd") => `(tactic| (refine Held.out ?_))
local macro_rules | `(tactic| walk_at "binaryOp Mod int int") => `(tactic| (refine Held.out ?_))
local macro_rules | `(tactic| walk_at "compareOp Eq ref ref") => `(tactic| (refine Held.out ?_))
theorem common_ctr (w : World) (p : Program) (loose : List Str) (mean : ExcName → Option Value) (mg mb : Str → Option Value) (Xt : Heap → Prop) (news : List (Addr × Obj)) (sL : Addr) (vs : List Value) (ep : Nat) (a b c : Int) :
   Ctr (PySem.Challenge.rw_pe0114_02).row.prog w (hd.heap_39 w.params) p loose mean mg mb Xt 142 12 ((sL, listOf vs.toArray ep) :: news) (IntsAre vs [a, b, c] ∧ 1 ≤ a ∧ a ≤ 8 ∧ 1 ≤ b ∧ b ≤ 8 ∧ 1 ≤ c ∧ c ≤ 8) [.ref sL]
     (fun v nw => (∃ r t, v = .int r t ∧ CommonIs a b c r) ∧ nw = (sL, listOf vs.toArray ep) :: news) := by
  k_fill
  dsimp only [Ctr]
  intros
  rename_i hXt _ _ _ _ _ _ hpre _ _ hret
  obtain ⟨hI, ha1, ha2, hb1, hb2, hc1, hc2⟩ := hpre
  k_dflt (refine' code_defC ?k1 ?k2 ?k3 ?k4 ?k5 ?kA ?kF ?kK ?k6 ?k7 ?k8 ?k9 ?kB ?kD ?_ ?c2 ?c3 ?c4; (case kA => exact rfl); (case kF => exact rfl); (case kK => assumption); (case k1 => k_asm); (case k2 => k_asm); (case k3 => k_asm); (case k4 => k_asm); (case k5 => k_asm); (case k6 => k_is); (case k7 => k_is); (case k8 => ktr_room); (case k9 => exact BindsTo.of_eq rfl); (case kB => exact rfl); (case kD => decide +kernel); (case c2 => exact rfl); (case c3 => exact rfl); (case c4 => exact rfl); k_whole; intro g' L' h' tk' cells' FG' F' N' Y' B' X' T' l1; (try k_lt l1); k_cells Y'; (try simp only [List.cons_append, List.nil_append] at N'); (try dsimp only); (try k_lift B'); (try k_fold))
  (rename Obj => cO); (rename cO.data = _ => hcO)
  replace hcO : cO.data = .cell (some (.ref sL)) := hcO
  k_steps
  · (rename News _ _ _ _ => nX)
    exact hret _ _ _ _ ⟨⟨0, _, rfl, .inl ⟨by (first | lia | omega), by (first | lia | omega), rfl⟩⟩, rfl⟩ (by k_asm) (fun p hp => nX p (by simp only [List.mem_cons] at hp ⊢; simp only [hp, or_true]))
  refine Held.put ?_
  (rename Fr _ _ _ _ => fX)
  refine comp_cell fX (by with_unfolding_all rfl) (by rfl) (by decide) (fun _ => rfl) (fun _ => rfl) (fun _ _ => rfl) ?_

  k_steps
  (rename News _ _ _ _ => nX); (rename Fr _ _ _ _ => fY)
  refine ⟨Unit, fun _ => (L' + 1, cO) :: (sL, listOf vs.toArray ep) :: news, fun i _ ys => IntsAre ys (((List.range i).map (fun k : Nat => 1 + (k : Int))).filter (goodK [a, b, c])), (), _, _, _, _, _, _, 7, rfl, rfl, fY, by exact nX, by assumption, small_one (by (first | lia | omega)) (by (first | lia | omega)) (by (first | lia | omega)) (by (first | lia | omega)), rangeSize_nat _ _, by rw [PySem.sizeLine_eq]; decide, .nil, ?turn, ?fin⟩
  case turn =>
    clear nX fY
    intro i _ ys t I oI C oC K oK D h tk m₂ E' hi hP hC hoK F' N' off
    have hk1 : 1 ≤ 1 + (i : Int) ∧ 1 + (i : Int) ≤ 7 := by (first | lia | omega)
    obtain ⟨kk, hkk⟩ := ex_eq2 (1 + (i : Int))
    rw [hkk] at hoK hk1
    obtain ⟨hk2, hk3⟩ := hk1
    have hoff : ∀ p ∈ (L' + 1, cO) :: (sL, listOf vs.toArray ep) :: news, p.1 ≠ I ∧ p.1 ≠ C ∧ p.1 ≠ K ∧ p.1 ≠ D := fun p hp => by
      have := off p hp
      simp only [List.mem_cons, List.not_mem_nil, or_false, not_or] at this
      exact this
    k_steps
    refine Held.put ?_
    k_dflt (refine LCt.ListComp_T (F₀ := by k_asm) (by with_unfolding_all rfl) (by decide) (by rfl) (by decide) (by rfl) ?_)
    k_steps
    refine Held.put ?_
    (rename News _ _ _ _ => nX); (rename Fr _ _ _ _ => fX)
    refine LCt.CompSrcT.ledger rfl fX nX (by k_mem) (by rw [List.size_toArray, ints_len hI, PySem.sizeLine_eq]; show 3 ≤ _; decide) fun g1 => ?_
    refine comp_allT (σ := Unit) (fun _ => _) (fun j _ ys => IntsAre ys (([a, b, c].take j).filter fun m => decide ((m - a).fmod kk ≠ 0))) () .nil ?turn2 ?fin2
    case turn2 =>
      clear nX fX
      intro j _ ys2 v I2 oI2 C2 oC2 D2 m3 h tk E2 hj hP2 hv hC2 hx F' N' off2 ne
      have hv' : vs[j]? = some v := by simpa using hv
      obtain ⟨z, tz, hz, rfl⟩ := ints_at hI hv'
      have hzb : 1 ≤ z ∧ z ≤ 8 := by
        have hm := List.mem_of_getElem? hz
        simp only [List.mem_cons, List.not_mem_nil, or_false] at hm
        (first | lia | omega)
      obtain ⟨hz1, hz2⟩ := hzb
      k_steps
      refine Held.put ?_
      have e0 : ([a, b, c].getD (Int.toNat 0) 0) = a := rfl
      rw [e0]
      refine modV (by (first | lia | omega)) ?_
      intro t7
      have htk : [a, b, c].take (j + 1) = [a, b, c].take j ++ [z] := by rw [List.take_add_one, hz]; rfl
      k_steps
      · refine Held.put ?_
        (rename News _ _ _ _ => nX); (rename Fr _ _ _ _ => fX); (rename _ ≠ _ => hne)
        refine LCg.CompEnd.intro fX nX _ (fun p hp => hp) off2 (.inr ⟨_, by k_mem, rfl, _, rfl⟩) ⟨(), rfl, ?_⟩
        rw [htk, List.filter_append, List.filter_cons, if_pos (decide_eq_true hne)]
        exact ints_snoc hP2
      · refine Held.put ?_
        (rename News _ _ _ _ => nX); (rename Fr _ _ _ _ => fX); (rename _ = _ => heq)
        refine LCg.CompEnd.intro fX nX _ (fun p hp => hp) off2 (.inr ⟨_, by k_mem, rfl, _, rfl⟩) ⟨(), rfl, ?_⟩
        rw [htk, List.filter_append, List.filter_cons, if_neg (by simp [heq]), List.filter_nil, List.append_nil]
        exact hP2
    case fin2 =>
      clear nX fX
      intro _ ys2 hP2
      replace hP2 : IntsAre ys2 ([a, b, c].filter fun m => decide ((m - a).fmod kk ≠ 0)) := by
        have e : vs.toArray.size = [a, b, c].length := by rw [List.size_toArray]; exact ints_len hI
        rw [e, List.take_length] at hP2; exact hP2
      have hkp : ∀ _ : Unit, IntsAre ys2 ([a, b, c].filter fun m => decide ((m - a).fmod kk ≠ 0)) := fun _ => hP2
      k_steps
      refine Held.put ?_
      (rename News _ _ _ _ => nX)
      refine ke_eq_ints (nX.isList (by k_mem)) (nX.isList (by k_mem)) (hkp ()) .nil (by ktr_units) ?_
      have hsub : ∀ p ∈ [(I, oI), (C, oC), (K, oK), (D, LCg.lst ys)] ++ ((L' + 1, cO) :: (sL, listOf vs.toArray ep) :: news), p ∈ (I, oI) :: (C, oC) :: (K, oK) :: (D, LCg.lst ys) :: (L' + 1, cO) :: (sL, listOf vs.toArray ep) :: news := fun p hp => hp
      have hrg : (List.range (i + 1)).map (fun k : Nat => 1 + (k : Int)) = (List.range i).map (fun k : Nat => 1 + (k : Int)) ++ [kk] := by rw [List.range_succ, List.map_append, ← hkk]; rfl
      have hgk : goodK [a, b, c] kk = (([a, b, c].filter fun m => decide ((m - a).fmod kk ≠ 0)) == []) := rfl
      cases hbb : decide (([a, b, c].filter fun m => decide ((m - a).fmod kk ≠ 0)) = []) with
      | true =>
        iterate 1 walk1
        rw [if_pos rfl]
        (rename Fr _ _ _ _ => fX)
        refine wpAny_Name (wpAny_loadName_cell (by rfl) (by rfl) (by rfl) ⟨_, (nX (K, oK) (by k_mem)).1, hoK⟩ ?_)
        refine ⟨(), _, _, _, rfl, fX, nX, fun p hp => ?_, off, ?_⟩
        · have := hsub p hp
          simp only [List.mem_cons] at this ⊢
          simp only [this, or_true]
        · rw [hrg, List.filter_append, List.filter_cons, if_pos (by rw [hgk, of_decide_eq_true hbb]; rfl)]
          exact ints_snoc hP
      | false =>
        iterate 1 walk1
        rw [if_neg (by decide)]
        (rename Fr _ _ _ _ => fX)
        refine ⟨(), _, _, _, rfl, fX, nX, fun p hp => ?_, off, ?_⟩
        · have := hsub p hp
          simp only [List.mem_cons] at this ⊢
          simp only [this, or_true]
        · rw [hrg, List.filter_append, List.filter_cons, if_neg ?_, List.filter_nil, List.append_nil]
          · exact hP
          · rw [hgk]
            intro e
            exact of_decide_eq_false hbb (eq_of_beq e)
  case fin =>
    clear nX fY
    intro _ ys D h tk hP F' N' off
    (rename ¬ _ => hne)
    have hnn : ¬ (a = b ∧ b = c) := by (first | lia | omega)
    k_steps
    (rename News _ _ _ _ => nX); (rename Fr _ _ _ _ => fX)
    refine kso_max fX nX (nX.isList (by k_mem)) (ns := goodsK [a, b, c]) hP (goods_one a b c) rfl ?_
    clear nX fX
    intro h9 M t9 tk9 F9 N9 hM1 hM2
    k_steps
    (rename News _ _ _ _ => nX)
    exact hret _ _ _ _ ⟨⟨M, t9, rfl, .inr ⟨hnn, hM1, hM2⟩⟩, rfl⟩ (by k_asm) (fun p hp => nX p (by simp only [List.mem_cons] at hp ⊢; simp only [hp, or_true]))
end Mine
end
section
theorem Mine.forget_Lw2 : True := by
  w_top off
  trivial
open PySem PySem.W PyProof.Rows PySem.Calls PySem.Spec
set_option maxRecDepth 100000
set_option maxHeartbeats 200000000
namespace Mine
/-- where it stands in the context remainders are told by % -/
structure HoldMod : Prop where
/-- where it stands in the context products of texts are held -/
structure HoldMul : Prop where
theorem draws_five (ns : List Int) : ∃ a b c d e, (List.map (fun k' : Int => k'.fmod 30) (List.take 5 ns) ++ List.drop ((List.take 5 ns).length : Int).toNat [2, 10, 24, 9, 2]) = [a, b, c, d, e] ∧ ∀ z ∈ [a, b, c, d, e], 0 ≤ z ∧ z < 30 := by
  have m : ∀ x : Int, 0 ≤ x.fmod 30 ∧ x.fmod 30 < 30 := fun x => by rw [Int.fmod_eq_emod_of_nonneg _ (by decide)]; (first | lia | omega)
  have fin : ∀ l : List Int, (∀ z ∈ l, 0 ≤ z ∧ z < 30) → l.length = 5 → ∃ a b c d e, l = [a, b, c, d, e] ∧ ∀ z ∈ [a, b, c, d, e], 0 ≤ z ∧ z < 30 := by
    intro l h hl
    match l, hl with
    | [a, b, c, d, e], _ => exact ⟨a, b, c, d, e, rfl, h⟩
  refine fin _ ?_ ?_
  · intro z hz
    rcases List.mem_append.mp hz with hz | hz
    · obtain ⟨x, _, rfl⟩ := List.mem_map.mp hz; exact m x
    · have := List.mem_of_mem_drop hz
      simp only [List.mem_cons, List.not_mem_nil, or_false] at this
      rcases this with rfl | rfl | rfl | rfl | rfl <;> decide
  · simp; (first | lia | omega)
theorem draws_of5 {ws : List Value} {ns : List Int} (h : IntsAre ws (List.map (fun k' : Int => k'.fmod 30) (List.take 5 ns) ++ List.drop ((List.take 5 ns).length : Int).toNat [2, 10, 24, 9, 2])) : ∃ a b c d e ta tb tc td te, ws = [.int a ta, .int b tb, .int c tc, .int d td, .int e te] ∧ ∀ z ∈ [a, b, c, d, e], 0 ≤ z ∧ z < 30 := by
  obtain ⟨a, b, c, d, e, eq, r⟩ := draws_five ns
  rw [eq] at h
  cases h with
  | cons _ ta h => cases h with
    | cons _ tb h => cases h with
      | cons _ tc h => cases h with
        | cons _ td h => cases h with
          | cons _ te h => cases h; exact ⟨a, b, c, d, e, ta, tb, tc, td, te, rfl, r⟩
def wdZ (z : Int) : Wd := (decide (z / 5 % 2 = 1), (1 + z % 5).toNat, [])
def eolZ (z : Int) : Nat := (z / 10).toNat
def rowZ (z : Int) : List Nat := (wdZ z).body ++ eolL (eolZ z)
theorem words_of {d0 d1 d2 d3 d4 : Int} {n : Nat} (hn : n = 3 ∨ n = 4) (h : ∀ z ∈ [d0, d1, d2, d3, d4], 0 ≤ z ∧ z < 30) : ∃ zs, List.take (min ((n : Int) + 1).toNat [d0, d1, d2, d3, d4].length - 1) (List.drop 1 [d0, d1, d2, d3, d4]) = zs ∧ zs.length = n ∧ ∀ z ∈ zs, 0 ≤ z ∧ z < 30 := by
  refine ⟨_, rfl, ?_, fun z hz => h z (List.mem_of_mem_drop (List.mem_of_mem_take hz))⟩
  rcases hn with rfl | rfl <;> rfl
def sizeN (hp : Nat) (z : Int) : Nat := ((wdZ z).sent hp).2.1
theorem size_g {hp : Nat} {z : Int} (h0 : 0 ≤ z) (h : z / 5 % 2 ≠ 0) : (1 + z % 5 + 0 : Int) = sizeN hp z := by
  have e : decide (z / 5 % 2 = 1) = true := decide_eq_true (by (first | lia | omega))
  unfold sizeN Wd.sent grow wdZ
  rw [e]
  dsimp only
  rw [if_pos (.inl rfl)]
  (first | lia | omega)
theorem size_n {hp : Nat} {z : Int} (h0 : 0 ≤ z) (h : z / 5 % 2 = 0) : (1 + z % 5 + hp : Int) = sizeN hp z := by
  have e : decide (z / 5 % 2 = 1) = false := decide_eq_false (by (first | lia | omega))
  unfold sizeN Wd.sent grow wdZ
  rw [e]
  dsimp only
  rw [if_neg (fun z => z.elim (by simp) (fun z => by (first | lia | omega)))]
  (first | lia | omega)
theorem ints_snocE {x y : Int} {t : Tok} {vs : List Value} {ys : List Int} (e : x = y) (h : IntsAre vs ys) : IntsAre (vs ++ [.int x t]) (ys ++ [y]) := by subst e; exact ints_snoc h
theorem strs_values : ∀ {ys : List Value} {ss : List Str}, StrsAre ys ss → ∃ l : List (Str × Tok), ys = strValues l ∧ l.map (·.1) = ss
  | _, _, .nil => ⟨[], rfl, rfl⟩
  | _, _, .cons y t r => by
    obtain ⟨l, e1, e2⟩ := strs_values r
    exact ⟨(y, t) :: l, by rw [e1]; rfl, by rw [← e2]; rfl⟩
theorem cat_rows {l : List (Str × Tok)} {zs : List Int} (h : l.map (·.1) = zs.map fun z => (⟨(rowZ z).toArray⟩ : Str)) : cat l = rowsT (zs.map fun z => ((wdZ z).body, eolZ z)) := by
  have e : cat l = ((l.map (·.1)).map lst).flatten := by unfold cat; rw [List.map_map]; rfl
  rw [e, h, List.map_map]
  unfold rowsT
  rw [List.flatMap_map]
  show (zs.map _).flatten = (zs.map fun z => rowZ z).flatten
  congr 1
theorem wp_joinE {prog : Program} {w : World} {A : Around} {E : Value → Shared → Prop} {s : Shared} {x : Str} {D : Addr} {l : List (Str × Tok)} {t : Tok} {e : Nat} {Q : Value → Shared → Prop} (hx : x = ⟨#[]⟩) (hD : s.heap.get? D = some { cls := .type "list", data := .seq (strValues l).toArray e }) (hl : (cat l).length ≤ sizeLine)
    (h : ∀ tv k', Q (.str ⟨(cat l).toArray⟩ tv) { s with toks := k' }) : wpAny (model prog w) A (call (.builtin "str.join") [.str x t, .ref D]) Q E s := by
  subst hx; exact wp_join hD hl h
theorem rowZ_len {z : Int} (h0 : 0 ≤ z) : (rowZ z).length ≤ 8 := by
  have h1 := body_len (wdZ z)
  have h2 : (eolL (eolZ z)).length ≤ 2 := by unfold eolL; split <;> simp
  unfold rowZ
  rw [List.length_append]
  have h3 : (wdZ z).2.1 ≤ 5 := by unfold wdZ; dsimp only; (first | lia | omega)
  have h4 : (wdZ z).2.2.length = 0 := rfl
  (first | lia | omega)
theorem text_len {zs : List Int} (h : ∀ z ∈ zs, 0 ≤ z) : (rowsT (zs.map fun z => ((wdZ z).body, eolZ z))).length ≤ 8 * zs.length := by
  induction zs with
  | nil => exact Nat.zero_le _
  | cons z zs ih =>
    have h1 := rowZ_len (h z (.head _))
    have h2 := ih fun y hy => h y (.tail _ hy)
    rw [List.map_cons, rowsT_cons, ← List.append_assoc, List.length_append, List.length_cons]
    have h3 : ((wdZ z).body ++ eolL (eolZ z)).length ≤ 8 := h1
    (first | lia | omega)
theorem wdZ_ok {z : Int} (h0 : 0 ≤ z) : (wdZ z).ok := by
  refine ⟨fun c hc => by simp [wdZ] at hc, fun e => ?_⟩
  unfold wdZ at e; dsimp only at e; (first | lia | omega)
theorem quotN_eq (n : Nat) (l : List Nat) : quotN n l = quotMN n l := by
  induction n with
  | zero => rfl
  | succ n ih => rw [quotN, quotMN, ih]; rfl
/-- the words as they are sent -/
def wdsN (hp : Nat) (zs : List Int) : List Wd := zs.map fun z => (wdZ z).sent hp
theorem sent_text {hp : Nat} {zs : List Int} (h1 : 1 ≤ hp) (h : ∀ z ∈ zs, 0 ≤ z) : quotN hp (lst ⟨(rowsT (zs.map fun z => ((wdZ z).body, eolZ z))).toArray⟩) = rowsC ((wdsN hp zs).map Wd.body) := by
  obtain ⟨k, rfl⟩ : ∃ k, hp = k + 1 := ⟨hp - 1, by (first | lia | omega)⟩
  rw [lst_mk, quotN_eq]
  have := quotN_rows (ws := zs.map fun z => (wdZ z, eolZ z)) (fun w hw => by obtain ⟨z, hz, rfl⟩ := List.mem_map.mp hw; exact wdZ_ok (h z hz)) k
  rw [List.map_map, List.map_map] at this
  rw [wdsN, List.map_map]
  exact this
theorem sent_len {hp n : Nat} {zs : List Int} (h3 : hp ≤ 3) (hl : zs.length = n) (hn : n = 3 ∨ n = 4) (hz : ∀ z ∈ zs, 0 ≤ z ∧ z < 30) : (rowsC ((wdsN hp zs).map Wd.body)).length ≤ 1000 := by
  have h := rowsC_len ((wdsN hp zs).map Wd.body) 9 (fun b hb => by
    obtain ⟨w, hw, rfl⟩ := List.mem_map.mp hb
    obtain ⟨z, hzm, rfl⟩ := List.mem_map.mp hw
    have h1 := body_len ((wdZ z).sent hp)
    have h2 := hz z hzm
    have h4 : ((wdZ z).sent hp).2.1 ≤ (wdZ z).2.1 + hp := grow_le _ _ _
    have h5 : (wdZ z).2.1 ≤ 5 := by unfold wdZ; dsimp only; (first | lia | omega)
    have h6 : ((wdZ z).sent hp).2.2.length = 0 := rfl
    (first | lia | omega))
  have e : (wdsN hp zs).length = n := by rw [wdsN, List.length_map, hl]
  rw [List.length_map, e] at h
  rcases hn with rfl | rfl <;> (first | lia | omega)
theorem led_ne {x : Lx} (h : x.Ord) (h1 : @LT.lt Nat _ x.cTx x.c1) (h2 : @LT.lt Nat _ x.cTx x.c2) {d : Nat} (hd : @LT.lt Nat _ d x.cTx) : @Ne Nat x.rd d ∧ @Ne Nat x.c1 d ∧ @Ne Nat x.atL d ∧ @Ne Nat x.cAt d ∧ @Ne Nat x.cTx d ∧ @Ne Nat x.pbL d ∧ @Ne Nat x.lx d ∧ @Ne Nat x.dx d ∧ @Ne Nat x.sd d ∧ @Ne Nat x.st d ∧ @Ne Nat x.c2 d := by
  obtain ⟨a1, a2, a3, a4, a5, a6, a7, a8, a9, a10⟩ := h
  have b1 := Nat.lt_trans hd a1
  have b2 := Nat.lt_trans b1 a2
  have b3 := Nat.lt_trans b2 a3
  have b5 := Nat.lt_trans b3 a5
  have b7 := Nat.lt_trans b5 a7
  have b8 := Nat.lt_trans b7 a8
  have b9 := Nat.lt_trans b8 a9
  have b10 := Nat.lt_trans b9 a10
  exact ⟨Nat.ne_of_gt b3, Nat.ne_of_gt (Nat.lt_trans hd h1), Nat.ne_of_gt b2, Nat.ne_of_gt b1, Nat.ne_of_gt hd, Nat.ne_of_gt b10, Nat.ne_of_gt b9, Nat.ne_of_gt b8, Nat.ne_of_gt b7, Nat.ne_of_gt b5, Nat.ne_of_gt (Nat.lt_trans hd h2)⟩
theorem off3_led {I C D : Addr} {K : Addr} {x : Lx} {y y' : Ls} {rest : List (Addr × Obj)} (h : LCg.Off3 I C D (x.led K y ++ rest)) : LCg.Off3 I C D (x.led K y' ++ rest) := by
  have h2 := h.mem
  exact LCg.Off3.of fun p hp => ⟨led_adr (y := y) (fun p hp => (h2 p hp).1) p hp, led_adr (y := y) (fun p hp => (h2 p hp).2.1) p hp, led_adr (y := y) (fun p hp => (h2 p hp).2.2) p hp⟩
theorem tok_dots (hp : Nat) (zs : List Int) : ((wdsN hp zs).map fun w => (⟨w.tok.toArray⟩ : Str)) = zs.map fun z => dotS (sizeN hp z) := by
  unfold wdsN
  rw [List.map_map]
  apply List.map_congr_left
  intro z _
  show (⟨(List.replicate (sizeN hp z) 46 ++ []).toArray⟩ : Str) = _
  rw [List.append_nil]; rfl
theorem tokL_len (ws : List Wd) : (tokL ws).length = ws.length + 1 := by unfold tokL; simp
theorem dots_ok {n : Nat} : PyData.strOk (dotS n) = true := by
  unfold PyData.strOk dotS
  rw [Array.all_eq_true']
  intro x hx
  have := List.eq_of_mem_replicate (List.mem_toArray.mp hx)
  subst this; decide
theorem toks_ok {hp : Nat} {zs : List Int} : ∀ y ∈ tokL (wdsN hp zs), PyData.strOk y = true := by
  rw [tokL_eq, tok_dots]
  intro y hy
  rcases List.mem_append.mp hy with hy | hy
  · obtain ⟨z, _, rfl⟩ := List.mem_map.mp hy; exact dots_ok
  · rw [List.mem_singleton.mp hy]; exact dots_ok (n := 0)
theorem mul_dots {m : Nat} {i : Int} (h : i = m) : Txt.mul (Str.ofString ".") i = dotS m := by
  refine str_ext ?_
  rw [lst_mul1 (c := 46) (by decide +kernel), lst_dotS, h]; simp
theorem sizeN_bd {hp : Nat} {z : Int} (h0 : 0 ≤ z ∧ z < 30) (h3 : hp ≤ 3) : 1 ≤ sizeN hp z ∧ sizeN hp z ≤ 8 := by
  have h1 : sizeN hp z ≤ (wdZ z).2.1 + hp := grow_le _ _ _
  have h2 : (wdZ z).2.1 ≤ 5 := by unfold wdZ; dsimp only; (first | lia | omega)
  have h4 : 1 ≤ (wdZ z).2.1 := by unfold wdZ; dsimp only; (first | lia | omega)
  have h5 : (wdZ z).2.1 ≤ sizeN hp z := by unfold sizeN Wd.sent grow; dsimp only; split <;> (first | lia | omega)
  (first | lia | omega)
theorem pick_take (vs : List Value) (n : Nat) : (slicePick vs.toArray none (some (n : Int)) none).toList = vs.take n := by
  have e : sliceBounds none (some (n : Int)) none vs.toArray.size = (((0 : Nat) : Int), ((min n vs.toArray.size : Nat) : Int), 1) := by
    simp only [sliceBounds, Option.getD_none, show (1 : Int) > 0 by decide, if_true, if_neg (show ¬ ((n : Int) < 0) by (first | lia | omega))]
    congr 1
    congr 1
    (first | lia | omega)
  rw [kmk_pick_nat _ e]
  show (vs.drop 0).take (min n vs.toArray.size - 0) = _
  rw [List.drop_zero, Nat.sub_zero, List.size_toArray, kmk_take_min]
theorem strs_take {vs : List Value} {ys : List Str} (h : StrsAre vs ys) : ∀ n : Nat, StrsAre (vs.take n) (ys.take n) := by
  induction h with
  | nil => intro n; rw [List.take_nil, List.take_nil]; exact .nil
  | cons y t r ih =>
    intro n
    cases n with
    | zero => exact .nil
    | succ n => exact .cons y t (ih n)
theorem sort3 {g : Nat} {ss : List Str} (hp : ss.Perm [dotS 0, dotS g, dotS g]) (hs : sortedS ss = true) : ss = [dotS 0, dotS g, dotS g] := by
  by_cases hg : g = 0
  · subst hg
    exact List.perm_replicate.mp (show ss.Perm (List.replicate 3 (dotS 0)) from hp)
  have hne : dotS 0 ≠ dotS g := fun e => by
    have := congrArg Str.length e
    rw [len_dotS, len_dotS] at this; (first | lia | omega)
  have hc := hp.count_eq (dotS 0)
  have hl := hp.length_eq
  have hlt : ltCps (dotS 0).cps.toList (dotS g).cps.toList = true := by
    obtain ⟨k, rfl⟩ : ∃ k, g = k + 1 := ⟨g - 1, by (first | lia | omega)⟩
    unfold dotS
    rw [List.replicate_zero, List.replicate_succ]; rfl
  match ss, hl with
  | [p, q, r], _ =>
    have mem : ∀ y ∈ [p, q, r], y = dotS 0 ∨ y = dotS g := fun y hy => by
      have := hp.mem_iff.mp hy
      simp only [List.mem_cons, List.not_mem_nil, or_false] at this
      rcases this with h | h | h
      · exact .inl h
      · exact .inr h
      · exact .inr h
    have h1 : (!ltCps q.cps.toList p.cps.toList && (!ltCps r.cps.toList q.cps.toList && true)) = true := hs
    simp only [List.count_cons, List.count_nil, beq_iff_eq] at hc
    rcases mem p (by simp) with rfl | rfl <;> rcases mem q (by simp) with rfl | rfl <;> rcases mem r (by simp) with rfl | rfl <;> simp [hne, hne.symm, hlt] at hc h1 ⊢
theorem three_of {zs : List Int} (h : zs.length = 3) : ∃ a b c, zs = [a, b, c] := by
  match zs, h with
  | [a, b, c], _ => exact ⟨a, b, c, rfl⟩
theorem strs_three {us : List Value} {a b c : Str} (h : StrsAre us [a, b, c]) : ∃ t u v, us = [.str a t, .str b u, .str c v] := by
  cases h with
  | cons _ t h => cases h with
    | cons _ u h => cases h with
      | cons _ v h => cases h; exact ⟨t, u, v, rfl⟩
theorem strs_snocE {x y : Str} {t : Tok} {vs : List Value} {ys : List Str} (e : x = y) (h : StrsAre vs ys) : StrsAre (vs ++ [.str x t]) (ys ++ [y]) := by subst e; exact strs_snoc h
theorem lst_bs : lst (Str.ofString "\\") = [92] := by decide +kernel
theorem lst_em : lst (Str.ofString "") = [] := by decide +kernel
theorem lst_nl : lst (Str.ofString "\n") = [10] := by decide +kernel
theorem lst_cr : lst (Str.ofString "\r") = [13] := by decide +kernel
theorem lst_cl : lst (Str.ofString "\r\n") = [13, 10] := by decide +kernel
theorem row_close {z : Int} {X A B : Str} {g : Bool} {e : Nat} (hg : decide (z / 5 % 2 = 1) = g) (he : z / 10 = (e : Int)) (hX : X = A ++ Txt.mul (Str.ofString ".") (1 + z % 5) ++ B) (hA : lst A = if g then [92] else []) (hB : lst B = eolL e) : X = ⟨(rowZ z).toArray⟩ := by
  subst hX
  refine str_ext ?_
  rw [lst_append, lst_append, lst_mul1 (c := 46) (by decide +kernel), hA, hB, lst_mk]
  unfold rowZ eolZ Wd.body wdZ bodyL
  rw [hg, he]
  simp [escd, List.append_assoc]
local macro_rules | `(tactic| k_all) => `(tactic| first | assumption | exact allLt_ne (by assumption) (by omega))
local macro_rules | `(tactic| k_room) => `(tactic| ktr_room)
local macro_rules | `(tactic| k_units) => `(tactic| ktr_units)
local macro_rules | `(tactic| walk_at "call builtin:len") => `(tactic| ((rename News _ _ _ _ => nX); (rename IntsAre _ _ => iX); k_dflt (refine len_ints nX (by k_mem) iX (by omega) ?_); intro t' k'))
local macro_rules | `(tactic| walk_at "subscriptTail List cons Slice ref ref") => `(tactic| (k_dflt (refine' slice_tmp ?xF ?xN ?xl ?xi ?x0 ?_ ?xs ?xz; (case xF => k_asm); (case xN => k_asm); (case xl => kmk_list); (case xi => exact (.cons _ _ (.cons _ _ (.cons _ _ (.cons _ _ (.cons _ _ .nil)))))); (case x0 => exact Int.natCast_nonneg _); (case xs => with_unfolding_all rfl); (case xz => kmk_size)); intro D2' ws2' h2' F2' N2' l2' hI2'; (try k_lt l2')))
local macro_rules | `(tactic| walk_at "subscriptTail Name Constant ref int") => `(tactic| ((fail_if_success (rename HoldOff => hx)); refine Held.out ?_))
theorem len_dotsN {prog : Program} {w : World} {A : Around} {E : Value → Shared → Prop} {s : Shared} {m : Nat} {t : Tok} {Q : Value → Shared → Prop} (hm : m ≤ 1000) (h : ∀ t' k', Q (.int (m : Int) t') { s with toks := k' }) : wpAny (model prog w) A (call (.builtin "len") [.str (dotS m) t]) Q E s :=
  len_str (by rw [len_dotS]; omega) (by rw [len_dotS]; exact h _ _)
theorem powC {prog : Program} {w : World} {A : Around} {E : Value → Shared → Prop} {s : Shared} {n V : Int} {t u : Tok} {Q : Value → Shared → Prop} (hn : 0 ≤ n) (hn2 : n ≤ 9) (hV : (2 : Int) ^ n.toNat = V) (h : ∀ t', Q (.int V t') { s with toks := s.toks + 1 }) :
    wpAny (model prog w) A (binaryOp .Pow (.int 2 t) (.int n u)) Q E s := by
  subst hV
  exact pow_int_small hn (by omega) (by decide) (h _)
local macro_rules | `(tactic| walk_at "call builtin:len") => `(tactic| ((with_reducible show wpAny _ _ (call (Value.builtin "len") [Value.str (dotS _) _]) _ _ _); refine len_dotsN (by assumption) ?_; intro t' k'))
theorem mul_dotsN {prog : Program} {w : World} {A : Around} {E : Value → Shared → Prop} {s : Shared} {m : Nat} {i : Int} {t u : Tok} {Q : Value → Shared → Prop} (hm : m ≤ 1000) (hi : i = m) (h : ∀ t' k', Q (.str (dotS m) t') { s with toks := k' }) : wpAny (model prog w) A (binaryOp .Mult (.str (Str.ofString ".") t) (.int i u)) Q E s := by
  refine SB.mul (mulOk_of 16 1048576 (by decide) (by omega) (by omega) (by decide) (by decide)) ?_
  intro t' k'
  rw [mul_dots hi]
  exact h t' k'
local macro_rules | `(tactic| walk_at "binaryOp Mult str int") => `(tactic| ((rename HoldMul => ho); refine Held.out ?_))
local macro_rules | `(tactic| walk_at "compareOp NotEq str str") => `(tactic| (refine Held.out ?_))
local macro_rules | `(tactic| walk_at "binaryOp Pow int int") => `(tactic| (refine Held.out ?_))
local macro_rules | `(tactic| walk_at "subscriptTail Name Name ref int") => `(tactic| (refine Held.out ?_))
local macro_rules | `(tactic| walk_at "exec Assign cons ListComp") => `(tactic| (refine Held.out ?_))
local macro_rules | `(tactic| walk_at "binaryOp Mod int int") => `(tactic| ((rename HoldMod => ho); refine modN (V := _) (by decide) rfl ?_ (by decide); intro t'))
local macro_rules | `(tactic| walk_at "binaryOp FloorDiv int int") => `(tactic| ((rename HoldMod => ho); refine fdivN (V := _) (by decide) (by decide) rfl ?_; intro t'))
local macro_rules | `(tactic| walk_at "call builtin:str.join") => `(tactic| (refine Held.out ?_))
local macro_rules | `(tactic| walk_at "call ref") => `(tactic| (refine Held.out ?_))
local macro_rules | `(tactic| walk_at "binaryOp Add ref ref") => `(tactic| ((rename HoldMod => ho); refine Held.out ?_))
local macro_rules | `(tactic| walk_at "compareOp NotEq ref ref") => `(tactic| (refine Held.out ?_))
local macro_rules | `(tactic| walk_at "compareOp Eq ref ref") => `(tactic| (refine Held.out ?_))
local macro_rules | `(tactic| walk_at "exec For Name Subscript cons nil") => `(tactic| ((rename Fr _ _ _ _ => lF'); (with_unfolding_all refine' For_invVF lF' ?k1 ?k2 ?_; (case k1 => exact rfl); (case k2 => exact rfl); k_whole)))
local macro_rules | `(tactic| walk_at "subscriptTail Name Slice ref ref") => `(tactic| ((rename HoldMod => ho); refine Held.out ?_))
local macro_rules | `(tactic| walk_at "pyIter ref") => `(tactic| ((rename HoldMod => ho); refine Held.out ?_))
local macro_rules | `(tactic| walk_at "call builtin:sorted") => `(tactic| (refine Held.out ?_))
local macro_rules | `(tactic| walk_at "CompSrc") => `(tactic| ((rename HoldOff => ho); refine Held.out ?_))
local macro_rules | `(tactic| walk_at "CompEnd") => `(tactic| ((rename HoldOff => ho); refine Held.out ?_))
local macro_rules | `(tactic| walk_at "newList") => `(tactic| (k_dflt (refine' newList_K ?k1 ?k2 ?_ ?k3; (case k1 => k_asm); (case k2 => k_asm); (case k3 => (simp only [List.length_cons, List.length_nil, PySem.sizeLine_eq]; decide)); k_whole); intro l' h' F' N' l1; (try k_lt l1); (try k_sweep)))
theorem itemL_at {prog : Program} {w : World} {A : Around} {E : Value → Shared → Prop} {s : Shared} {value slice : PySem.Expr} {l : Addr} {vs : List Value} {k : Int} {u : Tok} {v : Value} {Q : Value → Shared → Prop}
    (hl : s.heap.IsList l vs.toArray) (h0 : 0 ≤ k) (hhi : k < 2 ^ 63) (hx : vs[k.toNat]? = some v) (h : Q v s)
    (hs : subscripted slice false (.ref l) (.int k u) = operate [.ref l, .int k u] (getItem (.ref l) (.int k u)) := by with_unfolding_all rfl) :
    wpAny (model prog w) A (subscriptTail value slice (.ref l) (.int k u)) Q E s :=
  tail_any hl.typeIs slot_list_getitem.lookup (wpAny_getItem_list hl h0 hhi (by simpa using hx) h) hs
theorem law_pick2 {e0 e1 e2 e3 e4 e5 e6 e7 e8 e9 e10 e11 e12 : Addr × Obj} : ∀ p ∈ [e12, e0, e9, e10, e11], p ∈ [e0, e1, e2, e3, e4, e5, e6, e7, e8, e9, e10, e11, e12] := mem_blk [[e0], [e1, e2, e3, e4, e5, e6, e7, e8], [e9, e10, e11], [e12]] [3, 0, 2] [0, 1, 2, 3] (by decide)
theorem law_pick3 {a h : Addr × Obj} {rest : List (Addr × Obj)} {b c : Addr × Obj} : ∀ p ∈ h :: rest, p ∈ a :: b :: c :: h :: rest := fun p hp => .tail _ (.tail _ (.tail _ hp))
theorem ring_in2 {A : List (Addr × Obj)} {a b : Addr × Obj} {rest : List (Addr × Obj)} : ∀ p ∈ A ++ a :: b :: rest, p ∈ a :: b :: (A ++ rest) := mem_blk [A, [a, b], rest] [0, 1, 2] [1, 0, 2] (by decide)
theorem ring_out2 {A : List (Addr × Obj)} {a b : Addr × Obj} {rest : List (Addr × Obj)} : ∀ p ∈ a :: b :: (A ++ rest), p ∈ A ++ a :: b :: rest := mem_blk [A, [a, b], rest] [1, 0, 2] [0, 1, 2] (by decide)
theorem law_pick4 {d a1 a2 a3 a4 a5 a6 a7 a8 a9 a10 a11 t z c3 c2 c1 : Addr × Obj} : ∀ p ∈ z :: d :: a1 :: a2 :: a3 :: a4 :: a5 :: a6 :: a7 :: a8 :: a9 :: a10 :: a11 :: t :: c3 :: c2 :: [c1], p ∈ d :: a1 :: a2 :: a3 :: a4 :: a5 :: a6 :: a7 :: a8 :: a9 :: a10 :: a11 :: t :: z :: c3 :: c2 :: [c1] := mem_blk [[d, a1, a2, a3, a4, a5, a6, a7, a8, a9, a10, a11, t], [z], [c3, c2, c1]] [1, 0, 2] [0, 1, 2] (by decide)
theorem law_pick5 {d a1 a2 a3 a4 a5 a6 a7 a8 a9 a10 a11 t z c3 c2 c1 : Addr × Obj} : ∀ p ∈ d :: a1 :: a2 :: a3 :: a4 :: a5 :: a6 :: a7 :: a8 :: a9 :: a10 :: a11 :: t :: z :: c3 :: c2 :: [c1], p ∈ z :: d :: a1 :: a2 :: a3 :: a4 :: a5 :: a6 :: a7 :: a8 :: a9 :: a10 :: a11 :: t :: c3 :: c2 :: [c1] := mem_blk [[d, a1, a2, a3, a4, a5, a6, a7, a8, a9, a10, a11, t], [z], [c3, c2, c1]] [0, 1, 2] [1, 0, 2] (by decide)
theorem four_in {i c d n : Addr × Obj} {A R T : List (Addr × Obj)} : ∀ p ∈ i :: c :: d :: (A ++ (R ++ (T ++ [n]))), p ∈ n :: (A ++ i :: c :: d :: (R ++ T)) := mem_blk [[n], [i, c, d], A, R, T] [1, 2, 3, 4, 0] [0, 2, 1, 3, 4] (by decide)
theorem four_sub {i c d : Addr × Obj} {A R T : List (Addr × Obj)} : ∀ p ∈ A ++ R, p ∈ A ++ i :: c :: d :: (R ++ T) := mem_blk [A, [i, c, d], R, T] [0, 2] [0, 1, 2, 3] (by decide)
theorem law_pick6 {a b z d a1 a2 a3 a4 a5 a6 a7 a8 a9 a10 a11 t c3 c2 c1 : Addr × Obj} : ∀ p ∈ a1 :: a2 :: a3 :: a4 :: a5 :: a6 :: a7 :: a8 :: a9 :: a10 :: a11 :: d :: t :: z :: c3 :: c2 :: [c1], p ∈ a :: b :: d :: a1 :: a2 :: a3 :: a4 :: a5 :: a6 :: a7 :: a8 :: a9 :: a10 :: a11 :: t :: z :: c3 :: c2 :: [c1] := mem_blk [[a, b], [d], [a1, a2, a3, a4, a5, a6, a7, a8, a9, a10, a11], [t, z, c3, c2, c1]] [2, 1, 3] [0, 1, 2, 3] (by decide)
theorem law2 : PySem.Challenge.rw_pe0114_02.Holds := hd (by
  k_go0
  all_goals (try k_fold)
  rename_i ww sh0 sh1 mg mb G Y fa oo pm cd doc ho' hcd hg X V T B TE TW ns hs hlay0 hL1 hr1 hl2 w7 w6 scr svs w3 hL ra w1 r0 hI hr hc1 hc2 hDf h1_ tk1_ o3 o2 o1 ho3 ho2 ho1 X0 X1 T1 K1 F1 N1 l0
  have hsz : @LT.lt Nat _ 106 sh1.heap.objs.size := by omega
  k_steps
  refine Held.put ?_
  rename IntsAre _ (List.map _ (List.take 5 _) ++ _) => hIr
  obtain ⟨d0, d1, d2, d3, d4, t0, t1, t2, t3, t4, rfl, hdr⟩ := draws_of5 hIr
  clear hIr
  have hIr : IntsAre [Value.int d0 t0, .int d1 t1, .int d2 t2, .int d3 t3, .int d4 t4] [d0, d1, d2, d3, d4] := .cons _ _ (.cons _ _ (.cons _ _ (.cons _ _ (.cons _ _ .nil))))
  have hd0 := hdr d0 (by simp)
  obtain ⟨h00, h01⟩ := hd0
  have ho : HoldOff := ⟨⟩
  obtain ⟨n, hn, hn34⟩ : ∃ n : Nat, 3 + ([d0, d1, d2, d3, d4].getD (Int.toNat 0) 0).fmod 2 = (n : Int) ∧ (n = 3 ∨ n = 4) := by
    have e : [d0, d1, d2, d3, d4].getD (Int.toNat 0) 0 = d0 := rfl
    rw [e, Int.fmod_eq_emod_of_nonneg _ (by decide)]
    exact ⟨(3 + d0 % 2).toNat, by omega, by omega⟩
  obtain ⟨hp, hhp, hp1, hp3⟩ : ∃ h : Nat, 1 + (([d0, d1, d2, d3, d4].getD (Int.toNat 0) 0).fdiv 2).fmod 3 = (h : Int) ∧ 1 ≤ h ∧ h ≤ 3 := by
    have e : [d0, d1, d2, d3, d4].getD (Int.toNat 0) 0 = d0 := rfl
    rw [e, Int.fmod_eq_emod_of_nonneg _ (by decide)]
    exact ⟨(1 + (d0.fdiv 2) % 3).toNat, by omega, by omega, by omega⟩
  k_steps
  refine Held.put ?_
  (rename News _ _ _ _ => nX); (rename Fr _ _ _ _ => fX); (rename IntsAre _ (List.take _ _) => hW); (rename Obj => cH); (rename cH.data = _ => hcH)
  rw [hn] at fX
  rw [hhp] at hcH
  obtain ⟨zs, hzs, hzl, hz⟩ := words_of hn34 hdr
  rename List Value => wsW
  replace hW : IntsAre wsW zs := by rw [← hzs, ← hn]; exact hW
  rename List.length (List.take (_ - _) _) = _ => hq1
  rename List.length (List.take (_ - _) _) ≤ _ => hq2
  clear hq1 hq2 hn hhp hzs
  k_dflt (refine LCg.Assign_ListComp_U (F₀ := by k_asm) (by rfl) (by with_unfolding_all rfl) (by with_unfolding_all rfl) (by decide) (by rfl) (by decide) (by rfl) (by rfl) (by rfl) ?_)
  k_steps
  refine Held.put ?_
  (rename News _ _ _ _ => nX); (rename Fr _ _ _ _ => fX)
  have hwl := ints_len hW
  refine LCg.CompSrc.ledger rfl fX nX (by k_mem) (by rw [List.size_toArray, hwl, hzl, PySem.sizeLine_eq]; omega) fun g1 => ?_
  refine comp_all (σ := Unit) (fun _ => _) (fun i _ ys => StrsAre ys ((zs.take i).map fun z => ⟨(rowZ z).toArray⟩)) () .nil ?turn1 ?fin1
  case turn1 =>
    --{
    intro i u0 ys v I oI C oC D m₂ h tk E' hi hP hv hC hx F' N' off ne
    have hv' : wsW[i]? = some v := by simpa using hv
    obtain ⟨z, tz, hzi, rfl⟩ := ints_at hW hv'
    have hzb := hz z (List.mem_of_getElem? hzi)
    obtain ⟨hz0, hz1⟩ := hzb
    clear nX fX
    have hm : HoldMod := ⟨⟩
    have htk : (zs.take (i + 1)).map (fun z => (⟨(rowZ z).toArray⟩ : Str)) = (zs.take i).map (fun z => (⟨(rowZ z).toArray⟩ : Str)) ++ [⟨(rowZ z).toArray⟩] := by rw [List.take_add_one, hzi, List.map_append]; rfl
    k_steps
    all_goals (refine Held.put ?_; (rename News _ _ _ _ => nX); (rename Fr _ _ _ _ => fX); refine LCg.CompEnd.intro fX nX _ (fun p hp => .tail _ hp) off (.inr ⟨_, by k_mem, rfl, _, rfl⟩) ⟨(), rfl, ?_⟩; rw [htk]; refine strs_snocE ?_ hP; (rename z / 10 = _ => hE))
    · exact row_close (g := true) (e := 0) (decide_eq_true (by omega)) hE rfl lst_bs lst_nl
    · exact row_close (g := true) (e := 1) (decide_eq_true (by omega)) hE rfl lst_bs lst_cr
    · exact row_close (g := true) (e := 2) (decide_eq_true (by omega)) hE rfl lst_bs lst_cl
    · exact row_close (g := false) (e := 0) (decide_eq_false (by omega)) hE rfl lst_em lst_nl
    · exact row_close (g := false) (e := 1) (decide_eq_false (by omega)) hE rfl lst_em lst_cr
    · exact row_close (g := false) (e := 2) (decide_eq_false (by omega)) hE rfl lst_em lst_cl
    --}
  case fin1 =>
  intro u0 ys hP Dr hr9 tkr9 Fr9 Nr9 or9
  replace hP : StrsAre ys (zs.map fun z => ⟨(rowZ z).toArray⟩) := by
    have e : wsW.toArray.size = zs.length := by rw [List.size_toArray]; exact hwl
    rw [e, List.take_length] at hP; exact hP
  have hRows : ∀ _ : Unit, StrsAre ys (zs.map fun z => ⟨(rowZ z).toArray⟩) := fun _ => hP
  clear nX fX hP or9
  k_steps
  refine Held.put ?_
  k_dflt (refine LCg.Assign_ListComp_U (F₀ := by k_asm) (by rfl) (by with_unfolding_all rfl) (by with_unfolding_all rfl) (by decide) (by rfl) (by decide) (by rfl) (by rfl) (by rfl) ?_)
  k_steps
  refine Held.put ?_
  (rename News _ _ _ _ => nX); (rename Fr _ _ _ _ => fX)
  refine LCg.CompSrc.ledger rfl fX nX (by k_mem) (by rw [List.size_toArray, hwl, hzl, PySem.sizeLine_eq]; omega) fun g2 => ?_
  refine comp_all (σ := Unit) (fun _ => _) (fun i _ ys => IntsAre ys ((zs.take i).map fun z => (sizeN hp z : Int))) () .nil ?turn2 ?fin2
  case turn2 =>
    --{
    intro i u0 ys v I oI C oC D m₂ h tk E' hi hP hv hC hx F' N' off ne
    have hv' : wsW[i]? = some v := by simpa using hv
    obtain ⟨z, tz, hzi, rfl⟩ := ints_at hW hv'
    have hzb := hz z (List.mem_of_getElem? hzi)
    obtain ⟨hz0, hz1⟩ := hzb
    clear nX fX
    have hm : HoldMod := ⟨⟩
    have htk : (zs.take (i + 1)).map (fun z => (sizeN hp z : Int)) = (zs.take i).map (fun z => (sizeN hp z : Int)) ++ [(sizeN hp z : Int)] := by rw [List.take_add_one, hzi, List.map_append]; rfl
    k_steps
    all_goals (refine Held.put ?_; (rename News _ _ _ _ => nX); (rename Fr _ _ _ _ => fX); refine LCg.CompEnd.intro fX nX _ (fun p hp => hp) off (.inr ⟨_, by k_mem, rfl, _, rfl⟩) ⟨(), rfl, ?_⟩; rw [htk]; refine ints_snocE ?_ hP)
    · exact size_g hz0 (by assumption)
    · exact size_n hz0 (by assumption)
    --}
  case fin2 =>
  intro u0 ys2 hP Dz hz9 tkz9 Fz9 Nz9 oz9
  replace hP : IntsAre ys2 (zs.map fun z => (sizeN hp z : Int)) := by
    have e : wsW.toArray.size = zs.length := by rw [List.size_toArray]; exact hwl
    rw [e, List.take_length] at hP; exact hP
  have hSz : ∀ _ : Unit, IntsAre ys2 (zs.map fun z => (sizeN hp z : Int)) := fun _ => hP
  clear nX fX hP
  have oS0 : @Ne Nat 106 Dz := off1_mem oz9 (106, tabObj #[]) (by simp)
  have oS2 : @Ne Nat Dz (sh1.heap.objs.size + 1 + 1) := Ne.symm (off1_mem oz9 (sh1.heap.objs.size + 1 + 1, o2) (by simp))
  have oS3 : @Ne Nat Dz (sh1.heap.objs.size + 1 + 1 + 1) := Ne.symm (off1_mem oz9 (sh1.heap.objs.size + 1 + 1 + 1, o3) (by simp))
  clear oz9
  (rename (@Ne Nat _ _) ∧ _ => oR; clear oR)
  k_steps
  refine Held.put ?_
  obtain ⟨l, el, hl⟩ := strs_values (hRows ())
  subst el
  have hz0 : ∀ z ∈ zs, 0 ≤ z := fun z h => (hz z h).1
  have htl := text_len hz0
  rw [hzl] at htl
  have htl2 : 8 * n ≤ 32 := by omega
  (rename News _ _ _ _ => nX)
  refine wp_joinE ofEmpty ((nX (_, LCg.lst (strValues l)) (by k_mem)).1) (by rw [cat_rows hl, PySem.sizeLine_eq]; omega) ?_
  intro tv k'
  rw [cat_rows hl]
  obtain ⟨W0, hW0⟩ := ex_eq2 (rowsT (zs.map fun z => ((wdZ z).body, eolZ z)))
  have hsent := sent_text hp1 hz0
  rw [hW0] at htl hsent ⊢
  k_steps
  refine Held.put ?_
  (rename News _ _ _ _ => nX)
  k_dflt (refine' ctr_use (sent_ctr _ _ _ _ _ _ (fun h => CodeHd h 110 106) _ ⟨W0.toArray⟩ _ hp _) codeHd ?k1 ?k2 ?k3 nX ?k5 ?kK ?kp ?kd ?ku ?_; (case k1 => k_asm); (case k2 => k_asm); (case k3 => k_asm); (case k5 => k_asm); (case kK => first | exact rfl | assumption); (case kd => ktr_room); (case ku => ktr_units))
  case kp => exact ⟨by rw [len_lst, lst_mk]; omega, hp3⟩
  clear nX
  intro v5 nw5 h5 tk5 hr5 F5 N5
  obtain ⟨⟨t5, hv5⟩, rfl⟩ := hr5
  rw [hsent] at hv5
  subst hv5
  k_steps
  refine Held.put ?_
  (rename News _ _ _ _ => nX)
  have N6 : News _ _ _ _ := fun p hp => nX p (law_pick2 p hp)
  clear nX
  k_dflt (refine' ctr_use (lexer_ctr _ _ _ _ _ _ _ ⟨(rowsC ((wdsN hp zs).map Wd.body)).toArray⟩ _) codeHd ?k1 ?k2 ?k3 N6 ?k5 ?kK ?kp ?kd ?ku ?_; (case k1 => k_asm); (case k2 => k_asm); (case k3 => k_asm); (case k5 => k_asm); (case kK => first | exact rfl | assumption); (case kd => ktr_room); (case ku => ktr_units))
  case kp =>
    refine ⟨by rw [len_lst, lst_mk]; exact sent_len hp3 hzl hn34 hz, fun p hp => ?_⟩
    simp only [List.mem_cons, List.not_mem_nil, or_false] at hp
    rcases hp with rfl | rfl | rfl | rfl
    · exact Ne.symm oS0
    · exact Nat.ne_of_gt (Nat.lt_succ_of_lt (Nat.lt_succ_of_lt (Nat.lt_succ_of_lt hsz)))
    · exact Nat.ne_of_gt (Nat.lt_succ_of_lt (Nat.lt_succ_of_lt hsz))
    · exact Nat.ne_of_gt (Nat.lt_succ_of_lt hsz)
  clear N6
  intro v5 nw5 h5 tk5 hr5 F5 N5
  obtain ⟨x, xtp, xtl, xea, xep, _, _, rfl, hOrd, hRd, hxl, _, _, hcc, _, rfl⟩ := hr5
  obtain ⟨a1, a2, a3, a4, a5, a6, a7, a8, a9, a10⟩ := id hOrd
  have hx1 : @LT.lt Nat _ _ _ := hxl _ (.tail _ (.head _))
  have hx2 : @LT.lt Nat _ _ _ := hxl _ (.tail _ (.tail _ (.head _)))
  have hx3 : @LT.lt Nat _ _ _ := hxl _ (.tail _ (.tail _ (.tail _ (.head _))))
  have hx4 : @LT.lt Nat _ _ _ := hxl _ (.tail _ (.tail _ (.tail _ (.tail _ (.head _)))))
  have hx0 : @LT.lt Nat _ _ _ := hxl _ (.head _)
  dsimp only at hx0 hx1 hx2 hx3 hx4
  simp only [List.cons_append, List.nil_append] at N5
  obtain ⟨q1, q2, q3, q4, q5, q6, q7, q8, q9, q10, q11⟩ := led_ne hOrd (hcc rfl).1 (hcc rfl).2 hx3
  k_steps
  refine Held.put ?_
  rename Obj => cL
  clear q1 q2 q3 q4 q5 q6 q7 q8 q9 q10 q11
  have hcl := hcc rfl
  k_dflt (refine LCg.Assign_ListComp_U (F₀ := by k_asm) (by rfl) (by with_unfolding_all rfl) (by with_unfolding_all rfl) (by decide) (by rfl) (by decide) (by rfl) (by rfl) (by rfl) ?_)
  k_steps
  refine Held.put ?_
  (rename News _ _ _ _ => nX); (rename Fr _ _ _ _ => fX)
  have hwok : ∀ w ∈ wdsN hp zs, w.ok := fun w hw => by
    obtain ⟨z, hzm, rfl⟩ := List.mem_map.mp hw
    exact (wdZ_ok (hz0 z hzm)).sent hp
  have hwn : (wdsN hp zs).length = n := by rw [wdsN, List.length_map, hzl]
  have hTL : (⟨(rowsC ((wdsN hp zs).map Wd.body)).toArray⟩ : Str).length ≤ 1000 := by rw [len_lst, lst_mk]; exact sent_len hp3 hzl hn34 hz
  have hlst : lst ⟨(rowsC ((wdsN hp zs).map Wd.body)).toArray⟩ = restS (wdsN hp zs) 0 := by rw [lst_mk]; rfl
  obtain ⟨TX, hTX⟩ := ex_eq2 (⟨(rowsC ((wdsN hp zs).map Wd.body)).toArray⟩ : Str)
  rw [hTX] at hTL hlst hRd
  obtain ⟨R0, hR0⟩ := ex_eq2 ([(106, tabObj (tabFull 0x68 0x6c x.c1 x.c2)), (Dz, LCg.lst ys2), (sh1.heap.objs.size + 1 + 1 + 1, o3), (sh1.heap.objs.size + 1 + 1, cL), (sh1.heap.objs.size + 1, cH)] : List (Addr × Obj))
  have hR0lt : ∀ q ∈ R0, @LT.lt Nat _ q.1 x.cTx := by
    rw [← hR0]
    intro q hq
    simp only [List.mem_cons, List.not_mem_nil, or_false] at hq
    rcases hq with rfl | rfl | rfl | rfl | rfl <;> assumption
  have hAt : @LT.lt Nat _ x.cTx x.atL := Nat.lt_trans a1 a2
  have hDx : @LT.lt Nat _ x.cTx x.dx := Nat.lt_trans hAt (Nat.lt_trans a3 (Nat.lt_trans a5 (Nat.lt_trans a7 a8)))
  have nX' := nX
  change News _ _ _ (x.led 69 ⟨0, 1, #[], xtp, xea, xtl, xep⟩ ++ [(106, tabObj (tabFull 0x68 0x6c x.c1 x.c2)), (Dz, LCg.lst ys2), (sh1.heap.objs.size + 1 + 1 + 1, o3), (sh1.heap.objs.size + 1 + 1, cL), (sh1.heap.objs.size + 1, cH)]) at nX'
  rw [hR0] at nX'
  refine LCg.CompSrc.range (n := n + 1) rfl fX nX' (by assumption) (small_one (by omega) (by omega) (by omega) (by omega)) (by rw [show (n : Int) + 1 = ((n + 1 : Nat) : Int) by omega]; exact rangeSize_nat _ _) (by rw [PySem.sizeLine_eq]; omega) fun g3 => ?_
  refine comp_all (σ := Int × Int × Tok × Tok) (fun c => x.led 69 ⟨c.1, c.2.1, #[], c.2.2.1, xea, c.2.2.2, xep⟩ ++ R0)
    (fun i c ys => 0 ≤ c.1 ∧ c.1 ≤ TX.length ∧ txR TX c.1 = restS (wdsN hp zs) i ∧ 0 ≤ c.2.1 ∧ c.2.1 + nls (restS (wdsN hp zs) i) = 1 + nls (restS (wdsN hp zs) 0) ∧ StrsAre ys ((tokL (wdsN hp zs)).take i)) (0, 1, xtp, xtl)
    ⟨Int.le_refl _, Int.natCast_nonneg _, hlst, (by show (0 : Int) ≤ 1; decide), rfl, .nil⟩ ?turn3 ?fin3
  case turn3 =>
    --{
    clear nX nX' fX
    intro i c ys v I oI C oC D m₂ h tk E' hi hP hv hC hx F' N' off ne
    obtain ⟨ps, ln, tp9, tl9⟩ := c
    dsimp only at hP N' off
    obtain ⟨hp0, hp1, hpx, hl0, hls, hys⟩ := hP
    rw [← hR0] at N'
    simp only [List.cons_append, List.nil_append] at N'
    k_steps
    refine Held.put ?_
    (rename News _ _ _ _ => nX)
    change News _ _ _ ((I, oI) :: (C, oC) :: (D, LCg.lst ys) :: (x.led 69 ⟨ps, ln, #[], tp9, xea, tl9, xep⟩ ++ [(106, tabObj (tabFull 0x68 0x6c x.c1 x.c2)), (Dz, LCg.lst ys2), (sh1.heap.objs.size + 1 + 1 + 1, o3), (sh1.heap.objs.size + 1 + 1, cL), (sh1.heap.objs.size + 1, cH)])) at nX
    rw [hR0] at nX
    have N5 : News _ _ _ (x.led 69 ⟨ps, ln, #[], tp9, xea, tl9, xep⟩ ++ (I, oI) :: (C, oC) :: (D, LCg.lst ys) :: R0) := fun p hp => nX p (ring_in3 p hp)
    have hoff := off.mem
    have hoA := hoff (x.atL, _) (List.mem_append_left _ (.tail _ (.tail _ (.head _))))
    have hoD := hoff (x.dx, _) (List.mem_append_left _ (List.mem_append_right _ (.tail _ (.tail _ (.head _)))))
    have hrA : ∀ q ∈ (I, oI) :: (C, oC) :: (D, LCg.lst ys) :: R0, q.1 ≠ x.atL := fun q hq => by
      rcases List.mem_cons.mp hq with rfl | hq
      · exact Ne.symm hoA.1
      rcases List.mem_cons.mp hq with rfl | hq
      · exact Ne.symm hoA.2.1
      rcases List.mem_cons.mp hq with rfl | hq
      · exact Ne.symm hoA.2.2
      · exact Nat.ne_of_lt (Nat.lt_trans (hR0lt q hq) hAt)
    have hrD : ∀ q ∈ (I, oI) :: (C, oC) :: (D, LCg.lst ys) :: R0, q.1 ≠ x.dx := fun q hq => by
      rcases List.mem_cons.mp hq with rfl | hq
      · exact Ne.symm hoD.1
      rcases List.mem_cons.mp hq with rfl | hq
      · exact Ne.symm hoD.2.1
      rcases List.mem_cons.mp hq with rfl | hq
      · exact Ne.symm hoD.2.2
      · exact Nat.ne_of_lt (Nat.lt_trans (hR0lt q hq) hDx)
    k_dflt (refine' ctr_use (get_token_ctr _ _ _ _ _ _ (fun h => CodeHd h 110 106) x ps ln tp9 xea tl9 xep TX ((I, oI) :: (C, oC) :: (D, LCg.lst ys) :: R0)) codeHd ?k1 ?k2 ?k3 N5 ?k5 ?kK ?kp ?kd ?ku ?_; (case k1 => k_asm); (case k2 => k_asm); (case k3 => k_asm); (case k5 => k_asm); (case kK => first | exact rfl | assumption); (case kd => ktr_room); (case ku => ktr_units))
    case kp =>
      have hn1 := nls_nonneg (restS (wdsN hp zs) i)
      have hn2 := nls_rest hwok 0
      have hn3 : nls (restS (wdsN hp zs) 0) = (n : Int) := by
        show nls (restR (wdsN hp zs) 0) = _
        rw [hn2, hwn]; simp
      exact ⟨hOrd, hRd, hTL, hp0, hp1, hl0, by rw [hn3] at hls; clear hn34 ne; omega, hrA, hrD, by rw [hpx]; exact okTok_S hwok i⟩
    clear nX N5
    intro v6 nw6 h6 tk6 hr6 F6 N6
    obtain ⟨ps2, ln2, tp2, tl2, tv2, rfl, hq0, hq1, hqx, hqn, hql, rfl⟩ := hr6
    have N7 : News _ _ _ _ := fun p hp => N6 p (ring_out3 p hp)
    clear N6
    k_steps
    refine Held.put ?_
    have hgt := gtok_S hwok (i := i) (by omega)
    rw [hpx, hgt] at hqx
    refine LCg.CompEnd.intro F6 N7 (x.led 69 ⟨ps2, ln2, #[], tp2, xea, tl2, xep⟩ ++ R0) (fun p hp => hp) (off3_led off) trivial ⟨(ps2, ln2, tp2, tl2), rfl, hq0, hq1, hqx, hql, ?_, ?_⟩
    · rw [hpx, hgt] at hqn
      dsimp only at hqn ⊢
      rw [hqn, hls]
    · rw [tokL_take (by rw [hwn]; exact hi)]
      refine strs_snocE ?_ hys
      rw [hpx, hgt]
    --}
  case fin3 =>
  intro c ysH hP Dh hh9 tkh9 Fh9 Nh9 oh9
  obtain ⟨ps, ln, tp9, tl9⟩ := c
  dsimp only at hP Nh9 oh9
  obtain ⟨hp0, hp1', hpx, hl0, hls, hys⟩ := hP
  rw [List.take_of_length_le (by rw [tokL_len, hwn]; exact Nat.le_refl _)] at hys
  have hHk : ∀ _ : Unit, StrsAre ysH (tokL (wdsN hp zs)) := fun _ => hys
  have hoh := off1_mem oh9
  clear nX nX' fX hys oh9
  have hm : HoldMod := ⟨⟩
  rw [← hR0] at Nh9
  simp only [List.cons_append, List.nil_append] at Nh9
  k_steps
  refine Held.put ?_
  (rename News _ _ _ _ => nX); (rename Fr _ _ _ _ => fX)
  have hsl := ints_len (hSz ())
  rw [List.length_map, hzl] at hsl
  refine LCg.CompSrc.ledger rfl fX nX (by k_mem) (by rw [List.size_toArray, hsl, PySem.sizeLine_eq]; omega) fun g4 => ?_
  refine comp_all (σ := Unit) (fun _ => _) (fun i _ ys => StrsAre ys ((zs.take i).map fun z => dotS (sizeN hp z))) () .nil ?turn4 ?fin4
  case turn4 =>
    --{
    intro i u0 ys v I oI C oC D m₂ h tk E' hi hP hv hC hx F' N' off ne
    have hv' : ys2[i]? = some v := by simpa using hv
    obtain ⟨y, ty, hyi, rfl⟩ := ints_at (hSz ()) hv'
    rw [List.getElem?_map] at hyi
    cases hzi : zs[i]? with
    | none => rw [hzi] at hyi; simp at hyi
    | some z =>
    rw [hzi] at hyi
    have hyz : (sizeN hp z : Int) = y := by simpa using hyi
    have hbd := sizeN_bd (hz z (List.mem_of_getElem? hzi)) hp3
    have hy1 : 1 ≤ y := by omega
    have hy2 : y ≤ 8 := by omega
    have htk : (zs.take (i + 1)).map (fun z => dotS (sizeN hp z)) = (zs.take i).map (fun z => dotS (sizeN hp z)) ++ [dotS (sizeN hp z)] := by rw [List.take_add_one, hzi, List.map_append]; rfl
    clear nX fX
    k_steps
    refine Held.put ?_
    (rename News _ _ _ _ => nX); (rename Fr _ _ _ _ => fX)
    refine LCg.CompEnd.intro fX nX _ (fun p hp => hp) off (.inr ⟨_, by k_mem, rfl, _, rfl⟩) ⟨(), rfl, ?_⟩
    rw [htk]
    exact strs_snocE (mul_dots hyz.symm) hP
    --}
  case fin4 =>
  intro u0 ys4 hP Dm hm9 tkm9 Fm9 Nm9 om9
  have hP4 : ∀ _ : Unit, StrsAre ys4 (zs.map fun z => dotS (sizeN hp z)) := fun _ => by
    have e : ys2.toArray.size = zs.length := by rw [List.size_toArray, hsl, hzl]
    rw [e, List.take_length] at hP; exact hP
  have h4l : ys4.length = n := by rw [strs_len (hP4 ()), List.length_map, hzl]
  clear nX fX hP om9
  k_steps
  refine Held.put ?_
  (rename News _ _ _ _ => nX); (rename Fr _ _ _ _ => fX)
  refine kmk_add_lit fX nX (nX.isList (by k_mem)) (nX.isList (by k_mem)) rfl ?_ (by show ys4.length + 1 ≤ _; rw [h4l, PySem.sizeLine_eq]; omega)
  clear nX fX
  intro Da ha9 Fa9 Na9 la9
  k_steps
  refine Held.put ?_
  (rename News _ _ _ _ => nX)
  refine (strs_same nX (by k_mem) (by k_mem) (hHk ()) (by rw [tokL_eq, tok_dots]; exact strs_snocE ofEmpty (hP4 ())) toks_ok (by ke_room)).1 _ ?_
  have N8 : News _ _ _ _ := fun p hp => nX p (law_pick3 p hp)
  clear nX la9
  k_steps
  refine Held.put ?_
  k_dflt (refine' kmk_slice_lit ?xF ?xN ?xl ?xp ?xq (pick_take ysH n) ?_ ?xs ?xt ?xz; (case xF => k_asm); (case xN => k_asm); (case xl => kmk_list); (case xp => exact IsPart.none); (case xq => exact IsPart.int _ _); (case xs => with_unfolding_all rfl); (case xt => kmk_pure); (case xz => (rw [List.size_toArray, strs_len (hHk ()), tokL_len, hwn, PySem.sizeLine_eq]; omega)))
  intro Ds hs9 Fs9 Ns9 ls9
  k_steps
  refine Held.put ?_
  (rename News _ _ _ _ => nX); (rename Fr _ _ _ _ => fX)
  have nX' := nX
  change News _ _ _ ((Ds, listOf (ysH.take n).toArray 0) :: _ :: (x.led 69 ⟨ps, ln, #[], tp9, xea, tl9, xep⟩ ++ [(106, tabObj (tabFull 0x68 0x6c x.c1 x.c2)), (Dz, LCg.lst ys2), (sh1.heap.objs.size + 1 + 1 + 1, o3), (sh1.heap.objs.size + 1 + 1, cL), (sh1.heap.objs.size + 1, cH)])) at nX'
  rw [hR0] at nX'
  have nX2 : News _ _ _ ((Ds, listOf (ysH.take n).toArray 0) :: (x.led 69 ⟨ps, ln, #[], tp9, xea, tl9, xep⟩ ++ R0)) := fun p hp => nX' p ((List.mem_cons.mp hp).elim (fun e => e ▸ .head _) (fun h => .tail _ (.tail _ h)))
  have hdt : StrsAre (ysH.take n) (zs.map fun z => dotS (sizeN hp z)) := by
    have h1 := strs_take (hHk ()) n
    have e : (tokL (wdsN hp zs)).take n = zs.map fun z => dotS (sizeN hp z) := by
      rw [tokL_eq, tok_dots]
      exact List.take_left' (by rw [List.length_map, hzl])
    rw [e] at h1
    exact h1
  have hdl : (ysH.take n).length = n := by rw [strs_len hdt, List.length_map, hzl]
  have hPb : @LT.lt Nat _ x.cTx x.pbL := Nat.lt_trans hDx (Nat.lt_trans a9 a10)
  have hDsP : @Ne Nat Ds x.pbL := Nat.ne_of_gt (ls9 (x.pbL, listOf #[] xep) (by simp))
  refine list_grow (σ := Tok × List Value × Nat) (vs := ysH.take n) (ep := 0) (fun c => (Ds, listOf (ysH.take n).toArray 0) :: (x.led 69 ⟨ps, ln, c.2.1.toArray, tp9, xea, tl9, c.2.2⟩ ++ R0))
    (fun c => [(Str.ofString "size", .int (n : Int) c.1), (Str.ofString "sizes", .ref Dz)]) (fun i c => c.2.1 = (ysH.take n).take i) (_, [], xep) rfl (by exact fX) (by exact nX2) (by kst_all) (by simp) (fun i c _ => .head _) ?turn5 ?done5
  case turn5 =>
    --{
    clear nX nX' nX2 fX
    intro c i v u h tk I it hv ho5 hP F' N'
    obtain ⟨tS, pb, e5⟩ := c
    dsimp only [kstB] at F' hP N' ho5
    replace F' : Fr _ sh1.heap.objs.size h _ := F'
    replace N' : News _ sh1.heap.objs.size h _ := N'
    obtain ⟨y, tv5, hy, rfl⟩ := strs_at hdt hv
    have hpl : pb.length ≤ 1000 := by rw [hP, List.length_take, hdl]; exact Nat.le_trans (Nat.min_le_right _ _) (by omega)
    have hro : ∀ q ∈ (I, it) :: (Ds, listOf (ysH.take n).toArray 0) :: R0, q.1 ≠ x.pbL := fun q hq => by
      rcases List.mem_cons.mp hq with rfl | hq
      · exact Ne.symm (ho5 (x.pbL, _) (.tail _ led_pb))
      rcases List.mem_cons.mp hq with rfl | hq
      · exact hDsP
      · exact Nat.ne_of_lt (Nat.lt_trans (hR0lt q hq) hPb)
    rw [← hR0] at N'
    simp only [List.cons_append, List.nil_append] at N'
    k_steps
    refine Held.put ?_
    (rename News _ _ _ _ => nX)
    change News _ _ _ ((I, it) :: (Ds, listOf (ysH.take n).toArray 0) :: (x.led 69 ⟨ps, ln, pb.toArray, tp9, xea, tl9, e5⟩ ++ [(106, tabObj (tabFull 0x68 0x6c x.c1 x.c2)), (Dz, LCg.lst ys2), (sh1.heap.objs.size + 1 + 1 + 1, o3), (sh1.heap.objs.size + 1 + 1, cL), (sh1.heap.objs.size + 1, cH)])) at nX
    rw [hR0] at nX
    have N5 : News _ _ _ (x.led 69 ⟨ps, ln, pb.toArray, tp9, xea, tl9, e5⟩ ++ (I, it) :: (Ds, listOf (ysH.take n).toArray 0) :: R0) := fun p hp => nX p (ring_in2 p hp)
    k_dflt (refine' ctr_use (push_ctr _ _ _ _ _ _ (fun h => CodeHd h 110 106) x ps ln tp9 xea tl9 e5 pb y tv5 ((I, it) :: (Ds, listOf (ysH.take n).toArray 0) :: R0)) codeHd ?k1 ?k2 ?k3 N5 ?k5 ?kK ?kp ?kd ?ku ?_; (case k1 => k_asm); (case k2 => k_asm); (case k3 => k_asm); (case k5 => k_asm); (case kK => first | exact rfl | assumption); (case kd => ktr_room); (case ku => ktr_units))
    case kp => exact ⟨hOrd, hpl, hro⟩
    clear nX N5
    intro v6 nw6 h6 tk6 hr6 F6 N6
    obtain ⟨rfl, rfl⟩ := hr6
    have N7 : News _ _ _ _ := fun p hp => N6 p (ring_out2 p hp)
    clear N6
    k_steps
    dsimp only [EndG]
    refine joinA_end (tS, pb ++ [.str y tv5], e5 + 1) (by k_asm) N7 (fun p hp => by simpa using hp) (by kst_all) ⟨?_, ?_⟩
    · intro p hp
      rcases List.mem_cons.mp hp with rfl | hp
      · exact ho5 _ (.head _)
      · exact led_adr (y := ⟨ps, ln, pb.toArray, tp9, xea, tl9, e5⟩) (y' := ⟨ps, ln, (pb ++ [Value.str y tv5]).toArray, tp9, xea, tl9, e5 + 1⟩) (fun p hp => ho5 p (.tail _ hp)) p (by simpa using hp)
    · dsimp only
      rw [List.take_add_one, hv, hP]; rfl
    --}
  case done5 =>
  clear nX nX' nX2 fX
  intro c u h tk hP F' N'
  obtain ⟨tS, pb, e5⟩ := c
  dsimp only [kstB] at F' hP N'
  replace F' : Fr _ sh1.heap.objs.size h _ := F'
  replace N' : News _ sh1.heap.objs.size h _ := N'
  rw [List.take_length] at hP
  have hpb : StrsAre pb (zs.map fun z => dotS (sizeN hp z)) := by rw [hP]; exact hdt
  have N8 : News _ _ _ _ := fun p hp => N' p (.tail _ hp)
  clear N' hP
  rw [← hR0] at N8
  simp only [List.cons_append, List.nil_append] at N8
  have hRpb : ∀ q ∈ R0, q.1 ≠ x.pbL := fun q hq => Nat.ne_of_lt (Nat.lt_trans (hR0lt q hq) hPb)
  k_steps
  · skip
    refine Held.put ?_
    have hn3 : n = 3 := by omega
    clear htl htl2
    subst hn3
    obtain ⟨z1, z2, z3, rfl⟩ := three_of hzl
    have b1 := sizeN_bd (hz z1 (by simp)) hp3
    have b2 := sizeN_bd (hz z2 (by simp)) hp3
    have b3 := sizeN_bd (hz z3 (by simp)) hp3
    have hSz3 : IntsAre ys2 [(sizeN hp z1 : Int), (sizeN hp z2 : Int), (sizeN hp z3 : Int)] := hSz ()
    replace hpb : StrsAre pb ([sizeN hp z1, sizeN hp z2, sizeN hp z3].map dotS) := hpb
    generalize sizeN hp z1 = s1 at b1 hSz3 hpb
    generalize sizeN hp z2 = s2 at b2 hSz3 hpb
    generalize sizeN hp z3 = s3 at b3 hSz3 hpb
    (rename News _ _ _ _ => nX)
    change News _ _ _ (x.led 69 ⟨ps, ln, pb.toArray, tp9, xea, tl9, e5⟩ ++ [(106, tabObj (tabFull 0x68 0x6c x.c1 x.c2)), (Dz, LCg.lst ys2), (sh1.heap.objs.size + 1 + 1 + 1, o3), (sh1.heap.objs.size + 1 + 1, cL), (sh1.heap.objs.size + 1, cH)]) at nX
    rw [hR0] at nX
    k_dflt (refine' ctr_use (ring_ctr _ _ _ _ _ _ (fun h => CodeHd h 110 106) x ps ln tp9 xea tl9 e5 pb [s1, s2, s3] 3 7 _ _ R0) codeHd ?k1 ?k2 ?k3 nX ?k5 ?kK ?kp ?kd ?ku ?_; (case k1 => k_asm); (case k2 => k_asm); (case k3 => k_asm); (case k5 => k_asm); (case kK => first | exact rfl | assumption); (case kd => ktr_room); (case ku => ktr_units))
    case kp =>
      refine ⟨hOrd, hpb, rfl, by decide, by decide, by decide, fun m hm => ?_, hRpb⟩
      simp only [List.mem_cons, List.not_mem_nil, or_false] at hm
      omega
    clear nX
    intro v6 nw6 h6 tk6 hr6 F6 N6
    obtain ⟨D1, us1, vs1, ep1, e91, rfl, hU1, hV1, hD1, rfl⟩ := hr6
    rw [← hR0] at N6
    simp only [List.cons_append, List.nil_append] at N6
    k_steps
    refine Held.put ?_
    (rename News _ _ _ _ => nX)
    have N5 : News _ _ _ _ := fun p hp => nX p (law_pick4 p hp)
    k_dflt (refine' ctr_use (common_ctr _ _ _ _ _ _ (fun h => CodeHd h 110 106) _ Dz ys2 _ s1 s2 s3) codeHd ?k1 ?k2 ?k3 N5 ?k5 ?kK ?kp ?kd ?ku ?_; (case k1 => k_asm); (case k2 => k_asm); (case k3 => k_asm); (case k5 => k_asm); (case kK => first | exact rfl | assumption); (case kd => ktr_room); (case ku => ktr_units))
    case kp => exact ⟨hSz3, by omega, by omega, by omega, by omega, by omega, by omega⟩
    clear nX N5
    intro v6 nw6 h6 tk6 hr6 F6 N6
    obtain ⟨⟨r, tr, rfl, hcr⟩, rfl⟩ := hr6
    obtain ⟨g, rfl, hg7, hrot⟩ := euclid b1 b2 b3 hcr
    obtain ⟨m1, m2, m3, hm3⟩ : ∃ m1 m2 m3, turnN 7 [s1, s2, s3] = [m1, m2, m3] := by rcases hrot with h | h | h <;> exact ⟨_, _, _, h⟩
    rw [hm3] at hrot hU1 hV1
    have hml : ∀ m ∈ [m1, m2, m3], m ≤ 20 := by
      intro m hm
      rcases hrot with h | h | h <;> rw [h] at hm <;> simp only [List.mem_cons, List.not_mem_nil, or_false] at hm <;> omega
    obtain ⟨tu1, tu2, tu3, rfl⟩ := strs_three hU1
    have N7 : News _ _ _ _ := fun p hp => N6 p (law_pick5 p hp)
    have hperm : ([m1, m2, m3].map dotS).Perm [dotS 0, dotS g, dotS g] := by
      rcases hrot with h | h | h <;> rw [h]
      · exact .refl _
      · exact .swap _ _ _
      · exact (List.Perm.cons _ (.swap _ _ _)).trans (.swap _ _ _)
    have hT : turnN 1 [m1, m2, m3] = [m3, m1, m2] := by rw [turnN, turnN]; exact turnL_rot hrot
    clear N6 hrot
    k_steps
    refine Held.put ?_
    (rename News _ _ _ _ => nX); (rename Fr _ _ _ _ => fX)
    refine sorted_N_str fX nX (nX.isList (by k_mem)) hU1 (by show 3 < 64; decide) ?_
    clear nX fX
    intro hq9 vsq ssq eq9 Fq Nq hSq hpm hso
    have hss := sort3 (hpm.trans hperm) hso
    subst hss
    replace Nq : News _ sh1.heap.objs.size hq9 ((_, listOf vsq.toArray eq9) :: _) := Nq
    generalize (Array.size (Heap.objs _)) + 1 = Dq at Nq ⊢
    have hSk : ∀ _ : Unit, StrsAre vsq [dotS 0, dotS g, dotS g] := fun _ => hSq
    clear hSq hpm hso hperm
    have hK1 : ∀ _ : Unit, (∀ q ∈ R0, q.1 ≠ x.pbL) ∧ (∀ m ∈ [m1, m2, m3], m ≤ 20) := fun _ => ⟨hRpb, hml⟩
    clear hRpb hml hz hz0 hwok hdr
    k_steps
    refine Held.put ?_
    (rename News _ _ _ _ => nX)
    have e0 : Str.ofString "" = dotS 0 := ofEmpty
    have eM : Txt.mul (Str.ofString ".") (g : Int) = dotS g := mul_dots rfl
    refine (strs_same nX (by k_mem) (by k_mem) (hSk ()) (by rw [← e0, ← eM]; exact .cons _ _ (.cons _ _ (.cons _ _ .nil))) (fun y hy => by simp only [List.mem_cons, List.not_mem_nil, or_false] at hy; rcases hy with rfl | rfl | rfl <;> exact dots_ok) (by ke_room)).1 _ ?_
    k_steps
    refine Held.put ?_
    obtain ⟨hRpb, hml⟩ := hK1 ()
    (rename News _ _ _ _ => nX)
    have N8 : News _ _ _ (x.led 69 ⟨ps, ln, vs1.toArray, tp9, xea, tl9, ep1⟩ ++ (D1, listOf #[.str (dotS m1) tu1, .str (dotS m2) tu2, .str (dotS m3) tu3] e91) :: R0) := fun p hp => nX p (law_pick6 p (by rw [← hR0] at hp; exact hp))
    have hD1P : @Ne Nat D1 x.pbL := Ne.symm (hD1 (x.pbL, _) led_pb)
    k_dflt (refine' ctr_use (ring_ctr _ _ _ _ _ _ (fun h => CodeHd h 110 106) x ps ln tp9 xea tl9 ep1 vs1 [m1, m2, m3] 3 1 _ _ ((D1, listOf #[.str (dotS m1) tu1, .str (dotS m2) tu2, .str (dotS m3) tu3] e91) :: R0)) codeHd ?k1 ?k2 ?k3 N8 ?k5 ?kK ?kp ?kd ?ku ?_; (case k1 => k_asm); (case k2 => k_asm); (case k3 => k_asm); (case k5 => k_asm); (case kK => first | exact rfl | assumption); (case kd => ktr_room); (case ku => ktr_units))
    case kp =>
      refine ⟨hOrd, hV1, rfl, by decide, by decide, by decide, hml, fun q hq => ?_⟩
      rcases List.mem_cons.mp hq with rfl | hq
      · exact hD1P
      · exact hRpb q hq
    clear nX N8 hml hRpb hD1 hK1
    intro v7 nw7 h7 tk7 hr7 F7 N9
    obtain ⟨D2, us2, vs2, ep2, e92, rfl, hU2, hV2, hD2, rfl⟩ := hr7
    rw [hT] at hU2
    rw [← hR0] at N9
    simp only [List.cons_append, List.nil_append] at N9
    have hU2k : ∀ _ : Unit, StrsAre us2 ([m3, m1, m2].map dotS) := fun _ => hU2
    clear hU2 hV2 hD2
    k_steps
    refine Held.put ?_
    (rename News _ _ _ _ => nX)
    refine (strs_same (ys := [m3, m1, m2].map dotS) nX (by k_mem) (by k_mem) (hU2k ()) (.cons _ _ (.cons _ _ (.cons _ _ .nil))) (fun y hy => by obtain ⟨m, _, rfl⟩ := List.mem_map.mp hy; exact dots_ok) (by ke_room)).2 _ ?_
    refine ⟨⟨.inl ⟨_, .bool true, [], rfl, ?g1, ?g2, ?g3, fun _ => ⟨List.nodup_nil, fun _ h => nomatch h⟩⟩, ?g4, ?g5, ?g6⟩, ?g7⟩
    case g1 => intro cls; rfl
    case g2 => constructor
    case g3 => first | exact postW_of (X := true) (by rfl) (by rfl) rfl | exact postW_of (X := true) (by with_unfolding_all rfl) (by with_unfolding_all rfl) rfl | (refine postW_of (X := true) ?_ ?_ rfl <;> kernel_rfl) | (refine postW_of (X := true) ?_ ?_ rfl <;> simp +decide)
    case g4 => exact Fr.keep (by k_asm)
    case g5 => rfl
    case g6 => exact hg
    case g7 =>
      refine And.intro ?_ trivial
      exact GrownAt.of nX (show (106, tabObj (tabFull 0x68 0x6c x.c1 x.c2)) ∈ _ by k_mem)
  · skip
    refine Held.put ?_
    have hn4 : n = 4 := by omega
    clear htl htl2
    subst hn4
    refine wpAny_Assign_Name ?_ (by with_unfolding_all rfl)
    (rename Fr _ _ _ _ => fX)
    k_dflt (refine LCg.ListComp_U (F₀ := by k_asm) (by with_unfolding_all rfl) (by decide) (by rfl) (by decide) (by rfl) ?_)
    k_steps
    refine Held.put ?_
    (rename News _ _ _ _ => nX); (rename Fr _ _ _ _ => fX)
    change News _ _ _ (x.led 69 ⟨ps, ln, pb.toArray, tp9, xea, tl9, e5⟩ ++ [(106, tabObj (tabFull 0x68 0x6c x.c1 x.c2)), (Dz, LCg.lst ys2), (sh1.heap.objs.size + 1 + 1 + 1, o3), (sh1.heap.objs.size + 1 + 1, cL), (sh1.heap.objs.size + 1, cH)]) at nX
    rw [hR0] at nX
    obtain ⟨ss, hss, hsl4, hsb⟩ : ∃ ss : List Nat, (zs.map fun z => sizeN hp z) = ss ∧ ss.length = 4 ∧ ∀ m ∈ ss, 1 ≤ m ∧ m ≤ 8 := ⟨_, rfl, by rw [List.length_map, hzl], fun m hm => by obtain ⟨z, hzm, rfl⟩ := List.mem_map.mp hm; exact sizeN_bd (hz z hzm) hp3⟩
    replace hpb : StrsAre pb (ss.map dotS) := by rw [← hss, List.map_map]; exact hpb
    have nX4 := nX
    rw [← List.append_nil R0] at nX4
    refine LCg.CompSrc.range (n := 3) rfl fX nX4 (by assumption) (small_one (by omega) (by omega) (by omega) (by omega)) (rangeSize_nat _ _) (by rw [PySem.sizeLine_eq]; omega) fun g6 => ?_
    refine comp_all (σ := List Value × Nat × List (Addr × List Value × Nat)) (fun c => x.led 69 ⟨ps, ln, c.1.toArray, tp9, xea, tl9, c.2.1⟩ ++ (R0 ++ c.2.2.map fun q => (q.1, listOf q.2.1.toArray q.2.2)))
      (fun i c ys => StrsAre c.1 ((turnN (4 * i) ss).map dotS) ∧ c.2.2.length = i ∧ ys = c.2.2.map (fun q => Value.ref q.1) ∧ (∀ q ∈ c.2.2, ∀ p ∈ x.led 69 ⟨ps, ln, #[], tp9, xea, tl9, 0⟩ ++ R0, p.1 ≠ q.1) ∧ ∀ j q, c.2.2[j]? = some q → StrsAre q.2.1 ((turnN (4 * (j + 1)) ss).map dotS)) (pb, e5, [])
      ⟨hpb, rfl, rfl, (fun q hq => nomatch hq), fun j q hq => by simp at hq⟩ ?turn6 ?fin6
    case turn6 =>
      clear nX nX4 fX
      intro i c ys v I oI C oC D m₂ h tk E' hi hP hv hC hx F' N' off ne
      obtain ⟨pb6, e6, rs⟩ := c
      dsimp only at hP N' off
      obtain ⟨hpb6, hrl, hys, hrp, hrs⟩ := hP
      obtain ⟨RT, hRT⟩ := ex_eq2 (rs.map fun q => (q.1, listOf q.2.1.toArray q.2.2) : List (Addr × Obj))
      rw [hRT] at N' off
      rw [← hR0] at N'
      simp only [List.cons_append, List.nil_append] at N'
      k_steps
      refine Held.put ?_
      (rename News _ _ _ _ => nX)
      change News _ _ _ ((I, oI) :: (C, oC) :: (D, LCg.lst ys) :: (x.led 69 ⟨ps, ln, pb6.toArray, tp9, xea, tl9, e6⟩ ++ ([(106, tabObj (tabFull 0x68 0x6c x.c1 x.c2)), (Dz, LCg.lst ys2), (sh1.heap.objs.size + 1 + 1 + 1, o3), (sh1.heap.objs.size + 1 + 1, cL), (sh1.heap.objs.size + 1, cH)] ++ RT))) at nX
      rw [hR0] at nX
      have N5 : News _ _ _ (x.led 69 ⟨ps, ln, pb6.toArray, tp9, xea, tl9, e6⟩ ++ (I, oI) :: (C, oC) :: (D, LCg.lst ys) :: (R0 ++ RT)) := fun p hp => nX p (ring_in3 p hp)
      have hoff := off.mem
      have hoP := hoff (x.pbL, _) led_pb
      k_dflt (refine' ctr_use (ring_ctr _ _ _ _ _ _ (fun h => CodeHd h 110 106) x ps ln tp9 xea tl9 e6 pb6 (turnN (4 * i) ss) 4 4 _ _ ((I, oI) :: (C, oC) :: (D, LCg.lst ys) :: (R0 ++ RT))) codeHd ?k1 ?k2 ?k3 N5 ?k5 ?kK ?kp ?kd ?ku ?_; (case k1 => k_asm); (case k2 => k_asm); (case k3 => k_asm); (case k5 => k_asm); (case kK => first | exact rfl | assumption); (case kd => ktr_room); (case ku => ktr_units))
      case kp =>
        refine ⟨hOrd, hpb6, by rw [turnN_len, hsl4], by decide, by decide, by decide, fun m hm => ?_, fun q hq => ?_⟩
        · have := turnN_le (fun m hm => (hsb m hm).2) (4 * i) m hm
          omega
        · rcases List.mem_cons.mp hq with rfl | hq
          · exact Ne.symm hoP.1
          rcases List.mem_cons.mp hq with rfl | hq
          · exact Ne.symm hoP.2.1
          rcases List.mem_cons.mp hq with rfl | hq
          · exact Ne.symm hoP.2.2
          rcases List.mem_append.mp hq with hq | hq
          · exact hRpb q hq
          · rw [← hRT] at hq
            obtain ⟨q', hq', rfl⟩ := List.mem_map.mp hq
            exact Ne.symm (hrp q' hq' (x.pbL, _) led_pb)
      clear nX N5
      intro v6 nw6 h6 tk6 hr6 F6 N6
      obtain ⟨D1, us1, vs1, ep1, e91, rfl, hU1, hV1, hD1, rfl⟩ := hr6
      have hD1P : ∀ p ∈ x.led 69 ⟨ps, ln, #[], tp9, xea, tl9, 0⟩ ++ R0, p.1 ≠ D1 := led_adr (y := ⟨ps, ln, vs1.toArray, tp9, xea, tl9, ep1⟩) fun p hp => hD1 p (four_sub p hp)
      have hD1I : @Ne Nat I D1 ∧ @Ne Nat C D1 ∧ @Ne Nat D D1 := ⟨hD1 (I, oI) (List.mem_append_right _ (.head _)), hD1 (C, oC) (List.mem_append_right _ (.tail _ (.head _))), hD1 (D, LCg.lst ys) (List.mem_append_right _ (.tail _ (.tail _ (.head _))))⟩
      k_steps
      refine Held.put ?_
      have hmp : (rs ++ [(D1, us1, e91)]).map (fun q => (q.1, listOf q.2.1.toArray q.2.2)) = RT ++ [(D1, listOf us1.toArray e91)] := by rw [List.map_append, hRT]; rfl
      have htn : turnN 4 (turnN (4 * i) ss) = turnN (4 * (i + 1)) ss := by rw [turnN_add, Nat.mul_succ, Nat.add_comm]
      rw [htn] at hU1 hV1
      refine LCg.CompEnd.intro F6 N6 (x.led 69 ⟨ps, ln, vs1.toArray, tp9, xea, tl9, ep1⟩ ++ (R0 ++ (RT ++ [(D1, listOf us1.toArray e91)]))) four_in ?off6 trivial ⟨(vs1, ep1, rs ++ [(D1, us1, e91)]), by rw [← hmp], hV1, by rw [List.length_append, hrl]; rfl, by rw [hys, List.map_append]; rfl, ?_, ?_⟩
      case off6 =>
        refine LCg.Off3.of fun p hp => ?_
        rw [← List.append_assoc, ← List.append_assoc] at hp
        rcases List.mem_append.mp hp with hp | hp
        · rw [List.append_assoc] at hp
          exact (off3_led (y' := ⟨ps, ln, vs1.toArray, tp9, xea, tl9, ep1⟩) off).mem p hp
        · rw [List.mem_singleton.mp hp]
          exact ⟨Ne.symm hD1I.1, Ne.symm hD1I.2.1, Ne.symm hD1I.2.2⟩
      · intro q hq
        rcases List.mem_append.mp hq with hq | hq
        · exact hrp q hq
        · rw [List.mem_singleton.mp hq]; exact hD1P
      · intro j q hj
        rcases Nat.lt_or_ge j rs.length with h | h
        · rw [List.getElem?_append_left h] at hj
          exact hrs j q hj
        · rw [List.getElem?_append_right h, hrl] at hj
          have hj0 : j = i := by
            rcases Nat.lt_or_ge (j - i) 1 with h2 | h2
            · omega
            · rw [List.getElem?_eq_none (by simpa using h2)] at hj; cases hj
          subst hj0
          rw [Nat.sub_self] at hj
          cases hj
          exact hU1
    case fin6 =>
    intro c ys6 hP D6 h6 tk6 F6 N6 o6
    obtain ⟨pb6, e6, rs⟩ := c
    dsimp only at hP N6 o6
    obtain ⟨hpb6, hrl, hys, hrp, hrs⟩ := hP
    obtain ⟨⟨r1, u1, f1⟩, ⟨r2, u2, f2⟩, ⟨r3, u3, f3⟩, rfl⟩ : ∃ a b c, rs = [a, b, c] := by
      match rs, hrl with
      | [a, b, c], _ => exact ⟨a, b, c, rfl⟩
    have hs1 := hrs 0 _ rfl
    have hs2 := hrs 1 _ rfl
    have hs3 := hrs 2 _ rfl
    dsimp only at hs1 hs2 hs3
    subst hys
    have w1 := hrp (r1, _) (.head _)
    have w2 := hrp (r2, _) (.tail _ (.head _))
    have w3 := hrp (r3, _) (.tail _ (.tail _ (.head _)))
    have o6' := off1_mem o6
    rw [← hR0] at w1 w2 w3 o6'
    have c31 : @Ne Nat r1 (sh1.heap.objs.size + 1 + 1 + 1) := Ne.symm <| w1 (_, o3) (List.mem_append_right _ (.tail _ (.tail _ (.head _))))
    have c32 : @Ne Nat r2 (sh1.heap.objs.size + 1 + 1 + 1) := Ne.symm <| w2 (_, o3) (List.mem_append_right _ (.tail _ (.tail _ (.head _))))
    have c33 : @Ne Nat r3 (sh1.heap.objs.size + 1 + 1 + 1) := Ne.symm <| w3 (_, o3) (List.mem_append_right _ (.tail _ (.tail _ (.head _))))
    have c34 : @Ne Nat D6 (sh1.heap.objs.size + 1 + 1 + 1) := Ne.symm <| o6' (_, o3) (List.mem_append_right _ (List.mem_append_left _ (.tail _ (.tail _ (.head _)))))
    obtain ⟨q1, q2, q3, q4, q5, q6, q7, q8, q9, q10, q11⟩ := led_ne hOrd hcl.1 hcl.2 hx2
    clear nX nX4 fX hrs w1 w2 w3 o6' o6 hrp
    rw [← hR0] at N6
    simp only [List.cons_append, List.nil_append, List.map_cons, List.map_nil] at N6
    show wpAny _ _ (storeName _ _ _) _ _ _
    k_steps
    refine Held.put ?_
    k_dflt (refine' assign_comp2R (F₀ := by k_asm) ?xL ?xs ?xc ?xd ?xk ?xn ?xx ?xy ?xne ?xf ?xz ?xp ?_; (case xL => rfl); (case xs => with_unfolding_all rfl); (case xc => with_unfolding_all rfl); (case xd => decide); (case xk => rfl); (case xn => decide); (case xx => rfl); (case xy => rfl); (case xne => decide); (case xf => (intro _ _; rfl)); (case xz => rfl); (case xp => rfl))
    k_steps
    (rename News _ _ _ _ => nX); (rename Fr _ _ _ _ => fX)
    have hduc := ducci hsl4 hsb
    refine src2R_none (n := 2) (bx := fun i => if i = 0 then r1 else r2) (its := fun i => if i = 0 then u1 else u2) (ep := fun i => if i = 0 then f1 else f2) rfl fX nX (by assumption) (small_one (by omega) (by omega) (by omega) (by omega)) (rangeSize_nat _ _) ?hb7 ?src7 ?turn7 ?fin7
    case hb7 =>
      intro i hi
      rcases (show i = 0 ∨ i = 1 by omega) with rfl | rfl
      · exact (show (r1, listOf u1.toArray f1) ∈ _ by k_mem)
      · exact (show (r2, listOf u2.toArray f2) ∈ _ by k_mem)
    case src7 =>
      intro g i t I oI C oC D m₂ h tk Q E' hi hC hx F' N' hq
      clear nX fX
      rcases (show i = 0 ∨ i = 1 by omega) with rfl | rfl
      · replace hx : m₂ _ = some (Value.int 0 t) := hx
        k_steps
        refine Held.put ?_
        (rename News _ _ _ _ => nX)
        k_dflt (refine' itemL_at (vs := [.ref r1, .ref r2, .ref r3]) ?xl ?x0 ?x1 ?x2 ?_ ?xs; (case xl => exact nX.isList (by k_mem)); (case x0 => decide); (case x1 => decide); (case x2 => rfl); (case xs => with_unfolding_all rfl))
        exact hq _
      · replace hx : m₂ _ = some (Value.int 1 t) := hx
        k_steps
        refine Held.put ?_
        (rename News _ _ _ _ => nX)
        k_dflt (refine' itemL_at (vs := [.ref r1, .ref r2, .ref r3]) ?xl ?x0 ?x1 ?x2 ?_ ?xs; (case xl => exact nX.isList (by k_mem)); (case x0 => decide); (case x1 => decide); (case x2 => rfl); (case xs => with_unfolding_all rfl))
        exact hq _
    case turn7 =>
      intro g i j t v2 I oI C D I2 oI2 oC m₂ h tk E' hi hv2 hC hx hy F' N'
      clear nX fX
      rcases (show i = 0 ∨ i = 1 by omega) with rfl | rfl
      · obtain ⟨y, ty, hy1, rfl⟩ := strs_at hs1 hv2
        obtain ⟨m0, hm0, rfl⟩ : ∃ m0 : Nat, m0 ∈ turnN (4 * (0 + 1)) ss ∧ y = dotS m0 := by
          obtain ⟨m0, e1, e2⟩ := List.mem_map.mp (List.mem_of_getElem? hy1)
          exact ⟨m0, e1, e2.symm⟩
        have hm2 := hduc.1 m0 hm0
        have hm9 : m0 ≤ 1000 := by have := turnN_le (fun m hm => (hsb m hm).2) _ m0 hm0; omega
        replace hx : m₂ _ = some (Value.int 0 t) := hx
        have hm : HoldMod := ⟨⟩
        have hm3 : HoldMul := ⟨⟩
        clear hy1 hm0 hv2
        k_steps
        refine Held.put ?_
        refine powC (V := 2) (by decide) (by decide) (by decide) ?_
        intro t9
        k_steps
        refine Held.put ?_
        refine mul_dotsN hm9 (by omega) ?_
        intro t8 k8
        k_steps
        refine Held.put ?_
        refine ne_str ?_
        rw [bne_self_eq_false]
        k_steps
        (rename News _ _ _ _ => nX); (rename Fr _ _ _ _ => fX)
        exact NoEnd.made fX nX
      · obtain ⟨y, ty, hy1, rfl⟩ := strs_at hs2 hv2
        obtain ⟨m0, hm0, rfl⟩ : ∃ m0 : Nat, m0 ∈ turnN (4 * (1 + 1)) ss ∧ y = dotS m0 := by
          obtain ⟨m0, e1, e2⟩ := List.mem_map.mp (List.mem_of_getElem? hy1)
          exact ⟨m0, e1, e2.symm⟩
        have hm2 : m0 % 4 = 0 := by
          refine hduc.2.1 m0 ?_
          rw [turnN_add]
          exact hm0
        have hm9 : m0 ≤ 1000 := by have := turnN_le (fun m hm => (hsb m hm).2) _ m0 hm0; omega
        replace hx : m₂ _ = some (Value.int 1 t) := hx
        have hm : HoldMod := ⟨⟩
        have hm3 : HoldMul := ⟨⟩
        clear hy1 hm0 hv2
        k_steps
        refine Held.put ?_
        refine powC (V := 4) (by decide) (by decide) (by decide) ?_
        intro t9
        k_steps
        refine Held.put ?_
        refine mul_dotsN hm9 (by omega) ?_
        intro t8 k8
        k_steps
        refine Held.put ?_
        refine ne_str ?_
        rw [bne_self_eq_false]
        k_steps
        (rename News _ _ _ _ => nX); (rename Fr _ _ _ _ => fX)
        exact NoEnd.made fX nX
    case fin7 =>
    intro g
    clear nX fX
    intro Do ho tko Fo No oo
    k_steps
    refine Held.put ?_
    (rename News _ _ _ _ => nX)
    refine (strs_same (vs := []) (ws := []) (ys := []) nX (by k_mem) (by k_mem) .nil .nil (fun y hy => nomatch hy) (by ke_room)).2 _ ?_
    k_steps
    refine Held.put ?_
    (rename News _ _ _ _ => nX)
    have e0 : Str.ofString "" = dotS 0 := ofEmpty
    have e3 : StrsAre u3 [dotS 0, dotS 0, dotS 0, dotS 0] := by
      have e := hduc.2.2
      rw [turnN_add, turnN_add] at e
      rw [show 4 * (2 + 1) = 4 + (4 + 4) from rfl, e] at hs3
      exact hs3
    refine (strs_same (ys := [dotS 0, dotS 0, dotS 0, dotS 0]) nX (by k_mem) (by k_mem) e3 (by rw [← e0]; exact .cons _ _ (.cons _ _ (.cons _ _ (.cons _ _ .nil)))) (fun y hy => by simp only [List.mem_cons, List.not_mem_nil, or_false, or_self] at hy; subst hy; exact dots_ok) (by ke_room)).2 _ ?_
    refine ⟨⟨.inl ⟨_, .bool true, [], rfl, ?g1, ?g2, ?g3, fun _ => ⟨List.nodup_nil, fun _ h => nomatch h⟩⟩, ?g4, ?g5, ?g6⟩, ?g7⟩
    case g1 => intro cls; rfl
    case g2 => constructor
    case g3 => first | exact postW_of (X := true) (by rfl) (by rfl) rfl | exact postW_of (X := true) (by with_unfolding_all rfl) (by with_unfolding_all rfl) rfl | (refine postW_of (X := true) ?_ ?_ rfl <;> kernel_rfl) | (refine postW_of (X := true) ?_ ?_ rfl <;> simp +decide)
    case g4 => exact Fr.keep (by k_asm)
    case g5 => rfl
    case g6 => exact hg
    case g7 =>
      refine And.intro ?_ trivial
      exact GrownAt.of nX (show (106, tabObj (tabFull 0x68 0x6c x.c1 x.c2)) ∈ _ by k_mem))
end Mine
end
theorem PySem.Challenge.cw_pe0114_02_holds : PySem.Challenge.rw_pe0114_02.Holds :=
  Mine.law2
